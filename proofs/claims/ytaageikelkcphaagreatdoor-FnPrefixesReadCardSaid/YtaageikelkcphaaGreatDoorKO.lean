/- Part 15 of the proof: the texts LI, LJ, LM, joined. What each proves stands ahead of it. -/
import Derived.Test.YtaageikelkcphaaGreatDoorKN
set_option linter.unusedVariables false
set_option linter.unusedSimpArgs false
/- The decoder of prefixes is set. -/
namespace Go.Proofs.YtaageikelkcphaaGreatDoor
open Go Go.RowKit
/-- The cells of a decoder of prefixes. -/
def pl (d2 : Nat) (pre last : Value) : List Value := [.pointer (some ⟨d2, 0, none⟩), pre, last]
theorem valuesLeft_ok (w : World) (d : Nat) (n : Int) (h : w.cell? ⟨d, 0, none⟩ = some (.int .i64 n)) : Calls Tryz.prog 26 #[.pointer (some ⟨d, 0, none⟩)] w fun e w' => e = .returned (.int .i64 n) ∧ w' = w := by
  go_enter Tryz.func26, Tryz.ntmps26
  go_wp2_with fail
  go_ret
  exact ⟨rfl, rfl⟩
/-- Numbers as integers. -/
def natI (l : List Nat) : List Int := l.map fun (n : Nat) => (n : Int)
theorem Data.shift {w : World} {b bo L : Nat} {D : Nat → Nat} (h : Data w b bo L D) (e : Nat) (he : e ≤ L) : Data w b (bo + e) (L - e) (fun j => D (e + j)) :=
  ⟨fun j hj => by have := h.bytes (e + j) (by omega); rwa [← Nat.add_assoc] at this, fun j => h.lt _, fun j hj => h.z _ (by omega)⟩
set_option maxRecDepth 100000 in
set_option maxHeartbeats 1000000 in
theorem prefSet_ok (w : World) (d d2 b bo L C : Nat) (ee eu : Addr) (S M : Nat) (ns : List Nat) (rs : List (List Nat)) (bs bs2 : List Nat) (D : Nat → Nat) (pre0 last0 : Value) (nv0 : Int) (data0 lens0 : Value)
    (h : Row w d (pl d2 pre0 last0)) (hd : d < w.heap.size) (h2 : Row w d2 (ll nv0 data0 lens0)) (hd2 : d2 < w.heap.size) (hne2 : d ≠ d2) (hD : Data w b bo L D) (hE : Eofs w ee eu) (hL : L ≤ C) (hC : C ≤ 9223372036854775807) (hLb : L ≤ 1000000000) (hdb : d ≠ b) (hdb2 : d2 ≠ b) (hg : 4 < d) (hg2 : 4 < d2)
    (henc : DeltaEnc RowKit.wrap32 32 S M (natI ns) bs) (henc2 : DeltaEnc RowKit.wrap32 32 S M (lenI rs) bs2) (hf : BlkFit S M) (hs : StandB D 0 (bs ++ (bs2 ++ rs.flatten))) (hbl : bs.length + bs2.length + rs.flatten.length ≤ L) (hN : ns.length ≤ 1000000) (hNN : rs.length = ns.length) (hsm : ∀ r ∈ rs, r.length ≤ 1000000) (hns : ∀ n ∈ ns, n ≤ 1000000) :
    Calls Tryz.prog 14 #[.pointer (some ⟨d, 0, none⟩), .int .i64 ns.length, .slice (some ⟨b, bo, none⟩) L C] w fun e w' =>
      e = .returned .nilIface ∧ Chg (fun a _ => a = d ∨ a = d2) w w' ∧ ∃ pb lb po R C', w.heap.size ≤ pb ∧ pb < w'.heap.size ∧ w.heap.size ≤ lb ∧ lb < w'.heap.size ∧ pb ≠ lb ∧ Row w' d (pl d2 (.slice (some ⟨pb, 0, none⟩) ns.length ns.length) (.slice none 0 0)) ∧ (∀ (j n : Nat), ns[j]? = some n → w'.cell? ⟨pb, j, none⟩ = some (.int .i32 (n : Int))) ∧ LS w' d2 b lb rs po R C' 0 rs.length := by
  have hN0 : 0 < ns.length := by
    obtain ⟨x0, ys, z, bl, e, -⟩ := henc
    have := congrArg List.length e
    unfold natI at this
    rw [List.length_map, List.length_cons] at this
    omega
  have q0 := h.at 0 rfl
  have q2 := h.at 2 rfl
  have q2f := h.fr 2
  have c3 := h2.at 3 rfl
  have H := Lib.hid h
  have H2 := Lib.hid h2
  have HD := Lib.hid hD
  have HE := Lib.hid hE
  have Henc := Lib.hid henc
  have Henc2 := Lib.hid henc2
  have Hs := Lib.hid hs
  have hmk := make_i32n ns.length hN
  have HNN := Lib.hid hNN
  clear h h2 hD hE henc henc2 hs hNN
  go_enter Tryz.func14, Tryz.ntmps14
  go_upto_region 2 with fail
  have hcw : Chg (Own d) w (w.setCell ⟨d, 2, none⟩ (.slice none 0 0)) := (Chg.refl _ _).own 2 _
  have hRw := H.out.put 2 (.slice none 0 0)
  have q0' : (w.setCell ⟨d, 2, none⟩ (.slice none 0 0)).cell? ⟨d, 0, none⟩ = some (.pointer (some ⟨d2, 0, none⟩)) := hRw.at 0 rfl
  have c3' : (w.setCell ⟨d, 2, none⟩ (.slice none 0 0)).cell? ⟨d2, 3, none⟩ = some (.iface 42 (.agg #[])) := hcw.keep c3 (fun e => hne2 e.symm)
  obtain ⟨wa, hwa⟩ : ∃ wa, wa = w.setCell ⟨d, 2, none⟩ (.slice none 0 0) := ⟨_, rfl⟩
  have hsza : wa.heap.size = w.heap.size := by rw [hwa]; simp
  rw [← hwa] at hcw hRw q0' c3' ⊢
  have Hcw := Lib.hid hcw
  have HRw := Lib.hid hRw
  have Hsza := Lib.hid hsza
  clear hcw hRw hwa q0 q2 q2f c3 hsza
  go_cut [6, 7] (fun v6 v7 wx => v6 = .nilIface ∧ ∃ dd, wa.heap.size ≤ dd ∧ dd < wx.heap.size ∧ v7 = .pointer (some ⟨dd, 0, none⟩) ∧ Chg Nix wa wx ∧ Row wx dd dl0)
  case first =>
    have HI : HR.InvL [(⟨d, 0, none⟩, .pointer (some ⟨d2, 0, none⟩)), (⟨d2, 3, none⟩, .iface 42 (.agg #[]))] wa.drew := .cons q0' (.cons c3' (.nil _))
    refine HR.region2 (HR.InvL [(⟨d, 0, none⟩, .pointer (some ⟨d2, 0, none⟩)), (⟨d2, 3, none⟩, .iface 42 (.agg #[]))]) 0 9 [9, 0, 1, 2, 3, 4, 5, 6, 7, 8, 10] (by decide) (by kernel_rfl) (by kernel_rfl) (by decide) (by decide) ?_ ?_
    · (refine HR.effect rfl rfl HI (fun K hK => ?_); go_simp)
      refine (dec_base_ok _).mono ?_
      rintro e w6 ⟨rfl, rfl⟩
      dsimp only
      refine HR.back hK ?_ (fun HI2 => ?_)
      · exact .cons (cell_alloc _ q0') (.cons (cell_alloc _ c3') (.nil _))
      clear hK K HI
      have HI := HI2
      repeat (first | (refine HR.pure rfl rfl (fun K hK => ?_); go_simp; refine hK _ ?_; clear hK K) | (refine HR.loadI HI 0 rfl rfl rfl ?_ ?_; (focus (intro w' hc; go_simp; done)); go_simp) | (refine HR.loadI HI 1 rfl rfl rfl ?_ ?_; (focus (intro w' hc; go_simp; done)); go_simp) | (refine HR.loadI HI 2 rfl rfl rfl ?_ ?_; (focus (intro w' hc; go_simp; done)); go_simp) | (refine HR.loadI HI 3 rfl rfl rfl ?_ ?_; (focus (intro w' hc; go_simp; done)); go_simp))
      (refine HR.effect rfl rfl HI (fun K hK => ?_); go_simp)
      refine HR.back hK ?_ (fun HI3 => ?_)
      · exact .cons (cell_alloc _ (cell_alloc _ q0')) (.cons (cell_alloc _ (cell_alloc _ c3')) (.nil _))
      clear hK K HI HI2
      have HI := HI3
      repeat (first | (refine HR.pure rfl rfl (fun K hK => ?_); go_simp; refine hK _ ?_; clear hK K) | (refine HR.loadI HI 0 rfl rfl rfl ?_ ?_; (focus (intro w' hc; go_simp; done)); go_simp) | (refine HR.loadI HI 1 rfl rfl rfl ?_ ?_; (focus (intro w' hc; go_simp; done)); go_simp) | (refine HR.loadI HI 2 rfl rfl rfl ?_ ?_; (focus (intro w' hc; go_simp; done)); go_simp) | (refine HR.loadI HI 3 rfl rfl rfl ?_ ?_; (focus (intro w' hc; go_simp; done)); go_simp))
      refine HR.store rfl rfl (fun K hK => ?_)
      have hgw : ((wa.alloc (.cells #[.int .i64 0, .slice none 0 0, .int .i64 0] 65)).alloc (.cells dlz.toArray 75)).heap[wa.heap.size + 1]? = some (.cells dlz.toArray 75 (0, 0)) := by
        rw [show wa.heap.size + 1 = (wa.alloc (.cells #[.int .i64 0, .slice none 0 0, .int .i64 0] 65)).heap.size by simp]
        exact heap_alloc_last _ _
      refine wp_store_row 75 _ _ rfl (wa.heap.size + 1) dl0.toArray (by rfl) (by rfl) 75 dlz.toArray hgw (by kernel_rfl) (by rfl) dl0_one (hK _ _ ?_)
      clear hK K
      refine HR.nil ?_
      go_wp2_with fail
      go_meet
      exact ⟨rfl, wa.heap.size + 1, by omega, by simp, rfl, ((((Chg.new wa _).alloc _)).drew).setRowNew (by omega) _, Row.setRow hgw⟩
    · simp only [List.filterMap_cons, List.filterMap_nil, List.getElem?_toArray, List.getElem?_cons_zero, List.getElem?_cons_succ]
      (refine HR.effect rfl rfl HI (fun K hK => ?_); go_simp)
      refine HR.back hK ?_ (fun HI2 => ?_)
      · exact .cons (cell_alloc _ q0') (.cons (cell_alloc _ c3') (.nil _))
      clear hK K HI
      have HI := HI2
      (refine HR.effect rfl rfl HI (fun K hK => ?_); go_simp)
      refine (dec_base_ok _).mono ?_
      rintro e w6 ⟨rfl, rfl⟩
      dsimp only
      refine HR.back hK ?_ (fun HI3 => ?_)
      · exact .cons (cell_alloc _ (cell_alloc _ q0')) (.cons (cell_alloc _ (cell_alloc _ c3')) (.nil _))
      clear hK K HI HI2
      have HI := HI3
      repeat (first | (refine HR.pure rfl rfl (fun K hK => ?_); go_simp; refine hK _ ?_; clear hK K) | (refine HR.loadI HI 0 rfl rfl rfl ?_ ?_; (focus (intro w' hc; go_simp; done)); go_simp) | (refine HR.loadI HI 1 rfl rfl rfl ?_ ?_; (focus (intro w' hc; go_simp; done)); go_simp) | (refine HR.loadI HI 2 rfl rfl rfl ?_ ?_; (focus (intro w' hc; go_simp; done)); go_simp) | (refine HR.loadI HI 3 rfl rfl rfl ?_ ?_; (focus (intro w' hc; go_simp; done)); go_simp))
      refine HR.store rfl rfl (fun K hK => ?_)
      have hgw : ((wa.alloc (.cells dlz.toArray 75)).alloc (.cells #[.int .i64 0, .slice none 0 0, .int .i64 0] 65)).heap[wa.heap.size]? = some (.cells dlz.toArray 75 (0, 0)) :=
        (Below.heap_alloc _ _ _ (by simp)).trans (heap_alloc_last _ _)
      refine wp_store_row 75 _ _ rfl wa.heap.size dl0.toArray (by rfl) (by rfl) 75 dlz.toArray hgw (by kernel_rfl) (by rfl) dl0_one (hK _ _ ?_)
      clear hK K
      refine HR.nil ?_
      go_wp2_with fail
      go_meet
      exact ⟨rfl, wa.heap.size, by omega, by simp; omega, rfl, ((((Chg.new wa _).alloc _)).drew).setRowNew (by omega) _, Row.setRow hgw⟩
  case rest =>
    obtain ⟨rfl, dd, hdd1, hdd2, rfl, hC1, hR1⟩ := hcut
    have hsza := Hsza.out
    have hda : d < wa.heap.size := by omega
    have hne : dd ≠ d := by omega
    have hne' : dd ≠ d2 := by omega
    have hbpos : 0 < bs.length := by
      obtain ⟨x0, ys, z, bl, -, e, -⟩ := Henc.out
      rw [e, List.length_append]
      have := vlq_pos S
      omega
    have hbpos2 : 0 < bs2.length := by
      obtain ⟨x0, ys, z, bl, -, e, -⟩ := Henc2.out
      rw [e, List.length_append]
      have := vlq_pos S
      omega
    have hbw : b < w.heap.size := World.block_lt_of_cell? w _ (HD.out.bytes 0 (by omega))
    have hlenr : (natI ns).length = ns.length := List.length_map ..
    have hrange : ∀ y ∈ natI ns, -2147483648 ≤ y ∧ y ≤ 2147483647 := by
      intro y hy
      obtain ⟨r, hr, rfl⟩ := List.mem_map.1 hy
      have := hns r hr
      omega
    have hDa := (HD.out.keep Hcw.out (fun j _ (e : b = d) => hdb e.symm))
    have hEa := HE.out.keep Hcw.out (fun (e : _ = d) => by omega) (fun (e : _ = d) => by omega)
    have hcall := deltaStart_ok wc dd b bo L C ee eu ns.length S M (natI ns) bs D hR1 hdd2 (hDa.keep hC1 (fun _ _ e => e)) (hEa.keep hC1 (fun e => e) (fun e => e)) hL hC (by omega) (by omega) (by omega) Henc.out hf Hs.out.app.1 (by omega) (by omega) hN hrange
    have Hcall := Lib.hid hcall
    have HC1 := Lib.hid hC1
    have HDa := Lib.hid hDa
    have HEa := Lib.hid hEa
    have hdc := hC1.lt hda
    clear hcall hR1 hC1 hDa hEa hsza
    go_wp2_with fail
    refine Hcall.out.mono ?_
    rintro e1 w2 ⟨rfl, hc2, c, mb, v, O, hcb, hO, hds⟩
    rw [hlenr] at hds
    have p15 := hds.dx.1.row.at 15 rfl
    have p00 := hds.dx.1.row.at 0 rfl
    have hC2 : Chg (Own dd) wc w2 := hc2
    have hRd2 : Row w2 d (pl d2 pre0 (.slice none 0 0)) := (HRw.out.keep hda HC1.out (fun _ e => e)).keep hdc hC2 (fun _ e => hne e.symm)
    have c1 := hRd2.at 1 rfl
    have f1 := hRd2.fr 1
    have hd2' := hC2.lt hdc
    have hNw : IntKind.u64.wrap (ns.length : Int) = ns.length := wrap64 _ (by omega) (by show (ns.length : Int) < 18446744073709551616; omega)
    have hNn : ¬ (ns.length : Int) < ns.length := by omega
    have hN0' : ¬ (ns.length : Int) < 0 := by omega
    have Hds := Lib.hid hds
    have HC2 := Lib.hid hC2
    have HO := Lib.hid hO
    have HRd2 := Lib.hid hRd2
    have Hvl := Lib.hid (valuesLeft_ok w2 dd _ p00)
    clear hds hc2 hC2 hO hRd2
    go_wp2_with fail
    refine Hvl.out.mono ?_
    rintro e1 w2' ⟨rfl, hw22⟩
    rw [hw22]
    clear hw22
    dsimp only
    go_wp2_with fail
    obtain ⟨pb, hpb⟩ : ∃ pb, pb = w2.heap.size := ⟨_, rfl⟩
    rw [← hpb]
    have hc3 : Chg (Own d) w2 ((w2.setCell ⟨d, 1, none⟩ (.slice (some ⟨pb, 0, none⟩) ns.length ns.length)).alloc (.cells (madeCells #[.int .i32 0] ns.length) 21)) := ((Chg.refl (Own d) w2).own 1 _).alloc _
    have hmade : ∀ j, j < ns.length → ((w2.setCell ⟨d, 1, none⟩ (.slice (some ⟨pb, 0, none⟩) ns.length ns.length)).alloc (.cells (madeCells #[.int .i32 0] ns.length) 21)).cell? ⟨pb, j, none⟩ = some (.int .i32 0) := by
      intro j hj
      have := made_cell (w2.setCell ⟨d, 1, none⟩ (.slice (some ⟨pb, 0, none⟩) ns.length ns.length)) (.int .i32 0) ns.length j 21 hj
      rw [World.size_setCell, ← hpb] at this
      exact this
    have hmf : ∀ j, ((w2.setCell ⟨d, 1, none⟩ (.slice (some ⟨pb, 0, none⟩) ns.length ns.length)).alloc (.cells (madeCells #[.int .i32 0] ns.length) 21)).frozen? ⟨pb, j, none⟩ = false := fun j => fresh_frozenL (by rw [World.size_setCell]; exact hpb) j
    have hnx := Chg.new (w2.setCell ⟨d, 1, none⟩ (.slice (some ⟨pb, 0, none⟩) ns.length ns.length)) (.cells (madeCells #[.int .i32 0] ns.length) 21)
    have hR3 : Row ((w2.setCell ⟨d, 1, none⟩ (.slice (some ⟨pb, 0, none⟩) ns.length ns.length)).alloc (.cells (madeCells #[.int .i32 0] ns.length) 21)) d (pl d2 (.slice (some ⟨pb, 0, none⟩) ns.length ns.length) (.slice none 0 0)) := by
      have hp : Row (w2.setCell ⟨d, 1, none⟩ (.slice (some ⟨pb, 0, none⟩) ns.length ns.length)) d (pl d2 (.slice (some ⟨pb, 0, none⟩) ns.length ns.length) (.slice none 0 0)) := HRd2.out.put 1 (.slice (some ⟨pb, 0, none⟩) ns.length ns.length)
      exact hp.keep (by simpa using hd2') hnx (fun _ e => e)
    clear hnx
    have hd3 : d < ((w2.setCell ⟨d, 1, none⟩ (.slice (some ⟨pb, 0, none⟩) ns.length ns.length)).alloc (.cells (madeCells #[.int .i32 0] ns.length) 21)).heap.size := by simp; omega
    generalize ((w2.setCell ⟨d, 1, none⟩ (.slice (some ⟨pb, 0, none⟩) ns.length ns.length)).alloc (.cells (madeCells #[.int .i32 0] ns.length) 21)) = w3 at hc3 hmade hmf hR3 hd3 ⊢
    have hsza := Hsza.out
    have hOd : ¬ O d := fun hh => by rcases HO.out d hh with e | e <;> omega
    have hOd2 : ¬ O d2 := fun hh => by rcases HO.out d2 hh with e | e <;> omega
    have hds3 : DSx false O c w3 dd mb S M (S / M) ns.length ns.length (.slice (some ⟨b, bo, none⟩) L C) (natI ns) bs.length v := by
      rcases Hds.out with ⟨e, -⟩ | ⟨-, x, ys, e1, e2, e3⟩
      · cases e
      · exact .inr ⟨rfl, x, ys, e1, e2, e3.keep hc3 (fun k x (e : k = d) => ⟨e ▸ hOd, by rw [e, hcb]; exact hdb, by rw [e]; exact hg⟩)⟩
    have hpbg := Hds.out.dx.1.gd
    have hpbd := Hds.out.dx.1.dlt
    have hpbO : ¬ O pb := fun hh => by have := Hds.out.dx.2.lt pb hh; omega
    have hw2 := HC2.out.size
    have hwc := HC1.out.size
    have hcall := deltaDecode_ok false O c w3 dd mb S M (S / M) ns.length ns.length (.slice (some ⟨b, bo, none⟩) L C) (natI ns) bs.length v pb 0 ns.length ns.length ns.length (by rw [hlenr]; exact (Nat.min_self _).symm) hN0 (by rw [hlenr]) (by omega) hds3 (Nat.le_refl _) (by omega) hpbO (by rw [hcb]; omega) (by omega) (fun j hj => ⟨_, by rw [Nat.zero_add]; exact hmade j hj⟩) hmf
    have Hcall2 := Lib.hid hcall
    have HC3 := Lib.hid hc3
    have HR3 := Lib.hid hR3
    have hpbd2 : pb ≠ d := by omega
    have hpbd3 : pb ≠ d2 := by omega
    have hpbw : w.heap.size ≤ pb := by omega
    have Hpb := Lib.hid hpb
    clear hpb hcall hc3 hds3 hmade hmf hR3 Hcall Hds p15 p00 c1 f1 hsza
    refine Hcall2.out.mono ?_
    rintro e1 w4 ⟨rfl, O', v', hL4⟩
    dsimp only
    have hxs0 : (natI ns).drop ns.length = [] := List.drop_of_length_le (by omega)
    have hds4 := hL4.ds
    rw [hxs0] at hds4
    have hch4 := hL4.chg
    have hR4 := HR3.out.keep hd3 hch4 (fun x (e : O d ∨ (d = pb ∧ 0 ≤ x ∧ x < 0 + ns.length)) => e.elim hOd (fun e => hpbd2 e.1.symm))
    have hd4 := hL4.chg.lt hd3
    have c1 := hR4.at 1 rfl
    have Hcall3 := Lib.hid (bytesRead_ok true O' c w4 dd mb S M (S / M) _ _ _ _ v' hds4)
    have HL4 := Lib.hid hL4
    have HR4 := Lib.hid hR4
    clear hL4 hds4 hR4 Hcall2 hch4
    go_wp2_with fail
    refine Hcall3.out.mono ?_
    rintro e1 w5 ⟨rfl, hC5⟩
    dsimp only
    have hR5 := HR4.out.keep hd4 hC5 (fun _ e => e)
    have c0 := hR5.at 0 rfl
    have hd5 := hC5.lt hd4
    have HC5 := Lib.hid hC5
    have HR5 := Lib.hid hR5
    have b1 : ¬ (bs.length : Int) < 0 := by omega
    have b2 : ¬ (L : Int) < bs.length := by omega
    have b3 : (bs.length : Int).toNat = bs.length := by omega
    have b4 : (0 : Int) ≤ bs.length := by omega
    have b5 : (bs.length : Int) ≤ L := by omega
    have b6 : (bs.length : Int) ≤ C := by omega
    have b7 : ¬ C = bs.length := by omega
    clear Hcall3 c1 hC5 hR5
    go_upto_region 17 with fail
    have hsza := Hsza.out
    have hCw : Chg (Own d) w w5 := by
      have k1 : Chg (Own d) w wc := Hcw.out.comp HC1.out (fun _ _ _ e => e) (fun _ _ _ e => e.elim)
      have k2 : Chg (Own d) w w2 := k1.comp HC2.out (fun _ _ _ e => e) (fun a x ha (e : a = dd) => absurd ha (by omega))
      have k3 : Chg (Own d) w w3 := k2.trans HC3.out
      have k4 : Chg (Own d) w w4 := k3.comp HL4.out.chg (fun _ _ _ e => e) (by
        rintro a x ha (e | ⟨e, -⟩)
        · rcases HO.out a e with e | e <;> omega
        · omega)
      exact k4.comp HC5.out (fun _ _ _ e => e) (fun _ _ _ e => e.elim)
    have hD5 := (HD.out.keep hCw (fun j _ (e : b = d) => hdb e.symm)).shift bs.length (by omega)
    have hE5 := HE.out.keep hCw.drew (fun (e : _ = d) => by have := hg; omega) (fun (e : _ = d) => by have := hg; omega)
    have hR25 := H2.out.keep hd2 hCw (fun _ e => hne2 e.symm)
    have hs2 : StandB (fun j => D (bs.length + j)) 0 (bs2 ++ rs.flatten) := fun j x hx => by
      have := Hs.out.app.2 j x hx
      rwa [Nat.zero_add] at this ⊢
    have hcall := lenSet_ok w5.drew d2 b (bo + bs.length) (L - bs.length) (C - bs.length) ee eu S M rs bs2 (fun j => D (bs.length + j)) nv0 data0 lens0 hR25.drew (hCw.lt hd2) hD5.drew hE5 (by omega) (by omega) (by omega) hdb2 hg2 Henc2.out hf hs2 (by omega) (by rw [HNN.out]; exact hN) hsm
    rw [HNN.out] at hcall
    have Hcall4 := Lib.hid hcall
    have HCw := Lib.hid hCw
    clear hcall hD5 hE5 hR25 hs2 hCw hsza
    (refine wp_region_txt [] (by kernel_rfl) (by kernel_rfl) ?_; repeat (first | (refine wpTxt_pure rfl rfl (fun K hK => ?_); go_simp; refine hK _ ?_; clear hK K) | (refine wpTxt_still rfl rfl (fun K hK => ?_); go_simp; refine hK _ ?_; clear hK K)))
    (refine wpTxt_effect rfl rfl (fun K hK => ?_); go_simp)
    refine Hcall4.out.mono ?_
    rintro e1 w6 ⟨rfl, hc6, lb, po, R, C', hlb1, hlb2, hLS⟩
    dsimp only
    have hc6' := hc6.undrew
    have hR6 := HR5.out.keep hd5 hc6' (fun _ e => hne2 e)
    have c0' := hR6.at 0 rfl
    have c1' := hR6.at 1 rfl
    have r0 := hLS.row.at 0 rfl
    rw [HNN.out] at r0
    have HLS := Lib.hid hLS
    have Hc6 := Lib.hid hc6'
    have HR6 := Lib.hid hR6
    have hNe2 : ¬ ((ns.length : Int) ≠ ns.length) := by simp
    clear hc6 hc6' hLS hR6 Hcall4 c0
    (refine hK _ _ ?_; clear hK K)
    repeat (first | (refine wpTxt_pure rfl rfl (fun K hK => ?_); go_simp; refine hK _ ?_; clear hK K) | (refine wpTxt_still rfl rfl (fun K hK => ?_); go_simp; refine hK _ ?_; clear hK K))
    refine wpTxt_nil ?_
    go_wp2_with fail
    (refine wp_region_txt [] (by kernel_rfl) (by kernel_rfl) ?_; repeat (first | (refine wpTxt_pure rfl rfl (fun K hK => ?_); go_simp; refine hK _ ?_; clear hK K) | (refine wpTxt_still rfl rfl (fun K hK => ?_); go_simp; refine hK _ ?_; clear hK K)))
    refine wpTxt_nil ?_
    go_wp2_with fail
    go_ret
    have hsz6 := Hc6.out.size
    have hpbl : pb < w5.heap.size := World.block_lt_of_cell? _ _ (HC5.out.keep (HL4.out.cel 0 hN0).choose_spec (fun e => e))
    have hCw := HCw.out
    have hw5 := hCw.size
    have hCf : Chg (fun a _ => a = d ∨ a = d2) w w6 := hCw.comp Hc6.out (fun a x _ (e : a = d) => .inl e) (fun a x _ (e : a = d2) => .inr e)
    have hpbl2 : pb < w5.drew.heap.size := hpbl
    have hlb1' : w5.heap.size ≤ lb := hlb1
    refine ⟨rfl, hCf.drew, pb, lb, po, R, C', hpbw, Nat.lt_of_lt_of_le hpbl hsz6, by omega, hlb2, by omega, HR6.out.drew, fun j n hn => ?_, by have := HLS.out; rw [HNN.out]; exact ⟨this.row.drew, this.dlt, this.rc, this.cc, this.llc, this.lcc, this.fits, this.bytes, this.lens, this.small, this.db, this.dl⟩⟩
    have hj : j < ns.length := (List.getElem?_eq_some_iff.1 hn).1
    obtain ⟨x, h1, h2⟩ := HL4.out.out j hj
    unfold natI at h1
    rw [List.getElem?_map, hn] at h1
    injection h1 with h1
    rw [Nat.zero_add, ← h1] at h2
    exact Hc6.out.keep (HC5.out.keep h2 (fun e => e)) (fun e => hpbd3 e)
end Go.Proofs.YtaageikelkcphaaGreatDoor
/- The decoder of prefixes: where it stands; how much room a batch takes. -/
namespace Go.Proofs.YtaageikelkcphaaGreatDoor
open Go Go.RowKit
theorem Prefs.get {last : List Nat} {ns : List Nat} {rs ls : List (List Nat)} (h : Prefs last ns rs ls) : ∀ (t : Nat), t < ls.length → ∃ n r l p, ns[t]? = some n ∧ rs[t]? = some r ∧ ls[t]? = some l ∧ (last :: ls)[t]? = some p ∧ n ≤ p.length ∧ l = p.take n ++ r := by
  induction h with
  | nil => intro t ht; simp at ht
  | @cons last n r ns rs ls hn h ih =>
    intro t ht
    cases t with
    | zero => exact ⟨n, r, _, last, rfl, rfl, rfl, rfl, hn, rfl⟩
    | succ t =>
      obtain ⟨n', r', l', p', h1, h2, h3, h4, h5, h6⟩ := ih t (by simpa using ht)
      exact ⟨n', r', l', p', by simpa using h1, by simpa using h2, by simpa using h3, by simpa using h4, h5, h6⟩
theorem Prefs.drop {last : List Nat} {ns : List Nat} {rs ls : List (List Nat)} (h : Prefs last ns rs ls) : ∀ (t : Nat) (p : List Nat), (last :: ls)[t]? = some p → Prefs p (ns.drop t) (rs.drop t) (ls.drop t) := by
  induction h with
  | nil last =>
    intro t p hp
    cases t with
    | zero => simp at hp; subst hp; exact .nil _
    | succ t => simp at hp
  | @cons last n r ns rs ls hn h ih =>
    intro t p hp
    cases t with
    | zero => simp at hp; subst hp; exact .cons hn h
    | succ t =>
      have := ih t p (by simpa using hp)
      simpa using this
/-- How many bytes of room the values take: those whose rest is empty take none. -/
def asz : List (List Nat) → List (List Nat) → Nat
  | r :: rs, l :: ls => (if r = [] then 0 else l.length) + asz rs ls
  | _, _ => 0
theorem asz_take : ∀ (rs ls : List (List Nat)) (t : Nat) (r l : List Nat), rs[t]? = some r → ls[t]? = some l → asz (rs.take (t + 1)) (ls.take (t + 1)) = asz (rs.take t) (ls.take t) + (if r = [] then 0 else l.length)
  | [], _, t, r, l, h, _ => by simp at h
  | _ :: _, [], t, r, l, _, h => by simp at h
  | r0 :: rs, l0 :: ls, 0, r, l, h1, h2 => by
    simp at h1 h2; subst h1; subst h2; simp [asz]
  | r0 :: rs, l0 :: ls, t + 1, r, l, h1, h2 => by
    have := asz_take rs ls t r l (by simpa using h1) (by simpa using h2)
    simp only [List.take_succ_cons, asz] at this ⊢
    omega
theorem asz_mono (rs ls : List (List Nat)) : ∀ (t : Nat), asz (rs.take t) (ls.take t) ≤ asz rs ls := by
  induction rs generalizing ls with
  | nil => intro t; simp [asz]
  | cons r rs ih =>
    intro t
    cases ls with
    | nil => simp [asz]
    | cons l ls =>
      cases t with
      | zero => simp [asz]
      | succ t => simp only [List.take_succ_cons, asz]; have := ih ls t; omega
/-- Where a decoder of prefixes stands: before the texts ls. -/
structure PS (K : Nat → Nat → Prop) (w : World) (d d2 b lb pb : Nat) (last : List Nat) (lastV : Value) (ns : List Nat) (rs ls : List (List Nat)) (k pc po R C lo lc : Nat) : Prop where
  row : Row w d (pl d2 (.slice (some ⟨pb, k, none⟩) ns.length pc) lastV)
  dlt : d < w.heap.size
  llc : ns.length ≤ pc
  lcc : pc ≤ 1000000000000000000
  pre : ∀ (t n : Nat), ns[t]? = some n → w.cell? ⟨pb, k + t, none⟩ = some (.int .i32 (n : Int))
  st : LS w d2 b lb rs po R C lo lc
  prefs : Prefs last ns rs ls
  lv : (lastV = .slice none 0 0 ∧ last = []) ∨ BA K w lastV last
  small : ∀ l ∈ ls, l.length ≤ 1000000
  lsm : last.length ≤ 1000000
  tot : asz rs ls ≤ 1000000000
  cnt : ls.length ≤ 1000000
  dd2 : d ≠ d2
  db : d ≠ b
  dlb : d ≠ lb
  dpb : d ≠ pb
  d2pb : d2 ≠ pb
theorem ba_nil (a : Addr) (n c : Nat) (W : World) : (binOp .eql 51 (.slice (some a) n c) (.slice none 0 0)).run Tryz.prog W = .ok (.bool false) W := by kernel_rfl
theorem ba_nil0 (W : World) : (binOp .eql 51 (.slice none 0 0) (.slice none 0 0)).run Tryz.prog W = .ok (.bool true) W := by kernel_rfl
end Go.Proofs.YtaageikelkcphaaGreatDoor
/- The decoder of prefixes: how much room a batch takes, walked. -/
namespace Go.Proofs.YtaageikelkcphaaGreatDoor
open Go Go.RowKit
set_option maxRecDepth 100000 in
set_option maxHeartbeats 1000000 in
theorem arena_ok (K : Nat → Nat → Prop) (w : World) (d d2 b lb pb : Nat) (last : List Nat) (lastV : Value) (ns : List Nat) (rs ls : List (List Nat)) (k pc po R C lo lc m : Nat) (h : PS K w d d2 b lb pb last lastV ns rs ls k pc po R C lo lc) (hm : 1 ≤ m) (hm2 : m ≤ ls.length) :
    Calls Tryz.prog 31 #[.pointer (some ⟨d, 0, none⟩), .int .i64 m] w fun e w' => e = .returned (.tuple #[.int .i64 (asz (rs.take m) (ls.take m)), .nilIface]) ∧ w' = w := by
  have q0 := h.row.at 0 rfl
  have q1 := h.row.at 1 rfl
  have q2 := h.row.at 2 rfl
  have q4 := h.st.row.at 4 rfl
  obtain ⟨l1, l2⟩ := h.prefs.len
  have hcnt := h.cnt
  obtain ⟨pz, lz, cz, rfl, hlz⟩ : ∃ pz lz cz, lastV = .slice pz lz cz ∧ lz = last.length := by
    rcases h.lv with ⟨e, e2⟩ | ⟨g, o, c, e, -⟩
    · exact ⟨_, _, _, e, by rw [e2]; rfl⟩
    · exact ⟨_, _, _, e, rfl⟩
  obtain ⟨z, hz, hg, hzc⟩ : ∃ z : Bool, (∀ W, (binOp .eql 51 (.slice pz lz cz) (.slice none 0 0)).run Tryz.prog W = .ok (.bool z) W) ∧ (∀ W x y, (eqGuard .eql 51 x y (.slice pz lz cz) (.slice none 0 0)).run Tryz.prog W = .ok () W) ∧ (z = true → last = []) := by
    rcases h.lv with ⟨e, e2⟩ | ⟨g, o, c, e, -⟩
    · injection e with e1 e2' e3
      subst e1; subst e2'; subst e3
      exact ⟨true, ba_nil0, fun W x y => by kernel_rfl, fun _ => e2⟩
    · injection e with e1 e2' e3
      subst e1
      exact ⟨false, fun W => ba_nil _ _ _ W, fun W x y => by kernel_rfl, fun hh => by cases hh⟩
  have hnn : ns.length = ls.length := l1
  have hrr : rs.length = ls.length := l2
  have Hnn := Lib.hid hnn
  have Hrr := Lib.hid hrr
  have Hlz := Lib.hid hlz
  have hlzs : lz ≤ 1000000 := by have := h.lsm; omega
  have H := Lib.hid h
  clear h l1 l2 hnn hrr hlz
  go_enter Tryz.func31, Tryz.ntmps31
  go_upto_if 36 with fail
  go_cut [1, 4, 5, 7, 8, 9, 10] (fun v1 v4 v5 v7 v8 v9 v10 wx => wx = w ∧ v4 = .int .i64 0 ∧ v5 = .nilIface ∧ ∃ q : Nat, q ≤ m ∧ v1 = .int .i64 ((m - q : Nat) : Int) ∧ v7 = .int .i64 (asz (rs.take q) (ls.take q)) ∧ (∃ a8 c8, v8 = .slice (some a8) (ns.length - q) c8 ∧ (q < ns.length → a8 = ⟨pb, k + q, none⟩)) ∧ (∃ a9 c9, v9 = .slice (some a9) (rs.length - q) c9 ∧ (q < rs.length → a9 = ⟨lb, lo + q, none⟩)) ∧ ∃ p, (last :: ls)[q]? = some p ∧ v10 = .int .i64 (p.length : Nat))
  case first =>
    cases z with
    | false =>
      go_wp2_with fail
      go_meet
      exact ⟨rfl, rfl, rfl, 0, Nat.zero_le _, rfl, by simp [asz], ⟨_, _, rfl, fun _ => rfl⟩, ⟨_, _, rfl, fun _ => rfl⟩, last, rfl, by rw [Hlz.out]⟩
    | true =>
      obtain ⟨n, r, l, p, g1, g2, g3, g4, g5, g6⟩ := H.out.prefs.get 0 (by omega)
      have hl0 := hzc rfl
      have g4' : last = p := Option.some.inj g4
      rw [← g4', hl0] at g5 g6
      have hn0 : n = 0 := Nat.le_zero.1 g5
      subst hn0
      have hlr : l = r := g6
      subst hlr
      clear g4 g4' g5 g6
      have p1 := H.out.pre 0 0 g1
      have p2 := H.out.st.lens 0 l g2
      have hsm := H.out.small l (List.mem_of_getElem? g3)
      rw [Nat.add_zero] at p1 p2
      have hN0 : ¬ (ns.length : Int) = 0 := by have := Hnn.out; omega
      have hN1 : (0 : Int) < ns.length := by omega
      have hR0 : ¬ (rs.length : Int) = 0 := by have := Hrr.out; omega
      have hR1 : (0 : Int) < rs.length := by omega
      have hN2 : ((ns.length : Int) == 0) = false := beq_eq_false_iff_ne.2 hN0
      have hR2 : ((rs.length : Int) == 0) = false := beq_eq_false_iff_ne.2 hR0
      have i0 : ¬ (l.length : Int) < 0 := by omega
      have i1 : IntKind.i64.wrap (l.length : Int) = l.length := IntWalk.i64_in _ (by omega)
      have hllc := H.out.llc
      have hslc := H.out.st.llc
      have hasz : asz (rs.take 1) (ls.take 1) = l.length := by
        rw [asz_take rs ls 0 l l g2 g3]
        simp only [List.take_zero, asz, Nat.zero_add]
        split
        · rename_i e; rw [e]; rfl
        · rfl
      have hwm : ∀ q : Nat, q ≤ m → RowKit.wrap64 ((m : Int) - q) = ((m - q : Nat) : Int) := fun q hq => by unfold RowKit.wrap64; omega
      have e1 : (m : Int) - 1 = ((m - 1 : Nat) : Int) := by omega
      have Hg3 := Lib.hid g3
      clear g1 g2 g3
      go_wp2_with fail
      all_goals (go_meet; exact ⟨rfl, rfl, rfl, 1, hm, by first | rw [e1] | rfl, by rw [hasz], ⟨_, _, rfl, fun hh => by first | rfl | (exfalso; omega)⟩, ⟨_, _, rfl, fun hh => by first | rfl | (exfalso; omega)⟩, l, by simpa using Hg3.out, rfl⟩)
  case rest =>
    obtain ⟨rfl, rfl, rfl, q, hqm, rfl, rfl, ⟨a8, c8, rfl, ha8⟩, ⟨a9, c9, rfl, ha9⟩, p0, hp0, rfl⟩ := hcut
    clear hz hg hzc q0 q1 q2 q4
    have Hp0 := Lib.hid hp0
    clear hp0
    go_wp2_with fail
    go_loopw [4, 5, 7, 10, 12] (fun v4 v5 v7 v10 v12 wr => wr = wc ∧ v4 = .int .i64 0 ∧ v5 = .nilIface ∧ ∃ i : Nat, q + i ≤ m ∧ v12 = .int .i64 i ∧ v7 = .int .i64 (asz (rs.take (q + i)) (ls.take (q + i))) ∧ ∃ p, (last :: ls)[q + i]? = some p ∧ v10 = .int .i64 (p.length : Nat)) (fun _ _ _ _ v12 _ => m - q - (intOf v12).toNat)
    case atStart => exact ⟨rfl, rfl, rfl, 0, hqm, rfl, rfl, p0, Hp0.out, rfl⟩
    case round =>
      obtain ⟨rfl, rfl, rfl, i, hi, rfl, rfl, p, hp, rfl⟩ := hrel
      by_cases hlt : q + i < m
      · obtain ⟨n, r, l, p', g1, g2, g3, g4, g5, g6⟩ := H.out.prefs.get (q + i) (by omega)
        have g4' : p = p' := Option.some.inj (hp.symm.trans g4)
        subst g4'
        obtain rfl := ha8 (by have := Hnn.out; omega)
        obtain rfl := ha9 (by have := Hrr.out; omega)
        have p1 := H.out.pre (q + i) n g1
        have p2 := H.out.st.lens (q + i) r g2
        rw [← Nat.add_assoc] at p1 p2
        have hsl := H.out.small l (List.mem_of_getElem? g3)
        have hll : l.length = n + r.length := by rw [g6, List.length_append, List.length_take]; omega
        have hat := asz_take rs ls (q + i) r l g2 g3
        have ham := asz_mono rs ls (q + i + 1)
        have htt := H.out.tot
        have hNN := Hnn.out
        have hRR := Hrr.out
        obtain ⟨T, hT⟩ : ∃ T, T = asz (rs.take (q + i)) (ls.take (q + i)) := ⟨_, rfl⟩
        rw [← hT] at hat ⊢
        have hg3' : (last :: ls)[q + (i + 1)]? = some l := by rw [← Nat.add_assoc]; simpa using g3
        have i0 : (i : Int) < ((m - q : Nat) : Int) := by omega
        have i1 : (0 : Int) ≤ i := by omega
        have i2 : (i : Int).toNat = i := by omega
        have i3 : ¬ ((ns.length - q : Nat) : Int) ≤ i := by omega
        have i4 : ¬ ((rs.length - q : Nat) : Int) ≤ i := by omega
        have i5 : (i : Int) < ((ns.length - q : Nat) : Int) := by omega
        have i6 : (i : Int) < ((rs.length - q : Nat) : Int) := by omega
        have i7 : ¬ (n : Int) < 0 := by omega
        have i8 : ¬ (p.length : Int) < n := by omega
        have i9 : ¬ (r.length : Int) < 0 := by omega
        have j1 : IntKind.i64.wrap (n : Int) = n := IntWalk.i64_in _ (by omega)
        have j2 : IntKind.i64.wrap (r.length : Int) = r.length := IntWalk.i64_in _ (by omega)
        have HM3 := Lib.hid (show RowKit.wrap64 ((n : Int) + r.length) = (l.length : Int) by unfold RowKit.wrap64; omega)
        obtain ⟨M4, hM4⟩ : ∃ M4, M4 = RowKit.wrap64 ((9223372036854775807 : Int) - n) := ⟨_, rfl⟩
        have j4 : ¬ M4 < r.length := by rw [hM4]; unfold RowKit.wrap64; omega
        have HM4 := Lib.hid hM4
        clear hM4
        obtain ⟨M5, hM5⟩ : ∃ M5, M5 = RowKit.wrap64 ((9223372036854775807 : Int) - T) := ⟨_, rfl⟩
        have j5 : ¬ M5 < l.length := by rw [hM5]; unfold RowKit.wrap64; split at hat <;> omega
        have HM5 := Lib.hid hM5
        clear hM5
        have HM6 : r ≠ [] → RowKit.wrap64 ((T : Int) + l.length) = ((T + l.length : Nat) : Int) := fun hr => by rw [if_neg hr] at hat; unfold RowKit.wrap64; omega
        have HM6 := Lib.hid HM6
        have Hg3' := Lib.hid hg3'
        have Hat := Lib.hid hat
        have Hll := Lib.hid hll
        have hi1 : q + (i + 1) ≤ m := by omega
        clear g1 g2 g3 g4 g5 g6 hp hg3' hat ham htt hT hll hNN hRR
        by_cases hr : r = []
        · have hr0 : ((r.length : Int) == 0) = true := by rw [hr]; rfl
          have hat2 : asz (rs.take (q + i + 1)) (ls.take (q + i + 1)) = T := by rw [Hat.out, if_pos hr]; rfl
          have Hat2 := Lib.hid hat2
          clear hr hat2
          go_upto_if 108 with fail
          rw [← HM4.out]
          go_upto_if 115 with fail
          rw [HM3.out]
          go_wp2_with fail
          go_roundw
          case rel => exact ⟨trivial, rfl, rfl, i + 1, hi1, by go_num, by rw [← Nat.add_assoc, Hat2.out], l, Hg3'.out, rfl⟩
          case measure => simp [intOf]; omega
        · have hr0 : ((r.length : Int) == 0) = false := beq_eq_false_iff_ne.2 (by have := List.length_pos_iff.2 hr; omega)
          have hat2 : asz (rs.take (q + i + 1)) (ls.take (q + i + 1)) = T + l.length := by rw [Hat.out, if_neg hr]
          have Hat2 := Lib.hid hat2
          have HM7 := Lib.hid (HM6.out hr)
          clear hr hat2
          go_upto_if 108 with fail
          rw [← HM4.out]
          go_upto_if 115 with fail
          rw [HM3.out]
          go_upto_if 120 with fail
          rw [← HM5.out]
          go_upto_region 21 with fail
          rw [HM7.out]
          go_wp2_with fail
          go_roundw
          case rel => exact ⟨trivial, rfl, rfl, i + 1, hi1, by go_num, by rw [← Nat.add_assoc, Hat2.out], l, Hg3'.out, rfl⟩
          case measure => simp [intOf]; omega
      · have hke : q + i = m := by omega
        have i0 : ¬ (i : Int) < ((m - q : Nat) : Int) := by omega
        have Hke := Lib.hid hke
        clear hke
        go_wp2_with fail
        go_ret2
        exact ⟨by rw [Hke.out]; rfl, rfl⟩
end Go.Proofs.YtaageikelkcphaaGreatDoor
