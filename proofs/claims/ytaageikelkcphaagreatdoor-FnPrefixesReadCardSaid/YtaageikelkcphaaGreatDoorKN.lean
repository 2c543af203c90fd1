/- Part 14 of the proof: the texts LG, LH, joined. What each proves stands ahead of it. -/
import Derived.Test.YtaageikelkcphaaGreatDoorKM
import Derived.Deep.WholeRow
import Derived.Laws.CopyOwn
import Derived.Deep.RegionWith
set_option linter.unusedVariables false
set_option linter.unusedSimpArgs false
/- The decoder of lengths is set. -/
namespace Go.Proofs.YtaageikelkcphaaGreatDoor
open Go Go.RowKit
theorem Row.allocs {w w1 : World} {L : List Value} {t : TypeId} (hw : w1 = w.alloc (.cells L.toArray t)) : Row w1 w.heap.size L := by
  subst hw
  refine ⟨fun j v hv => ?_, fun j => by simp⟩
  rw [World.cell?_alloc_new]
  simpa using hv
theorem Chg.ofBelow {w w' : World} (h : Below w.heap.size w w') : Chg Nix w w' :=
  ⟨h.os, h.tape, h.output, h.size, fun k hk _ => h.block k hk, fun k o hk _ => by unfold World.cell?; rw [h.block k hk], fun k o hk => by unfold World.frozen?; rw [h.block k hk]⟩
theorem Chg.toBelow {w w' : World} (h : Chg Nix w w') : Below w.heap.size w w' := h.below (Nat.le_refl _) (fun _ _ _ h => h)
theorem Chg.setRowNew {w W : World} (h : Chg Nix w W) {g : Nat} (hg : w.heap.size ≤ g) (cs : Array Value) : Chg Nix w (W.setRow g cs) :=
  Chg.ofBelow (below_setRow (h.below (Nat.le_refl _) (fun _ _ _ e => e)) hg cs)
theorem Row.setRow {W : World} {g : Nat} {old : Array Value} {t : TypeId} {L : List Value} (hg : W.heap[g]? = some (.cells old t (0, 0))) : Row (W.setRow g L.toArray) g L := by
  have h := setRow_heap W g old L.toArray t (0, 0) hg
  refine ⟨fun j v hv => ?_, fun j => ?_⟩
  · rw [cell_of_row _ _ j _ t (0, 0) h]; simpa using hv
  · exact frozen_of_row _ _ j _ t h
theorem Row.drew {w : World} {d : Nat} {L : List Value} (h : Row w d L) : Row w.drew d L := ⟨h.at', h.fr⟩
/-- A decoder of deltas that is zero. -/
def dlz : List Value := [.int .i64 0, .slice none 0 0, .int .i64 0, .nilIface, .bool false, .pointer none, .int .u64 0, .int .u32 0, .int .u64 0, .int .u32 0, .int .u32 0, .int .i64 0, .int .u64 0, .pointer none, .int .u8 0, .int .u64 0, .int .i64 0, .slice none 0 0, .slice none 0 0]
theorem dl0_one : (dl0.toArray.all fun x => x.oneCell') = true := by simp [dl0, dl, Value.oneCell']
theorem sum_take (rs : List (List Nat)) (k : Nat) : ((rs.take k).map List.length).sum ≤ (rs.map List.length).sum := by
  conv => rhs; rw [← List.take_append_drop k rs]
  rw [List.map_append, List.sum_append]; omega
theorem flat_sum (rs : List (List Nat)) : rs.flatten.length = (rs.map List.length).sum := by rw [List.length_flatten]
theorem sum_succ (rs : List (List Nat)) (k : Nat) (r : List Nat) (h : rs[k]? = some r) : ((rs.take (k + 1)).map List.length).sum = ((rs.take k).map List.length).sum + r.length := by
  rw [List.take_add_one, h, List.map_append, List.sum_append]; simp
set_option maxRecDepth 100000 in
set_option maxHeartbeats 1000000 in
theorem lenSet_ok (w : World) (d b bo L C : Nat) (ee eu : Addr) (S M : Nat) (rs : List (List Nat)) (bs : List Nat) (D : Nat → Nat) (nv0 : Int) (data0 lens0 : Value) (h : Row w d (ll nv0 data0 lens0)) (hd : d < w.heap.size) (hD : Data w b bo L D) (hE : Eofs w ee eu) (hL : L ≤ C) (hC : C ≤ 9223372036854775807) (hLb : L ≤ 1000000000) (hdb : d ≠ b) (hg : 4 < d)
    (henc : DeltaEnc RowKit.wrap32 32 S M (lenI rs) bs) (hf : BlkFit S M) (hs : StandB D 0 (bs ++ rs.flatten)) (hbl : bs.length + rs.flatten.length ≤ L) (hN : rs.length ≤ 1000000) (hsm : ∀ r ∈ rs, r.length ≤ 1000000) :
    Calls Tryz.prog 29 #[.pointer (some ⟨d, 0, none⟩), .int .i64 rs.length, .slice (some ⟨b, bo, none⟩) L C] w fun e w' =>
      e = .returned .nilIface ∧ Chg (Own d) w w' ∧ ∃ lb po R C', w.heap.size ≤ lb ∧ lb < w'.heap.size ∧ LS w' d b lb rs po R C' 0 rs.length := by
  have hN0 : 0 < rs.length := by
    obtain ⟨x0, ys, z, bl, e, -⟩ := henc
    have := congrArg List.length e
    unfold lenI at this
    rw [List.length_map, List.length_cons] at this
    omega
  have c3 := h.at 3 rfl
  have H := Lib.hid h
  have HD := Lib.hid hD
  have HE := Lib.hid hE
  have Henc := Lib.hid henc
  have Hs := Lib.hid hs
  have hflat := flat_sum rs
  have Hflat := Lib.hid hflat
  have hmk := make_i32u rs.length hN
  clear h hD hE henc hs hflat
  go_enter Tryz.func29, Tryz.ntmps29
  go_upto_region 1 with fail
  go_cut [6, 7] (fun v6 v7 wx => v6 = .nilIface ∧ ∃ dd, w.heap.size ≤ dd ∧ dd < wx.heap.size ∧ v7 = .pointer (some ⟨dd, 0, none⟩) ∧ Chg Nix w wx ∧ Row wx dd dl0)
  case first =>
    have HI : HR.InvL [(⟨d, 3, none⟩, .iface 42 (.agg #[]))] w.drew := .cons c3 (.nil _)
    refine HR.region2 (HR.InvL [(⟨d, 3, none⟩, .iface 42 (.agg #[]))]) 0 6 [6, 0, 1, 2, 3, 4, 5, 7] (by decide) (by kernel_rfl) (by kernel_rfl) (by decide) (by decide) ?_ ?_
    · (refine HR.effect rfl rfl HI (fun K hK => ?_); go_simp)
      refine (dec_base_ok _).mono ?_
      rintro e w6 ⟨rfl, rfl⟩
      dsimp only
      refine HR.back hK ?_ (fun HI2 => ?_)
      · exact .cons (cell_alloc _ c3) (.nil _)
      clear hK K HI
      have HI := HI2
      repeat (first | (refine HR.pure rfl rfl (fun K hK => ?_); go_simp; refine hK _ ?_; clear hK K) | (refine HR.loadI HI 0 rfl rfl rfl ?_ ?_; (focus (intro w' hc; go_simp; done)); go_simp) | (refine HR.loadI HI 1 rfl rfl rfl ?_ ?_; (focus (intro w' hc; go_simp; done)); go_simp) | (refine HR.loadI HI 2 rfl rfl rfl ?_ ?_; (focus (intro w' hc; go_simp; done)); go_simp) | (refine HR.loadI HI 3 rfl rfl rfl ?_ ?_; (focus (intro w' hc; go_simp; done)); go_simp))
      (refine HR.effect rfl rfl HI (fun K hK => ?_); go_simp)
      refine HR.back hK ?_ (fun HI3 => ?_)
      · exact .cons (cell_alloc _ (cell_alloc _ c3)) (.nil _)
      clear hK K HI HI2
      have HI := HI3
      repeat (first | (refine HR.pure rfl rfl (fun K hK => ?_); go_simp; refine hK _ ?_; clear hK K) | (refine HR.loadI HI 0 rfl rfl rfl ?_ ?_; (focus (intro w' hc; go_simp; done)); go_simp) | (refine HR.loadI HI 1 rfl rfl rfl ?_ ?_; (focus (intro w' hc; go_simp; done)); go_simp) | (refine HR.loadI HI 2 rfl rfl rfl ?_ ?_; (focus (intro w' hc; go_simp; done)); go_simp) | (refine HR.loadI HI 3 rfl rfl rfl ?_ ?_; (focus (intro w' hc; go_simp; done)); go_simp))
      refine HR.store rfl rfl (fun K hK => ?_)
      have hgw : ((w.alloc (.cells #[.int .i64 0, .slice none 0 0, .int .i64 0] 65)).alloc (.cells dlz.toArray 75)).heap[w.heap.size + 1]? = some (.cells dlz.toArray 75 (0, 0)) := by
        rw [show w.heap.size + 1 = (w.alloc (.cells #[.int .i64 0, .slice none 0 0, .int .i64 0] 65)).heap.size by simp]
        exact heap_alloc_last _ _
      refine wp_store_row 75 _ _ rfl (w.heap.size + 1) dl0.toArray (by rfl) (by rfl) 75 dlz.toArray hgw (by kernel_rfl) (by rfl) dl0_one (hK _ _ ?_)
      clear hK K
      refine HR.nil ?_
      go_wp2_with fail
      go_meet
      exact ⟨rfl, w.heap.size + 1, by omega, by simp, rfl, ((((Chg.new w _).alloc _)).drew).setRowNew (by omega) _, Row.setRow hgw⟩
    · simp only [List.filterMap_cons, List.filterMap_nil, List.getElem?_toArray, List.getElem?_cons_zero, List.getElem?_cons_succ]
      (refine HR.effect rfl rfl HI (fun K hK => ?_); go_simp)
      refine HR.back hK ?_ (fun HI2 => ?_)
      · exact .cons (cell_alloc _ c3) (.nil _)
      clear hK K HI
      have HI := HI2
      (refine HR.effect rfl rfl HI (fun K hK => ?_); go_simp)
      refine (dec_base_ok _).mono ?_
      rintro e w6 ⟨rfl, rfl⟩
      dsimp only
      refine HR.back hK ?_ (fun HI3 => ?_)
      · exact .cons (cell_alloc _ (cell_alloc _ c3)) (.nil _)
      clear hK K HI HI2
      have HI := HI3
      repeat (first | (refine HR.pure rfl rfl (fun K hK => ?_); go_simp; refine hK _ ?_; clear hK K) | (refine HR.loadI HI 0 rfl rfl rfl ?_ ?_; (focus (intro w' hc; go_simp; done)); go_simp) | (refine HR.loadI HI 1 rfl rfl rfl ?_ ?_; (focus (intro w' hc; go_simp; done)); go_simp) | (refine HR.loadI HI 2 rfl rfl rfl ?_ ?_; (focus (intro w' hc; go_simp; done)); go_simp) | (refine HR.loadI HI 3 rfl rfl rfl ?_ ?_; (focus (intro w' hc; go_simp; done)); go_simp))
      refine HR.store rfl rfl (fun K hK => ?_)
      have hgw : ((w.alloc (.cells dlz.toArray 75)).alloc (.cells #[.int .i64 0, .slice none 0 0, .int .i64 0] 65)).heap[w.heap.size]? = some (.cells dlz.toArray 75 (0, 0)) :=
        (Below.heap_alloc _ _ _ (by simp)).trans (heap_alloc_last _ _)
      refine wp_store_row 75 _ _ rfl w.heap.size dl0.toArray (by rfl) (by rfl) 75 dlz.toArray hgw (by kernel_rfl) (by rfl) dl0_one (hK _ _ ?_)
      clear hK K
      refine HR.nil ?_
      go_wp2_with fail
      go_meet
      exact ⟨rfl, w.heap.size, by omega, by simp; omega, rfl, ((((Chg.new w _).alloc _)).drew).setRowNew (by omega) _, Row.setRow hgw⟩
  case rest =>
    obtain ⟨rfl, dd, hdd1, hdd2, rfl, hC1, hR1⟩ := hcut
    have hne : dd ≠ d := by omega
    have hDb : 0 < L → b < w.heap.size := fun hl => World.block_lt_of_cell? w _ (HD.out.bytes 0 hl)
    have hbpos : 0 < bs.length := by
      obtain ⟨x0, ys, z, bl, -, e, -⟩ := Henc.out
      rw [e, List.length_append]
      have := vlq_pos S
      omega
    have hbw := hDb (by omega)
    have hlenr : (lenI rs).length = rs.length := List.length_map ..
    have hrange : ∀ y ∈ lenI rs, -2147483648 ≤ y ∧ y ≤ 2147483647 := by
      intro y hy
      obtain ⟨r, hr, rfl⟩ := List.mem_map.1 hy
      have := hsm r hr
      omega
    have hcall := deltaStart_ok wc dd b bo L C ee eu rs.length S M (lenI rs) bs D hR1 hdd2 (HD.out.keep hC1 (fun _ _ e => e)) (HE.out.keep hC1 (fun e => e) (fun e => e)) hL hC (by omega) (by omega) (by omega) Henc.out hf Hs.out.app.1 (by omega) (by omega) hN hrange
    have Hcall := Lib.hid hcall
    have HC1 := Lib.hid hC1
    have hdc := hC1.lt hd
    clear hcall hR1 hC1
    go_wp2_with fail
    refine Hcall.out.mono ?_
    rintro e1 w2 ⟨rfl, hc2, c, mb, v, O, hcb, hO, hds⟩
    rw [hlenr] at hds
    have p15 := hds.dx.1.row.at 15 rfl
    have hC2 : Chg (Own dd) wc w2 := hc2
    have c4 : w2.cell? ⟨d, 4, none⟩ = some lens0 := hC2.keep (HC1.out.keep (H.out.at 4 rfl) (fun e => e)) (fun e => hne e.symm)
    have f4 : w2.frozen? ⟨d, 4, none⟩ = false := (hC2.frozen _ _ hdc).trans ((HC1.out.frozen _ _ hd).trans (H.out.fr 4))
    have hd2 := hC2.lt hdc
    have hNw : IntKind.u64.wrap (rs.length : Int) = rs.length := wrap64 _ (by omega) (by show (rs.length : Int) < 18446744073709551616; omega)
    have hNn : ¬ (rs.length : Int) < rs.length := by omega
    have Hds := Lib.hid hds
    have HC2 := Lib.hid hC2
    have HO := Lib.hid hO
    clear hds hc2 hC2 hO
    go_wp2_with fail
    obtain ⟨lb, hlb⟩ : ∃ lb, lb = w2.heap.size := ⟨_, rfl⟩
    have hc3 : Chg (Own d) w2 ((w2.setCell ⟨d, 4, none⟩ (.slice (some ⟨lb, 0, none⟩) rs.length rs.length)).alloc (.cells (madeCells #[.int .i32 0] rs.length) 21)) := ((Chg.refl (Own d) w2).own 4 _).alloc _
    rw [← hlb]
    have hmade : ∀ j, j < rs.length → ((w2.setCell ⟨d, 4, none⟩ (.slice (some ⟨lb, 0, none⟩) rs.length rs.length)).alloc (.cells (madeCells #[.int .i32 0] rs.length) 21)).cell? ⟨lb, j, none⟩ = some (.int .i32 0) := by
      intro j hj
      have := made_cell (w2.setCell ⟨d, 4, none⟩ (.slice (some ⟨lb, 0, none⟩) rs.length rs.length)) (.int .i32 0) rs.length j 21 hj
      rw [World.size_setCell, ← hlb] at this
      exact this
    have hmf : ∀ j, ((w2.setCell ⟨d, 4, none⟩ (.slice (some ⟨lb, 0, none⟩) rs.length rs.length)).alloc (.cells (madeCells #[.int .i32 0] rs.length) 21)).frozen? ⟨lb, j, none⟩ = false := fun j => fresh_frozenL (by rw [World.size_setCell]; exact hlb) j
    have hc4 : ((w2.setCell ⟨d, 4, none⟩ (.slice (some ⟨lb, 0, none⟩) rs.length rs.length)).alloc (.cells (madeCells #[.int .i32 0] rs.length) 21)).cell? ⟨d, 4, none⟩ = some (.slice (some ⟨lb, 0, none⟩) rs.length rs.length) := cell_alloc _ (World.cell?_setCell_same _ _ _ c4)
    have hR2 : Row w2 d (ll nv0 data0 lens0) := (H.out.keep hd HC1.out (fun _ e => e)).keep hdc HC2.out (fun _ e => hne e.symm)
    have hR3 : Row ((w2.setCell ⟨d, 4, none⟩ (.slice (some ⟨lb, 0, none⟩) rs.length rs.length)).alloc (.cells (madeCells #[.int .i32 0] rs.length) 21)) d (ll nv0 data0 (.slice (some ⟨lb, 0, none⟩) rs.length rs.length)) := Row.keep (hR2.put 4 (.slice (some ⟨lb, 0, none⟩) rs.length rs.length)) (by simpa using hd2) (Chg.new _ _) (fun _ e => e)
    have hd3 : d < ((w2.setCell ⟨d, 4, none⟩ (.slice (some ⟨lb, 0, none⟩) rs.length rs.length)).alloc (.cells (madeCells #[.int .i32 0] rs.length) 21)).heap.size := by simp; omega
    generalize ((w2.setCell ⟨d, 4, none⟩ (.slice (some ⟨lb, 0, none⟩) rs.length rs.length)).alloc (.cells (madeCells #[.int .i32 0] rs.length) 21)) = w3 at hc3 hmade hmf hc4 hR3 hd3 ⊢
    have hOd : ¬ O d := fun hh => by rcases HO.out d hh with e | e <;> omega
    have hds3 : DSx false O c w3 dd mb S M (S / M) rs.length rs.length (.slice (some ⟨b, bo, none⟩) L C) (lenI rs) bs.length v := by
      rcases Hds.out with ⟨e, -⟩ | ⟨-, x, ys, e1, e2, e3⟩
      · cases e
      · exact .inr ⟨rfl, x, ys, e1, e2, e3.keep hc3 (fun k x (e : k = d) => ⟨e ▸ hOd, by rw [e, hcb]; exact hdb, by rw [e]; exact hg⟩)⟩
    have hlbg := Hds.out.dx.1.gd
    have hlbd := Hds.out.dx.1.dlt
    have hlbO : ¬ O lb := fun hh => by have := Hds.out.dx.2.lt lb hh; omega
    have hw2 := HC2.out.size
    have hwc := HC1.out.size
    have hcall := deltaDecode_ok false O c w3 dd mb S M (S / M) rs.length rs.length (.slice (some ⟨b, bo, none⟩) L C) (lenI rs) bs.length v lb 0 rs.length rs.length rs.length (by rw [hlenr]; exact (Nat.min_self _).symm) hN0 (by rw [hlenr]) (by omega) hds3 (Nat.le_refl _) (by omega) hlbO (by rw [hcb]; omega) (by omega) (fun j hj => ⟨_, by rw [Nat.zero_add]; exact hmade j hj⟩) hmf
    have Hcall2 := Lib.hid hcall
    have HC3 := Lib.hid hc3
    have HR3 := Lib.hid hR3
    clear hR2 hR3
    have Hlb := Lib.hid hlb
    have hlbd2 : lb ≠ d := by omega
    have hlbw : w.heap.size ≤ lb := by omega
    clear hlb
    clear hcall hc3 hds3 hmade hmf Hcall Hds p15 c4 f4
    refine Hcall2.out.mono ?_
    rintro e1 w4 ⟨rfl, O', v', hL4⟩
    dsimp only
    have hxs0 : (lenI rs).drop rs.length = [] := List.drop_of_length_le (by omega)
    have hds4 := hL4.ds
    rw [hxs0] at hds4
    have c4 : w4.cell? ⟨d, 4, none⟩ = some (.slice (some ⟨lb, 0, none⟩) rs.length rs.length) := hL4.chg.keep hc4 (by rintro (e | ⟨e, -⟩); exact hOd e; exact hlbd2 e.symm)
    have Hcall3 := Lib.hid (bytesRead_ok true O' c w4 dd mb S M (S / M) _ _ _ _ v' hds4)
    have HL4 := Lib.hid hL4
    have hNe : ¬ ((rs.length : Int) ≠ rs.length) := by simp
    clear hL4 hds4 hc4 Hcall2
    go_wp2_with fail
    refine Hcall3.out.mono ?_
    rintro e1 w5 ⟨rfl, hC5⟩
    dsimp only
    have c4' := hC5.keep c4 (fun e => e)
    have HC5 := Lib.hid hC5
    have b1 : ¬ (bs.length : Int) < 0 := by omega
    have b2 : ¬ (L : Int) < bs.length := by omega
    have b3 : (bs.length : Int).toNat = bs.length := by omega
    have b4 : (0 : Int) ≤ bs.length := by omega
    have b5 : (bs.length : Int) ≤ L := by omega
    have b6 : (bs.length : Int) ≤ C := by omega
    clear Hcall3 c4 hC5
    go_upto_region 16 with fail
    go_cut [6, 12] (fun v6 v12 wx => v6 = .nilIface ∧ wx = w5 ∧ ∃ po C', v12 = .slice (some ⟨b, po, none⟩) (L - bs.length) C' ∧ L - bs.length ≤ C' ∧ C' ≤ 9223372036854775807 ∧ (0 < L - bs.length → po = bo + bs.length))
    case first =>
      by_cases hCe : C = bs.length
      · have hCt : (C = bs.length) = True := eq_true hCe
        have HCe := Lib.hid hCe
        clear hCe
        go_wp2_with fail
        go_meet
        exact ⟨rfl, rfl, bo, _, rfl, by omega, by omega, fun hh => absurd hh (by have := HCe.out; omega)⟩
      · go_wp2_with fail
        go_meet
        exact ⟨rfl, rfl, bo + bs.length, _, rfl, by omega, by omega, fun _ => rfl⟩
    case rest =>
      obtain ⟨rfl, rfl, po, C', rfl, hC'1, hC'2, hpo⟩ := hcut
      have hlens : ∀ k r, rs[k]? = some r → wc.cell? ⟨lb, k, none⟩ = some (.int .i32 (r.length : Int)) := by
        intro k r hr
        have hk : k < rs.length := (List.getElem?_eq_some_iff.1 hr).1
        obtain ⟨x, h1, h2⟩ := HL4.out.out k hk
        unfold lenI at h1
        rw [List.getElem?_map, hr] at h1
        injection h1 with h1
        rw [Nat.zero_add] at h2
        rw [← h1] at h2
        exact HC5.out.keep h2 (fun e => e)
      have Hlens := Lib.hid hlens
      have Hpo := Lib.hid hpo
      clear hlens hpo
      go_wp2_with fail
      go_loopw [6, 13, 77] (fun v6 v13 v77 wr => v6 = .nilIface ∧ wr = wc ∧ ∃ k : Nat, k ≤ rs.length ∧ v77 = .int .i64 k ∧ v13 = .int .i64 (((rs.take k).map List.length).sum : Nat)) (fun _ _ v77 _ => rs.length - (intOf v77).toNat)
      case atStart => exact ⟨rfl, rfl, 0, Nat.zero_le _, rfl, rfl⟩
      case round =>
        obtain ⟨rfl, rfl, k, hk, rfl, rfl⟩ := hrel
        by_cases hlt : k < rs.length
        · obtain ⟨r, hr⟩ : ∃ r, rs[k]? = some r := ⟨_, List.getElem?_eq_getElem hlt⟩
          have hc := Hlens.out k r hr
          have hrl := hsm r (List.mem_of_getElem? hr)
          have hs1 := sum_succ rs k r hr
          have hs2 := sum_take rs (k + 1)
          rw [← Hflat.out] at hs2
          obtain ⟨s, hs⟩ : ∃ s, s = ((rs.take k).map List.length).sum := ⟨_, rfl⟩
          rw [← hs] at hs1 ⊢
          have i1 : ¬ (r.length : Int) < 0 := by omega
          have i2 : IntKind.i64.wrap (((L - bs.length : Nat) : Int) - s) = ((L - bs.length - s : Nat) : Int) := by rw [IntKind.wrap_i64]; omega
          have i3 : ¬ ((L - bs.length - s : Nat) : Int) < r.length := by omega
          have i4 : IntKind.i64.wrap ((s : Int) + r.length) = ((s + r.length : Nat) : Int) := by rw [IntKind.wrap_i64]; omega
          have i5 : (k : Int) < rs.length := by omega
          have i6 : IntKind.i64.wrap (r.length : Int) = r.length := IntWalk.i64_in _ (by omega)
          have Hs1 := Lib.hid hs1
          have j5 : (0 : Int) ≤ k := by omega
          have j6 : (k : Int).toNat = k := by omega
          clear hs1 hs2 hs hr
          go_wp2_with fail
          go_roundw
          case rel => exact ⟨rfl, trivial, k + 1, by omega, by go_num, by rw [Hs1.out]; push_cast; rfl⟩
          case measure => simp [intOf]; omega
        · have hke : k = rs.length := by omega
          subst hke
          have i5 : ¬ (rs.length : Int) < rs.length := by omega
          have hCw : Chg Nix w w2 := HC1.out.comp HC2.out (T := Nix) (fun _ _ _ e => e) (fun a x ha (e : a = dd) => absurd ha (by omega))
          have hl4 := HL4.out
          have hR4 := HR3.out.keep hd3 hl4.chg (by rintro x (e | ⟨e, -⟩); exact hOd e; exact hlbd2 e.symm)
          have hd4 := hl4.chg.lt hd3
          have hR5 := hR4.keep hd4 HC5.out (fun _ e => e)
          have p4 := hR5.at 4 rfl
          have hlbl : lb < wr.heap.size := World.block_lt_of_cell? _ _ (HC5.out.keep (hl4.cel 0 hN0).choose_spec (fun e => e))
          have Hset := Lib.hid (decSet_ok wr.drew d _ _ _ rs.length (some ⟨b, po, none⟩) (L - bs.length) C' hR5.drew rfl rfl)
          have HCw := Lib.hid hCw
          have hd5 := HC5.out.lt hd4
          clear hl4 hR4 hR5 hCw
          go_wp2_with fail
          (refine wp_region_txt [] (by kernel_rfl) (by kernel_rfl) ?_; repeat (first | (refine wpTxt_pure rfl rfl (fun K hK => ?_); go_simp; refine hK _ ?_; clear hK K) | (refine wpTxt_still rfl rfl (fun K hK => ?_); go_simp; refine hK _ ?_; clear hK K)))
          (refine wpTxt_effect rfl rfl (fun K hK => ?_); go_simp)
          refine Hset.out.mono ?_
          rintro e1 w9 ⟨rfl, hc9, hR9⟩
          dsimp only
          have Hc9 := Lib.hid hc9.undrew
          have HR9 := Lib.hid hR9
          clear hc9 hR9
          (refine hK _ _ ?_; clear hK K)
          repeat (first | (refine wpTxt_pure rfl rfl (fun K hK => ?_); go_simp; refine hK _ ?_; clear hK K) | (refine wpTxt_still rfl rfl (fun K hK => ?_); go_simp; refine hK _ ?_; clear hK K))
          refine wpTxt_nil ?_
          go_wp2_with fail
          go_ret
          have hc9 := Hc9.out
          have hC : Chg (Own d) w wr := by
            have h3 : Chg (Own d) w w3 := HCw.out.comp HC3.out (fun _ _ _ e => e.elim) (fun _ _ _ e => e)
            have h4 : Chg (Own d) w w4 := h3.comp HL4.out.chg (fun _ _ _ e => e) (by
              rintro a x ha (e | ⟨e, -⟩)
              · rcases HO.out a e with e | e <;> omega
              · omega)
            exact h4.comp HC5.out (fun _ _ _ e => e) (fun _ _ _ e => e.elim)
          have hbytes : ∀ (j x : Nat), rs.flatten[j]? = some x → w.cell? ⟨b, po + j, none⟩ = some (.int .u8 (x : Int)) := by
            intro j x hx
            have hj : j < rs.flatten.length := (List.getElem?_eq_some_iff.1 hx).1
            have h1 := HD.out.bytes (bs.length + j) (by omega)
            have h2 := Hs.out (bs.length + j) x (by rw [List.getElem?_append_right (by omega), Nat.add_sub_cancel_left]; exact hx)
            rw [Nat.zero_add] at h2
            rw [h2, ← Nat.add_assoc, ← Hpo.out (by omega)] at h1
            exact h1
          refine ⟨rfl, hC.trans hc9, lb, po, L - bs.length, C', hlbw, hc9.lt hlbl, ?_⟩
          exact ⟨HR9.out, hc9.lt hd5, hC'1, hC'2, Nat.le_refl _, by omega, by omega, fun j x hx => (hC.trans hc9).keep (hbytes j x hx) (fun e => hdb e.symm), fun t r hr => hc9.keep (by rw [Nat.zero_add]; exact Hlens.out t r hr) (fun e => hlbd2 e), hsm, hdb, fun e => hlbd2 e.symm⟩
end Go.Proofs.YtaageikelkcphaaGreatDoor
/- The decoder of lengths: Decode. -/
namespace Go.Proofs.YtaageikelkcphaaGreatDoor
open Go Go.RowKit
/-- Behind k texts. -/
structure LK (w wr : World) (d b lb : Nat) (rs : List (List Nat)) (lo lc ob oo m k po R C : Nat) : Prop where
  chg : Chg (fun a x => a = d ∨ (a = ob ∧ oo ≤ x ∧ x < oo + m)) w wr
  row : Row wr d (ll rs.length (.slice (some ⟨b, po, none⟩) R C) (.slice (some ⟨lb, lo, none⟩) rs.length lc))
  rc : R ≤ C
  cc : C ≤ 9223372036854775807
  fits : (rs.drop k).flatten.length ≤ R
  bytes : ∀ (j x : Nat), (rs.drop k).flatten[j]? = some x → w.cell? ⟨b, po + j, none⟩ = some (.int .u8 (x : Int))
  cel : ∀ j, j < m → ∃ u, wr.cell? ⟨ob, oo + j, none⟩ = some u
  out : ∀ j, j < k → ∃ r v, rs[j]? = some r ∧ wr.cell? ⟨ob, oo + j, none⟩ = some v ∧ BA (fun g _ => g = b) w v r
theorem drop_flat {rs : List (List Nat)} {k : Nat} {r : List Nat} (h : rs[k]? = some r) : (rs.drop k).flatten = r ++ (rs.drop (k + 1)).flatten := by
  obtain ⟨hk, e⟩ := List.getElem?_eq_some_iff.1 h
  rw [List.drop_eq_getElem_cons hk, List.flatten_cons, e]
set_option maxRecDepth 100000 in
set_option maxHeartbeats 1000000 in
theorem lenDecode_ok (w : World) (d b lb : Nat) (rs : List (List Nat)) (po R C lo lc ob oo len cap m : Nat) (h : LS w d b lb rs po R C lo lc) (hm : m = min len rs.length) (hlc : len ≤ cap) (hcap : cap ≤ 1000000000000000000) (hN : rs.length ≤ 1000000) (hod : ob ≠ d) (hobb : ob ≠ b) (hol : ob ≠ lb)
    (hcel : ∀ j, j < m → ∃ u, w.cell? ⟨ob, oo + j, none⟩ = some u) (hfr : ∀ j, w.frozen? ⟨ob, j, none⟩ = false) :
    Calls Tryz.prog 32 #[.pointer (some ⟨d, 0, none⟩), .slice (some ⟨ob, oo, none⟩) len cap] w fun e w' =>
      e = .returned (.tuple #[.int .i64 m, .nilIface]) ∧ Chg (fun a x => a = d ∨ (a = ob ∧ oo ≤ x ∧ x < oo + m)) w w' ∧ (∃ po' R' C' lo', LS w' d b lb (rs.drop m) po' R' C' lo' (lc - m)) ∧
        ∀ j, j < m → ∃ r v, rs[j]? = some r ∧ w'.cell? ⟨ob, oo + j, none⟩ = some v ∧ BA (fun g _ => g = b) w' v r := by
  have p0 := h.row.at 0 rfl
  have hmi : min (len : Int) rs.length = m := by omega
  have hmx : m ≤ rs.length := by omega
  have hml : m ≤ len := by omega
  have H := Lib.hid h; clear h
  have Hm := Lib.hid hm; clear hm
  have h0 : LK w w d b lb rs lo lc ob oo m 0 po R C := ⟨Chg.refl _ _, H.out.row, H.out.rc, H.out.cc, H.out.fits, H.out.bytes, hcel, fun j hj => by omega⟩
  have H0 := Lib.hid h0; clear h0
  have Hcel := Lib.hid hcel; clear hcel
  have Hfr := Lib.hid hfr; clear hfr
  go_enter Tryz.func32, Tryz.ntmps32
  go_wp2_with fail
  refine (min_ok _ _ _).mono ?_
  rintro e1 w1 ⟨rfl, rfl⟩
  rw [hmi]
  go_wp2_with fail
  go_loopw [7] (fun v7 wr => ∃ k po' R' C' : Nat, k ≤ m ∧ v7 = .int .i64 k ∧ LK w1 wr d b lb rs lo lc ob oo m k po' R' C') (fun v7 _ => m - (intOf v7).toNat)
  case atStart => exact ⟨0, po, R, C, Nat.zero_le _, rfl, H0.out⟩
  case round =>
    obtain ⟨k, po', R', C', hk, rfl, hL⟩ := hrel
    clear H0 p0
    by_cases hlt : k < m
    · obtain ⟨r, hr⟩ : ∃ r, rs[k]? = some r := ⟨_, List.getElem?_eq_getElem (by omega)⟩
      have p1 := hL.row.at 1 rfl
      have p1f := hL.row.fr 1
      have p4 := hL.row.at 4 rfl
      have hlen := H.out.lens k r hr
      have hlen2 : wr.cell? ⟨lb, lo + k, none⟩ = some (.int .i32 (r.length : Int)) := hL.chg.keep hlen (by rintro (e | ⟨e, -⟩); exact H.out.dl e.symm; exact hol e.symm)
      have hsm := H.out.small r (List.mem_of_getElem? hr)
      have hfl := drop_flat hr
      have hfits := hL.fits
      rw [hfl, List.length_append] at hfits
      have hrc := hL.rc
      have hcc := hL.cc
      obtain ⟨u0, hu0⟩ := Hcel.out k hlt
      have hlob : ob < w1.heap.size := World.block_lt_of_cell? _ _ hu0
      obtain ⟨u1, hu1⟩ := hL.cel k hlt
      have hfu : wr.frozen? ⟨ob, oo + k, none⟩ = false := (hL.chg.frozen _ _ hlob).trans (Hfr.out _)
      have i1 : (0 : Int) ≤ k := by omega
      have i2 : (k : Int).toNat = k := by omega
      have i3 : (k : Int) < rs.length := by omega
      have i4 : (k : Int) < len := by omega
      have i5 : (0 : Int) ≤ r.length := by omega
      have i6 : (r.length : Int).toNat = r.length := by omega
      have i7 : (r.length : Int) ≤ C' := by omega
      have i8 : (r.length : Int) ≤ R' := by omega
      have i9 : (k : Int) < m := by omega
      have HL := Lib.hid hL
      have Hr := Lib.hid hr
      have Hfl := Lib.hid hfl
      clear hL hlen hr hfl u0 hu0
      go_wp2_with fail
      (refine wp_region_txt [] (by kernel_rfl) (by kernel_rfl) ?_; repeat (first | (refine wpTxt_pure rfl rfl (fun K hK => ?_); go_simp; refine hK _ ?_; clear hK K) | (refine wpTxt_still rfl rfl (fun K hK => ?_); go_simp; refine hK _ ?_; clear hK K)))
      (refine wpTxt_effect rfl rfl (fun K hK => ?_); go_simp; refine hK _ _ ?_; clear hK K)
      refine wpTxt_nil ?_
      obtain ⟨w2, hw2⟩ : ∃ w2, w2 = (wr.setCell ⟨ob, oo + k, none⟩ (.slice (some ⟨b, po', none⟩) r.length r.length)).drew := ⟨_, rfl⟩
      have hc2 : Chg (fun a x => a = ob ∧ x = oo + k) wr w2 := by
        rw [hw2]; exact ((Chg.refl _ _).setCell _ _ (fun _ => ⟨rfl, rfl⟩) _).drew
      have hv2 : w2.cell? ⟨ob, oo + k, none⟩ = some (.slice (some ⟨b, po', none⟩) r.length r.length) := by
        rw [hw2]; exact World.cell?_setCell_same _ _ _ hu1
      rw [← hw2]
      have p1' := hc2.keep p1 (fun e => hod e.1.symm)
      have p4' := hc2.keep p4 (fun e => hod e.1.symm)
      have hlen2' := hc2.keep hlen2 (fun e => hol e.1.symm)
      have hdl := World.block_lt_of_cell? _ _ p1
      have p1f' := (hc2.frozen _ 1 hdl).trans p1f
      have hrow2 : Row w2 d (ll rs.length (.slice (some ⟨b, po', none⟩) R' C') (.slice (some ⟨lb, lo, none⟩) rs.length lc)) := HL.out.row.keep hdl hc2 (fun x e => hod e.1.symm)
      have Hrow2 := Lib.hid hrow2
      have Hc2 := Lib.hid hc2
      clear hw2 p1 p1f p4 hlen2 hu1 hfu hrow2 hc2
      have hnext : ∀ (po2 C2 : Nat), R' - r.length ≤ C2 → C2 ≤ 9223372036854775807 → (r.length < R' → po2 = po' + r.length) → LK w1 (w2.setCell ⟨d, 1, none⟩ (.slice (some ⟨b, po2, none⟩) (R' - r.length) C2)).drew d b lb rs lo lc ob oo m (k + 1) po2 (R' - r.length) C2 := by
        intro po2 C2 hC2 hC2' hpo2
        have hL := HL.out
        have hcl : Chg (Own d) w2 (w2.setCell ⟨d, 1, none⟩ (.slice (some ⟨b, po2, none⟩) (R' - r.length) C2)).drew := ((Chg.refl _ _).own 1 _).drew
        have hch : Chg (fun a x => a = d ∨ (a = ob ∧ oo ≤ x ∧ x < oo + m)) w1 (w2.setCell ⟨d, 1, none⟩ (.slice (some ⟨b, po2, none⟩) (R' - r.length) C2)).drew :=
          (hL.chg.comp Hc2.out (fun _ _ _ e => e) (fun a x _ e => .inr ⟨e.1, by omega, by omega⟩)).comp hcl (fun _ _ _ e => e) (fun a x _ (e : a = d) => .inl e)
        refine ⟨hch, (Hrow2.out.put 1 _).drew, hC2, hC2', by omega, fun j x hx => ?_, fun j hj => ?_, fun j hj => ?_⟩
        · have hj : j < (rs.drop (k + 1)).flatten.length := (List.getElem?_eq_some_iff.1 hx).1
          rw [hpo2 (by omega), Nat.add_assoc]
          refine hL.bytes (r.length + j) x ?_
          rw [Hfl.out, List.getElem?_append_right (by omega), Nat.add_sub_cancel_left]
          exact hx
        · by_cases hjk : j = k
          · subst hjk; exact ⟨_, hcl.keep hv2 (fun e => hod e)⟩
          · obtain ⟨u, hu⟩ := hL.cel j hj
            exact ⟨u, hcl.keep (Hc2.out.keep hu (fun e => by omega)) (fun e => hod e)⟩
        · by_cases hjk : j = k
          · subst hjk
            refine ⟨r, _, Hr.out, hcl.keep hv2 (fun e => hod e), b, po', r.length, rfl, Nat.le_refl _, by omega, fun t x ht => ⟨rfl, ?_⟩⟩
            refine hL.bytes t x ?_
            rw [Hfl.out, List.getElem?_append_left (List.getElem?_eq_some_iff.1 ht).1]
            exact ht
          · obtain ⟨r', v, h1, h2, h3⟩ := hL.out j (by omega)
            exact ⟨r', v, h1, hcl.keep (Hc2.out.keep h2 (fun e => by omega)) (fun e => hod e), h3⟩
      have Hnext := Lib.hid hnext
      have hRr : r.length = R' → (rs.drop (k + 1)).flatten.length = 0 := by omega
      clear hnext
      by_cases hCr : C' = r.length
      · have hCt : (C' = r.length) = True := eq_true hCr
        have HCr := Lib.hid hCr
        clear hCr
        go_wp2_with fail
        (refine wp_region_txt [] (by kernel_rfl) (by kernel_rfl) ?_; repeat (first | (refine wpTxt_pure rfl rfl (fun K hK => ?_); go_simp; refine hK _ ?_; clear hK K) | (refine wpTxt_still rfl rfl (fun K hK => ?_); go_simp; refine hK _ ?_; clear hK K)))
        (refine wpTxt_effect rfl rfl (fun K hK => ?_); go_simp; refine hK _ _ ?_; clear hK K)
        refine wpTxt_nil ?_
        have HN := Lib.hid (Hnext.out po' (C' - r.length) (by omega) (by omega) (fun hh => absurd hh (by have := HCr.out; omega)))
        go_wp2_with fail
        go_roundw
        case rel => exact ⟨k + 1, _, _, _, by omega, by go_num, HN.out⟩
        case measure => simp [intOf]; omega
      · go_wp2_with fail
        (refine wp_region_txt [] (by kernel_rfl) (by kernel_rfl) ?_; repeat (first | (refine wpTxt_pure rfl rfl (fun K hK => ?_); go_simp; refine hK _ ?_; clear hK K) | (refine wpTxt_still rfl rfl (fun K hK => ?_); go_simp; refine hK _ ?_; clear hK K)))
        (refine wpTxt_effect rfl rfl (fun K hK => ?_); go_simp; refine hK _ _ ?_; clear hK K)
        refine wpTxt_nil ?_
        have HN := Lib.hid (Hnext.out (po' + r.length) (C' - r.length) (by omega) (by omega) (fun _ => rfl))
        go_wp2_with fail
        go_roundw
        case rel => exact ⟨k + 1, _, _, _, by omega, by go_num, HN.out⟩
        case measure => simp [intOf]; omega
    · have hke : k = m := by omega
      subst hke
      have p0 := hL.row.at 0 rfl
      have p0f := hL.row.fr 0
      have p4 := hL.row.at 4 rfl
      have p4f := hL.row.fr 4
      have hmk : ¬ (k : Int) < k := by omega
      have hnw : RowKit.wrap64 ((rs.length : Int) - k) = ((rs.length - k : Nat) : Int) := by unfold RowKit.wrap64; omega
      have j1 : (0 : Int) ≤ k := by omega
      have j2 : (k : Int).toNat = k := by omega
      have j3 : (k : Int) ≤ rs.length := by omega
      have hend : ∀ lo', (k < rs.length → lo' = lo + k) → Chg (fun a x => a = d ∨ (a = ob ∧ oo ≤ x ∧ x < oo + k)) w1 ((wr.setCell ⟨d, 0, none⟩ (.int .i64 ((rs.length : Int) - k))).setCell ⟨d, 4, none⟩ (.slice (some ⟨lb, lo', none⟩) (rs.length - k) (lc - k))) ∧
          (∃ po' R' C' lo2, LS ((wr.setCell ⟨d, 0, none⟩ (.int .i64 ((rs.length : Int) - k))).setCell ⟨d, 4, none⟩ (.slice (some ⟨lb, lo', none⟩) (rs.length - k) (lc - k))) d b lb (rs.drop k) po' R' C' lo2 (lc - k)) ∧
          ∀ j, j < k → ∃ r v, rs[j]? = some r ∧ ((wr.setCell ⟨d, 0, none⟩ (.int .i64 ((rs.length : Int) - k))).setCell ⟨d, 4, none⟩ (.slice (some ⟨lb, lo', none⟩) (rs.length - k) (lc - k))).cell? ⟨ob, oo + j, none⟩ = some v ∧ BA (fun g _ => g = b) ((wr.setCell ⟨d, 0, none⟩ (.int .i64 ((rs.length : Int) - k))).setCell ⟨d, 4, none⟩ (.slice (some ⟨lb, lo', none⟩) (rs.length - k) (lc - k))) v r := by
        intro lo' hlo
        have hcl : Chg (Own d) wr ((wr.setCell ⟨d, 0, none⟩ (.int .i64 ((rs.length : Int) - k))).setCell ⟨d, 4, none⟩ (.slice (some ⟨lb, lo', none⟩) (rs.length - k) (lc - k))) := ((Chg.refl _ _).own 0 _).own 4 _
        have hrow := (hL.row.put 0 (.int .i64 ((rs.length : Int) - k))).put 4 (.slice (some ⟨lb, lo', none⟩) (rs.length - k) (lc - k))
        have hch := hL.chg.comp hcl (T := fun a x => a = d ∨ (a = ob ∧ oo ≤ x ∧ x < oo + k)) (fun _ _ _ e => e) (fun a x _ (e : a = d) => .inl e)
        have hkeep : ∀ {g x : Nat} {u : Value}, g ≠ d → g ≠ ob → w1.cell? ⟨g, x, none⟩ = some u → ((wr.setCell ⟨d, 0, none⟩ (.int .i64 ((rs.length : Int) - k))).setCell ⟨d, 4, none⟩ (.slice (some ⟨lb, lo', none⟩) (rs.length - k) (lc - k))).cell? ⟨g, x, none⟩ = some u := fun h1 h2 h3 => hch.keep h3 (by rintro (e | ⟨e, -⟩); exact h1 e; exact h2 e)
        generalize ((wr.setCell ⟨d, 0, none⟩ (.int .i64 ((rs.length : Int) - k))).setCell ⟨d, 4, none⟩ (.slice (some ⟨lb, lo', none⟩) (rs.length - k) (lc - k))) = wE at hcl hrow hch hkeep ⊢
        have hs := H.out
        have hdl : (rs.drop k).length = rs.length - k := List.length_drop
        refine ⟨hch, ⟨po', R', C', lo', ⟨?_, hch.lt hs.dlt, hL.rc, hL.cc, by rw [hdl]; have := hs.llc; omega, by have := hs.lcc; omega, hL.fits, fun j x hx => hkeep hs.db.symm hobb.symm (hL.bytes j x hx), fun t r hr => ?_, fun r hr => hs.small r (List.mem_of_mem_drop hr), hs.db, hs.dl⟩⟩, fun j hj => ?_⟩
        · rw [hdl]
          have e : (((rs.length - k : Nat)) : Int) = (rs.length : Int) - k := by omega
          rw [e]
          exact hrow
        · have ht : t < (rs.drop k).length := (List.getElem?_eq_some_iff.1 hr).1
          rw [List.getElem?_drop] at hr
          rw [hlo (by omega), Nat.add_assoc]
          exact hkeep hs.dl.symm hol.symm (hs.lens (k + t) r hr)
        · obtain ⟨r, v, h1, h2, h3⟩ := hL.out j hj
          exact ⟨r, v, h1, hcl.keep h2 (fun e => hod e), h3.keep hch (by rintro a x (e | ⟨e, -⟩) h4; exact hs.db (e ▸ h4); exact hobb (e ▸ h4))⟩
      have Hend := Lib.hid hend
      have hllc := H.out.llc
      have HL := Lib.hid hL
      clear hL hend
      by_cases hlk : lc = k
      · have hCt : (lc = k) = True := eq_true hlk
        have HCr := Lib.hid hlk
        clear hlk
        go_wp2_with fail
        go_ret2
        have hz := Hend.out lo (fun hh => absurd hh (by have := HCr.out; omega))
        refine ⟨rfl, hz.1, hz.2.1, fun j hj => ?_⟩
        obtain ⟨r, v, h1, h2, h3⟩ := hz.2.2 j hj
        exact ⟨r, h1, v, h2, h3⟩
      · go_wp2_with fail
        go_ret2
        have hz := Hend.out (lo + k) (fun _ => rfl)
        refine ⟨rfl, hz.1, hz.2.1, fun j hj => ?_⟩
        obtain ⟨r, v, h1, h2, h3⟩ := hz.2.2 j hj
        exact ⟨r, h1, v, h2, h3⟩
end Go.Proofs.YtaageikelkcphaaGreatDoor
