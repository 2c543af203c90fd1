/- Part 14 of the proof: the texts DHF, DIF, DJF, joined. What each proves stands ahead of it. -/
import Derived.Test.YtmcjpnijldhelaaGreatDoorKJ
import Derived.Test.YtmcjpnijldhelaaGreatDoorKK
import Derived.Test.YtmcjpnijldhelaaGreatDoorKM
set_option linter.unusedVariables false
set_option linter.unusedSimpArgs false
/- The reader of runs: a batch of a dictionary's values. Of float64. -/
namespace Go.Proofs.YtmcjpnijldhelaaGreatDoor
open Go Go.RowKit
namespace XF
theorem nil_single (a : Addr) (w : World) : (nilAhead 455 160 (.pointer (some a)) "IsValidSingle").run Tryz.prog w = .ok (some false) w := by kernel_rfl
theorem method_single (a : Addr) (w : World) : (method 455 160 (.pointer (some a)) "IsValidSingle").run Tryz.prog w = .ok (219, .pointer (some a)) w := by kernel_rfl
theorem nil_valid (a : Addr) (w : World) : (nilAhead 455 160 (.pointer (some a)) "IsValid").run Tryz.prog w = .ok (some false) w := by kernel_rfl
theorem method_valid (a : Addr) (w : World) : (method 455 160 (.pointer (some a)) "IsValid").run Tryz.prog w = .ok (218, .pointer (some a)) w := by kernel_rfl
theorem nil_copy (a : Addr) (w : World) : (nilAhead 455 160 (.pointer (some a)) "Copy").run Tryz.prog w = .ok (some false) w := by kernel_rfl
theorem method_copy (a : Addr) (w : World) : (method 455 160 (.pointer (some a)) "Copy").run Tryz.prog w = .ok (215, .pointer (some a)) w := by kernel_rfl
theorem nil_fill (a : Addr) (w : World) : (nilAhead 455 160 (.pointer (some a)) "Fill").run Tryz.prog w = .ok (some false) w := by kernel_rfl
theorem method_fill (a : Addr) (w : World) : (method 455 160 (.pointer (some a)) "Fill").run Tryz.prog w = .ok (216, .pointer (some a)) w := by kernel_rfl
/-- Behind k values of a batch. -/
structure Gd (c : RC) (W R ob oo len : Nat) (us : List Value) (Ov : Nat → Prop) (Sv : Nat → World → Prop) (vd dc : Nat) (v0 : Value) (vs : List Nat) (ib : Nat) (w wr : World) (k rep lit cur o f m : Nat) (v : Value) : Prop where
  rd : RD c W R rep lit cur o f wr
  pos : Pos c.D c.L W rep lit cur o f (vs.drop k)
  cv : DCV us Ov Sv vd dc m v wr
  sep : ∀ a, OD dc Ov v a → a ≠ c.B ∧ a ≠ R ∧ a ≠ c.rb ∧ a ≠ c.b ∧ 7 < a ∧ a ≠ ob ∧ a ≠ ib
  chg : Chg (fun a x => GTR c R ob oo len a x ∨ OD dc Ov v0 a) w wr
  st : Stays w v0 v
  out : ∀ j, j < k → wr.cell? ⟨ob, oo + j, none⟩ = some (us.getD (vs.getD j 0) .nilIface)
  dst : Dst c wr ob oo len
  nR : ob ≠ R
  ix : Dst c wr ib 0 1024
  iR : ib ≠ R
  io : ib ≠ ob
  iw : w.heap.size ≤ ib
  L0 : 0 < c.L
  ol : ob < wr.heap.size
/-- The converter has been asked; nothing else has turned but pieces of the row at hand, the reader and the row of indexes. -/
theorem Gd.more {c : RC} {W R ob oo len : Nat} {us : List Value} {Ov : Nat → Prop} {Sv : Nat → World → Prop} {vd dc : Nat} {v0 : Value} {vs : List Nat} {ib : Nat} {w wr w1 : World} {k rep lit cur o f m : Nat} {v : Value} (h : Gd c W R ob oo len us Ov Sv vd dc v0 vs ib w wr k rep lit cur o f m v)
    {n rep' lit' cur' o' f' m' : Nat} {v' : Value} (hc : Chg (fun a x => GTR c R ob (oo + k) n a x ∨ OD dc Ov v a ∨ a = ib) wr w1) (hm : k + n ≤ len) (hr : RD c W R rep' lit' cur' o' f' w1) (hp : Pos c.D c.L W rep' lit' cur' o' f' ((vs.drop k).drop n)) (hcv : DCV us Ov Sv vd dc m' v' w1) (hst : Stays wr v v')
    (ho : ∀ j, j < n → ∃ x, (vs.drop k)[j]? = some x ∧ w1.cell? ⟨ob, oo + k + j, none⟩ = some (us.getD x .nilIface)) (hix : ∀ j, j < 1024 → ∃ u, w1.cell? ⟨ib, 0 + j, none⟩ = some u) : Gd c W R ob oo len us Ov Sv vd dc v0 vs ib w w1 (k + n) rep' lit' cur' o' f' m' v' := by
  have hn : ∀ j, j < k ∨ k + n ≤ j → ¬ (GTR c R ob (oo + k) n ob (oo + j) ∨ OD dc Ov v ob ∨ ob = ib) := by
    rintro j hj ((hh | hh | hh | hh) | hh | hh)
    · exact h.dst.nB hh
    · exact h.nR hh
    · exact h.dst.nr hh.1
    · omega
    · exact (h.sep _ hh).2.2.2.2.2.1 rfl
    · exact h.io hh.symm
  have hli : ib < wr.heap.size := by
    obtain ⟨u, hu⟩ := h.ix.oth 0 (by omega)
    exact World.block_lt_of_cell? _ _ hu
  have hl := h.rd.lt
  have hlB := h.rd.rs.lt
  have hlr := h.rd.rs.rlt
  refine ⟨hr, by rw [← List.drop_drop]; exact hp, hcv, ?_, h.chg.comp hc (fun _ _ _ h => h) ?_, h.st.trans hst h.chg.size, ?_, ?_, h.nR, ⟨hix, fun j hj => (hc.frozen _ _ hli).trans (h.ix.ofr j hj), h.ix.nB, h.ix.nr, h.ix.nb, h.ix.g⟩, h.iR, h.io, h.iw, h.L0, hc.lt h.ol⟩
  · rintro a (hh | hh | hh)
    · exact h.sep a (.inl hh)
    · exact h.sep a (.inr (.inl hh))
    · rcases hst a hh with h6 | h6
      · exact h.sep a (.inr (.inr h6))
      · have := h.rd.rs.blt h.L0
        have := h.dst.g
        have := h.ol
        exact ⟨by omega, by omega, by omega, by omega, by omega, by omega, by omega⟩
  · rintro a x ha ((hh | hh | hh | hh) | hh | hh)
    · exact .inl (.inl hh)
    · exact .inl (.inr (.inl hh))
    · exact .inl (.inr (.inr (.inl hh)))
    · exact .inl (.inr (.inr (.inr ⟨hh.1, by omega, by omega⟩)))
    · rcases hh with hh | hh | hh
      · exact .inr (.inl hh)
      · exact .inr (.inr (.inl hh))
      · rcases h.st a hh with h6 | h6
        · exact .inr (.inr (.inr h6))
        · omega
    · have := h.iw; omega
  · intro j hj
    by_cases hjk : j < k
    · exact hc.keep (h.out j hjk) (hn j (.inl hjk))
    · obtain ⟨x, hx, hcl⟩ := ho (j - k) (by omega)
      have := getD_of hx
      rw [show k + (j - k) = j by omega] at this
      rw [this, show oo + j = oo + k + (j - k) by omega]
      exact hcl
  · refine ⟨fun j hj => ?_, fun j hj => ?_, h.dst.nB, h.dst.nr, h.dst.nb, h.dst.g⟩
    · by_cases hjk : j < k ∨ k + n ≤ j
      · obtain ⟨u, hu⟩ := h.dst.oth j hj; exact ⟨u, hc.keep hu (hn j hjk)⟩
      · obtain ⟨x, hx, hcl⟩ := ho (j - k) (by omega)
        rw [show oo + j = oo + k + (j - k) by omega]
        exact ⟨_, hcl⟩
    · obtain ⟨u, hu⟩ := h.dst.oth j hj
      exact (hc.frozen _ _ (World.block_lt_of_cell? wr _ hu)).trans (h.dst.ofr j hj)
theorem mem_of_drop {vs : List Nat} {k j x : Nat} (h : (vs.drop k)[j]? = some x) : x ∈ vs := by
  rw [List.getElem?_drop] at h
  exact List.mem_of_getElem? h
set_option maxRecDepth 100000 in
set_option maxHeartbeats 1000000 in
theorem withDict_ok (c : RC) (W R rep lit cur o f ob oo len cap : Nat) (us : List Value) (Ov : Nat → Prop) (Sv : Nat → World → Prop) (vd dc m : Nat) (v : Value) (vs : List Nat) (w : World)
    (hV : ValD us Ov Sv vd) (h1 : ∀ u ∈ us, IsE u) (hul : us.length ≤ 1000) (h : RD c W R rep lit cur o f w) (hp : Pos c.D c.L W rep lit cur o f vs) (hW1 : 1 ≤ W) (hW2 : W ≤ 31) (hv : ∀ x ∈ vs, x < us.length) (hcv : DCV us Ov Sv vd dc m v w)
    (hsep : ∀ a, OD dc Ov v a → a ≠ c.B ∧ a ≠ R ∧ a ≠ c.rb ∧ a ≠ c.b ∧ 7 < a ∧ a ≠ ob) (hL0 : 0 < c.L) (hobl : ob < w.heap.size)
    (hlen : len ≤ vs.length) (hl : len ≤ 1000000000) (hd : Dst c w ob oo len) (hoR : ob ≠ R) (hcap : len ≤ cap) (hcap2 : cap ≤ 1000000000000000000) :
    Calls Tryz.prog 80 #[.pointer (some ⟨R, 0, none⟩), .iface 160 (.pointer (some ⟨dc, 0, none⟩)), .slice (some ⟨ob, oo, none⟩) len cap] w fun e w' =>
      e = .returned (.tuple #[.int .i64 len, .nilIface]) ∧ ∃ rep' lit' cur' o' f' m' v' ib, Gd c W R ob oo len us Ov Sv vd dc v vs ib w w' len rep' lit' cur' o' f' m' v' := by
  obtain ⟨X, hX⟩ : ∃ X, X = Obj.cells Tryz.zeroCells209 209 := ⟨_, rfl⟩
  have hXc : ∀ j, j < 1024 → ∃ u, (w.alloc X).cell? ⟨w.heap.size, 0 + j, none⟩ = some u := by
    intro j hj
    have hs : Tryz.zeroCells209.size = 1024 := by kernel_rfl
    refine ⟨Tryz.zeroCells209[j]'(by omega), ?_⟩
    rw [hX, Nat.zero_add, World.cell?_alloc_new]
    exact Array.getElem?_eq_getElem (by omega)
  have hXf : ∀ j, j < 1024 → (w.alloc X).frozen? ⟨w.heap.size, 0 + j, none⟩ = false := fun j hj => by rw [hX]; exact fresh_frozen rfl
  have hgl : 7 < w.heap.size := by have := h.g; have := h.lt; omega
  have hG0 : Gd c W R ob oo len us Ov Sv vd dc v vs w.heap.size w (w.alloc X) 0 rep lit cur o f m v := by
    have hc0 := Chg.new w X
    have hl := h.lt
    have hlB := h.rs.lt
    have hlr := h.rs.rlt
    have hlb := h.rs.blt hL0
    have hOl := hcv.lt hV
    refine ⟨h.alloc X, by rw [List.drop_zero]; exact hp, hcv.keep hV hc0 (fun _ _ h => h.elim), ?_, hc0.mono (fun _ _ _ h => h.elim), fun k hk => .inl hk, fun j hj => by omega, hd.keep hc0 (fun _ _ h => h), hoR, ⟨hXc, hXf, by omega, by omega, by omega, hgl⟩, by omega, by omega, Nat.le_refl _, hL0, hc0.lt hobl⟩
    intro a ha
    obtain ⟨g1, g2, g3, g4, g5, g6⟩ := hsep a ha
    exact ⟨g1, g2, g3, g4, g5, g6, by have := hOl a ha; omega⟩
  have hHV := Lib.hid hV
  have H1 := Lib.hid h1
  have Hv := Lib.hid hv
  have Hlen := Lib.hid hlen
  have n1 := nil_single
  have n2 := method_single
  have n3 := nil_valid
  have n4 := method_valid
  have n5 := nil_copy
  have n6 := method_copy
  have n7 := nil_fill
  have n8 := method_fill
  have H0 := Lib.hid hG0
  have HX := Lib.hid hX
  clear hV h1 hv hlen h hp hcv hsep hd hG0 hXc hXf hX
  go_enter Tryz.func80, Tryz.ntmps80
  go_wp2_with fail
  rw [← HX.out]
  obtain ⟨ib, hib⟩ : ∃ ib, ib = w.heap.size := ⟨_, rfl⟩
  rw [← hib] at H0 ⊢
  obtain ⟨w0, hw0⟩ : ∃ w0, w0 = w.alloc X := ⟨_, rfl⟩
  rw [← hw0] at H0 ⊢
  clear hib hw0 HX
  go_loopw [8, 2] (fun i s wx => ∃ k rep lit cur o f m' v', k ≤ len ∧ i = .int .i64 k ∧ (k < len → s = .slice (some ⟨ob, oo + k, none⟩) (len - k) (cap - k)) ∧ Gd c W R ob oo len us Ov Sv vd dc v vs ib w wx k rep lit cur o f m' v') (fun i _ wx => 2 * (len - (intOf i).toNat) + idle wx R)
  case atStart => exact ⟨0, _, _, _, _, _, _, _, Nat.zero_le _, rfl, fun _ => rfl, H0.out⟩
  case round =>
    obtain ⟨k, rep, lit, cur, o, f, m', v', hk, rfl, hs, hG⟩ := hrel
    clear H0
    by_cases hlt : k < len
    · obtain rfl := hs hlt
      clear hs
      rcases hG.pos.cases with ⟨hr1, rfl⟩ | ⟨rfl, hl1⟩ | ⟨rfl, rfl, hruns⟩
      · obtain ⟨q, hq⟩ : ∃ q, q = min (len - k) rep := ⟨_, rfl⟩
        have hq1 : 1 ≤ q := by omega
        have hqr : q ≤ rep := by omega
        have hqk : k + q ≤ len := by omega
        have hqi : min ((len : Int) - k) (rep : Int) = q := by omega
        have hqi2 : (if (rep : Int) < (len : Int) - k then (rep : Int) else (len : Int) - k) = q := by split <;> omega
        have hrb := hG.pos.bounds.1
        have c3 := hG.rd.re
        have f3 := hG.rd.fr 3 (by omega)
        have c2 := hG.rd.cu
        have htk := hG.pos.took_rep hr1 hqr
        have hcur : cur < us.length := Hv.out cur (mem_of_drop (htk.2 0 (by omega)))
        have hwc : IntKind.i32.wrap (cur : Int) = cur := IntWalk.i32_in _ (by omega)
        have hS := single_ok us Ov Sv vd dc m' cur v' wr hHV.out hG.cv hcur hul H1.out
        have HS := Lib.hid hS
        have HG := Lib.hid hG
        have Hq := Lib.hid hq
        have Htk := Lib.hid htk
        have Hcur := Lib.hid hcur
        have Hid0 := Lib.hid (idle_le wr R)
        have hr1' : (0 : Int) < rep := by omega
        clear hS hG hq htk hcur
        go_wp2_with fail
        refine HS.out.mono ?_
        rintro e w1 ⟨rfl, m1, v1, hm1, him1, hA1⟩
        have hsepR : ∀ a (_ : Nat), OD dc Ov v' a → a ≠ c.b ∧ a ≠ c.rb ∧ a ≠ c.B ∧ a ≠ R ∧ 7 < a := by
          intro a _ hh
          obtain ⟨g1, g2, g3, g4, g5, -, -⟩ := HG.out.sep a hh
          exact ⟨g4, g3, g1, g2, g5⟩
        have hR1 := HG.out.rd.keep hA1.2.1 hsepR
        have hG1 := HG.out.more (n := 0) (hA1.2.1.mono (fun _ _ _ h => .inr (.inl h))) (by omega) hR1 HG.out.pos hA1.1 hA1.2.2 (fun j hj => by omega) (fun j hj => by
          obtain ⟨u, hu⟩ := HG.out.ix.oth j hj
          exact ⟨u, hA1.2.1.keep hu (fun hh => (HG.out.sep _ hh).2.2.2.2.2.2 rfl)⟩)
        rw [Nat.add_zero] at hG1
        have d3 := hR1.re
        have d2 := hR1.cu
        have hdk : ∀ j, j < q → ∃ u, w1.drew.cell? ⟨ob, oo + k + j, none⟩ = some u := fun j hj => by
          have := hG1.dst.oth (k + j) (by omega)
          rwa [← Nat.add_assoc] at this
        have hfk : ∀ j, j < q → w1.drew.frozen? ⟨ob, oo + k + j, none⟩ = false := fun j hj => by
          have := hG1.dst.ofr (k + j) (by omega)
          rwa [← Nat.add_assoc] at this
        have hF := fill_ok us Ov Sv vd dc m1 cur v1 ob (oo + k) q (cap - k) w1.drew hHV.out (hG1.cv.drew hHV.out) hq1 (by omega) (by omega) (by omega) Hcur.out (fun hh => (hG1.sep _ hh).2.2.2.2.2.1 rfl) hdk hfk hul H1.out
        have HF := Lib.hid hF
        have HG1 := Lib.hid hG1
        have hqt : ((q : Nat) : Int).toNat = q := by omega
        have hq00 : 0 ≤ (q : Int) := by omega
        have hqc : q ≤ cap - k := by omega
        clear hA1 hR1 hG1 hdk hfk hF HG c2 c3 f3 hsepR hm1 him1 HS
        go_wp2_with fail
        refine wp_region_txt [] (by kernel_rfl) (by kernel_rfl) ?_
        repeat (first | (refine wpTxt_pure rfl rfl (fun K hK => ?_); go_simp; refine hK _ ?_; clear hK K) | (refine wpTxt_still rfl rfl (fun K hK => ?_); go_simp; refine hK _ ?_; clear hK K))
        (refine wpTxt_effect rfl rfl (fun K hK => ?_); go_simp)
        refine HF.out.mono ?_
        rintro e w2 ⟨rfl, m2, v2, hm2, him2, hcv2, hc2, hst2, hout2⟩
        have hc2' := hc2.undrew
        have hst2' : Stays w1 v1 v2 := hst2
        have hsepR : ∀ a x, (OD dc Ov v1 a ∨ (a = ob ∧ oo + k ≤ x ∧ x < oo + k + q)) → a ≠ c.b ∧ a ≠ c.rb ∧ a ≠ c.B ∧ a ≠ R ∧ 7 < a := by
          rintro a x (hh | ⟨rfl, -⟩)
          · obtain ⟨g1, g2, g3, g4, g5, -, -⟩ := HG1.out.sep a hh
            exact ⟨g4, g3, g1, g2, g5⟩
          · exact ⟨HG1.out.dst.nb, HG1.out.dst.nr, HG1.out.dst.nB, HG1.out.nR, HG1.out.dst.g⟩
        have hR2 := HG1.out.rd.keep hc2' hsepR
        have e3 := hR2.re
        have f3 := hR2.fr 3 (by omega)
        have hc3 : Chg (fun a x => a = R ∧ x = 3) w2 (w2.setCell ⟨R, 3, none⟩ (.int .i32 (rep - q : Nat))) := (Chg.refl _ _).setCell _ _ (fun _ => ⟨rfl, rfl⟩) _
        have hRo : ¬ OD dc Ov v2 R := by
          rintro (hh | hh | hh)
          · exact (HG1.out.sep R (.inl hh)).2.1 rfl
          · exact (HG1.out.sep R (.inr (.inl hh))).2.1 rfl
          · rcases hst2' R hh with h6 | h6
            · exact (HG1.out.sep R (.inr (.inr h6))).2.1 rfl
            · have := HG1.out.rd.lt; omega
        have hG3 := HG1.out.more (n := q) (hc2'.comp hc3 (by
            rintro a x _ (hh | hh)
            · exact .inr (.inl hh)
            · exact .inl (.inr (.inr (.inr hh)))) (by rintro a x _ ⟨rfl, -⟩; exact .inl (.inr (.inl rfl)))) hqk (hR2.rep' (rep - q)) Htk.out.1 (hcv2.keep hHV.out hc3 (by rintro a x ⟨rfl, -⟩; exact hRo)) hst2'
          (fun j hj => ⟨cur, Htk.out.2 j hj, hc3.keep (hout2 j hj) (by rintro ⟨hh, -⟩; exact HG1.out.nR hh)⟩)
          (fun j hj => by
            obtain ⟨u, hu⟩ := HG1.out.ix.oth j hj
            exact ⟨u, hc3.keep (hc2'.keep hu (by
              rintro (hh | ⟨hh, -⟩)
              · exact (HG1.out.sep _ hh).2.2.2.2.2.2 rfl
              · exact HG1.out.io hh)) (by rintro ⟨hh, -⟩; exact HG1.out.iR hh)⟩)
        have hrm : (rep : Int) - q = (rep - q : Nat) := by omega
        rw [← hrm] at hG3
        have HG3 := Lib.hid hG3
        have hqw : IntKind.i32.wrap (q : Int) = q := IntWalk.i32_in _ (by omega)
        have hKo : k + q = len → True := fun _ => trivial
        clear hc2 hc2' hst2 hst2' hsepR hR2 hc3 hRo hG3 hcv2 hout2 hm2 him2 HF HG1 hKo d2 d3 hrm
        (refine hK _ _ ?_; clear hK K)
        repeat (first | (refine wpTxt_pure rfl rfl (fun K hK => ?_); go_simp; refine hK _ ?_; clear hK K) | (refine wpTxt_still rfl rfl (fun K hK => ?_); go_simp; refine hK _ ?_; clear hK K))
        refine wpTxt_nil ?_
        go_wp2_with fail
        go_roundw
        case rel => exact ⟨k + q, rep - q, 0, cur, o, f, m2, v2, by omega, by push_cast; rfl, fun hh => by simp only [Nat.add_assoc, Nat.sub_sub]; rw [if_neg (by omega)], HG3.out⟩
        case measure =>
          have := Hid0.out
          have := idle_le (w2.setCell ⟨R, 3, none⟩ (.int .i32 (rep - q))) R
          simp [intOf]; omega
      · obtain ⟨q, hq⟩ : ∃ q, q = min (min (len - k) lit) 1024 := ⟨_, rfl⟩
        have hq1 : 1 ≤ q := by omega
        have hql : q ≤ lit := by omega
        have hqk : k + q ≤ len := by omega
        have hq24 : q ≤ 1024 := by omega
        have hqi2 : (if (1024 : Int) < (if (lit : Int) < (len : Int) - k then (lit : Int) else (len : Int) - k) then (1024 : Int) else (if (lit : Int) < (len : Int) - k then (lit : Int) else (len : Int) - k)) = q := by split <;> split at * <;> omega
        have hqi3 : min (min ((len : Int) - k) (lit : Int)) 1024 = q := by omega
        have hqt : ((q : Nat) : Int).toNat = q := by omega
        have hq00 : 0 ≤ (q : Int) := by omega
        have hqc : q ≤ cap - k := by omega
        have hq24i : (q : Int) ≤ 1024 := by omega
        have hlb := hG.pos.bounds.2
        have c0 := hG.rd.p
        have c1 := hG.rd.wi
        have c3 := hG.rd.re
        have c4 := hG.rd.li
        have hbits := (hG.pos.took_lit (m := 0) (o' := o) (f' := f) hl1 (by omega) (by omega)).2.2
        have e1 : lit * W = q * W + (lit - q) * W := by rw [← Nat.add_mul]; congr 1; omega
        have hdi : Dst c wr ib 0 q := ⟨fun j hj => hG.ix.oth j (by omega), fun j hj => hG.ix.ofr j (by omega), hG.ix.nB, hG.ix.nr, hG.ix.nb, hG.ix.g⟩
        have hcall := getIndex_ok c o f W ib 0 q 1024 wr.drew hG.rd.rs.drew' (hdi.keep (Chg.drew (Chg.refl Nix wr)) (fun _ _ h => h)) hW1 hW2 (by omega) hq24 hq24 (by omega)
        have Hcall := Lib.hid hcall
        have HG := Lib.hid hG
        have Hq := Lib.hid hq
        have Hid0 := Lib.hid (idle_le wr R)
        have hl1' : (0 : Int) < lit := by omega
        have hwW : IntKind.u64.wrap (W : Int) = W := wrap64 _ (by omega) (by omega)
        clear hcall hG hq e1 hbits hdi
        go_wp2_with fail
        refine wp_region_txt [] (by kernel_rfl) (by kernel_rfl) ?_
        repeat (first | (refine wpTxt_pure rfl rfl (fun K hK => ?_); go_simp; refine hK _ ?_; clear hK K) | (refine wpTxt_still rfl rfl (fun K hK => ?_); go_simp; refine hK _ ?_; clear hK K))
        (refine wpTxt_effect rfl rfl (fun K hK => ?_); go_simp)
        refine Hcall.out.mono ?_
        rintro e w1 ⟨rfl, o1, f1, hX0⟩
        have hc1 : Chg (GT c ib 0 q) wr w1 := hX0.chg.undrew
        obtain ⟨Kx, hKe⟩ : ∃ Kx : Nat → Nat, Kx = fun j => bitsV c.D (8 * o + f + j * W) W := ⟨_, rfl⟩
        have hKc : ∀ j, j < q → w1.cell? ⟨ib, 0 + j, none⟩ = some (.int .i32 (Kx j : Nat)) := fun j hj => by rw [hKe]; exact hX0.out j hj
        have hSR : ∀ x, ¬ GT c ib 0 q R x := by
          rintro x (hh | hh | hh)
          · exact HG.out.rd.nB hh
          · exact HG.out.rd.nr hh.1
          · exact HG.out.iR hh.1.symm
        have hSO : ∀ a x, GT c ib 0 q a x → ¬ OD dc Ov v' a := by
          rintro a x (rfl | ⟨rfl, -⟩ | ⟨rfl, -⟩) hh
          · exact (HG.out.sep _ hh).1 rfl
          · exact (HG.out.sep _ hh).2.2.1 rfl
          · exact (HG.out.sep _ hh).2.2.2.2.2.2 rfl
        have hSB : ∀ x, ¬ GT c ib 0 q ob x := by
          rintro x (hh | hh | hh)
          · exact HG.out.dst.nB hh
          · exact HG.out.dst.nr hh.1
          · exact HG.out.io hh.1.symm
        have hR1 := HG.out.rd.read hc1 hSR hX0.rs
        have ht := HG.out.pos.took_lit hl1 hql hX0.pos
        have hKl : ∀ j, j < q → Kx j < us.length := fun j hj => Hv.out _ (mem_of_drop (by rw [hKe]; exact ht.2.1 j hj))
        have hcv1 := HG.out.cv.keep hHV.out hc1 hSO
        have hVal := valid_ok us Ov Sv vd dc m' v' ib 0 q 1024 Kx w1 hHV.out hcv1 hq1 (by omega) hKc hKl hul H1.out
        have HVal := Lib.hid hVal
        have HX0 := Lib.hid hX0
        have Ht := Lib.hid ht
        have HR1 := Lib.hid hR1
        have Hc1 := Lib.hid hc1
        have HKc := Lib.hid hKc
        have HKl := Lib.hid hKl
        have HK := Lib.hid hKe
        have HSB := Lib.hid hSB
        clear hX0 hc1 hKc hSR hSO hR1 ht hKl hcv1 hVal hKe Hcall hSB c0 c1 c3 c4
        (refine hK _ _ ?_; clear hK K)
        repeat (first | (refine wpTxt_pure rfl rfl (fun K hK => ?_); go_simp; refine hK _ ?_; clear hK K) | (refine wpTxt_still rfl rfl (fun K hK => ?_); go_simp; refine hK _ ?_; clear hK K))
        refine wpTxt_nil ?_
        go_wp2_with fail
        refine HVal.out.mono ?_
        rintro e w2 ⟨rfl, m2, v2, hm2, hKm, hA2⟩
        have hol2 : ob < w2.heap.size := hA2.2.1.lt (Hc1.out.lt HG.out.ol)
        have hib2 : ib ≠ dc ∧ ∀ g, v2.ownBlock = some g → g ≠ ib := by
          refine ⟨fun hh => (HG.out.sep dc (.inl rfl)).2.2.2.2.2.2 hh.symm, fun g hg => ?_⟩
          rcases hA2.2.2 g hg with h6 | h6
          · exact (HG.out.sep g (.inr (.inr h6))).2.2.2.2.2.2
          · obtain ⟨u, hu⟩ := HG.out.ix.oth 0 (by omega)
            have : ib < w1.heap.size := Hc1.out.lt (World.block_lt_of_cell? _ _ hu)
            omega
        have hob2 : ¬ OD dc Ov v2 ob := by
          rintro (hh | hh | hh)
          · exact (HG.out.sep ob (.inl hh)).2.2.2.2.2.1 rfl
          · exact (HG.out.sep ob (.inr (.inl hh))).2.2.2.2.2.1 rfl
          · rcases hA2.2.2 ob hh with h6 | h6
            · exact (HG.out.sep ob (.inr (.inr h6))).2.2.2.2.2.1 rfl
            · have := Hc1.out.lt HG.out.ol; omega
        have hRo : ¬ OD dc Ov v2 R := by
          rintro (hh | hh | hh)
          · exact (HG.out.sep R (.inl hh)).2.1 rfl
          · exact (HG.out.sep R (.inr (.inl hh))).2.1 rfl
          · rcases hA2.2.2 R hh with h6 | h6
            · exact (HG.out.sep R (.inr (.inr h6))).2.1 rfl
            · have := HR1.out.lt; omega
        have hsepR : ∀ a (_ : Nat), OD dc Ov v' a → a ≠ c.b ∧ a ≠ c.rb ∧ a ≠ c.B ∧ a ≠ R ∧ 7 < a := by
          intro a _ hh
          obtain ⟨g1, g2, g3, g4, g5, -, -⟩ := HG.out.sep a hh
          exact ⟨g4, g3, g1, g2, g5⟩
        have hR2 := HR1.out.keep hA2.2.1 hsepR
        have hK2 : ∀ j, j < q → w2.cell? ⟨ib, 0 + j, none⟩ = some (.int .i32 (Kx j : Nat)) := fun j hj => hA2.2.1.keep (HKc.out j hj) (fun hh => (HG.out.sep _ hh).2.2.2.2.2.2 rfl)
        have hdk : ∀ j, j < q → ∃ u, w2.cell? ⟨ob, oo + k + j, none⟩ = some u := fun j hj => by
          obtain ⟨u, hu⟩ := HG.out.dst.oth (k + j) (by omega)
          exact ⟨u, by rw [Nat.add_assoc]; exact hA2.2.1.keep (Hc1.out.keep hu (HSB.out _)) (fun hh => (HG.out.sep _ hh).2.2.2.2.2.1 rfl)⟩
        have hfk : ∀ j, j < q → w2.frozen? ⟨ob, oo + k + j, none⟩ = false := fun j hj => by
          rw [Nat.add_assoc]
          exact ((hA2.2.1.frozen _ _ (Hc1.out.lt HG.out.ol)).trans (Hc1.out.frozen _ _ HG.out.ol)).trans (HG.out.dst.ofr (k + j) (by omega))
        have hCp := copy_ok us Ov Sv vd dc m2 v2 ib 0 q 1024 ob (oo + k) (len - k) (cap - k) Kx w2 hHV.out hA2.1 (by omega) (by omega) hK2 hKm HG.out.io hob2 hdk hfk hul H1.out
        have HCp := Lib.hid hCp
        have HA2 := Lib.hid hA2
        have HR2 := Lib.hid hR2
        have HRo := Lib.hid hRo
        clear hCp hA2 hR2 hRo hK2 hdk hfk hob2 hib2 hsepR hm2 hKm HVal hol2
        go_wp2_with fail
        refine HCp.out.mono ?_
        rintro e w3 ⟨rfl, hcv3, hc3, hout3⟩
        have hR3 := HR2.out.keep hc3 (by
          rintro a x ⟨rfl, -⟩
          exact ⟨HG.out.dst.nb, HG.out.dst.nr, HG.out.dst.nB, HG.out.nR, HG.out.dst.g⟩)
        have e4 := hR3.li
        have f4 := hR3.fr 4 (by omega)
        have hc4 : Chg (fun a x => a = R ∧ x = 4) w3 (w3.setCell ⟨R, 4, none⟩ (.int .i32 (lit - q : Nat))) := (Chg.refl _ _).setCell _ _ (fun _ => ⟨rfl, rfl⟩) _
        have hG3 := HG.out.more (n := q) ((((Hc1.out.comp HA2.out.2.1 (T := fun a x => GTR c R ob (oo + k) q a x ∨ OD dc Ov v' a ∨ a = ib) (by
            rintro a x _ (hh | hh | hh)
            · exact .inl (.inl hh)
            · exact .inl (.inr (.inr (.inl hh)))
            · exact .inr (.inr hh.1)) (fun a x _ hh => .inr (.inl hh))).comp hc3 (fun _ _ _ h => h) (fun a x _ hh => .inl (.inr (.inr (.inr hh)))))).comp hc4 (fun _ _ _ h => h) (by rintro a x _ ⟨rfl, -⟩; exact .inl (.inr (.inl rfl)))) hqk (hR3.lit' (lit - q)) Ht.out.1 (hcv3.keep hHV.out hc4 (by rintro a x ⟨rfl, -⟩; exact HRo.out)) (fun g hg => (HA2.out.2.2 g hg).imp id (fun h => Nat.le_trans Hc1.out.size h))
          (fun j hj => ⟨_, Ht.out.2.1 j hj, hc4.keep (by have := hout3 j hj; rw [HK.out] at this; exact this) (by rintro ⟨hh, -⟩; exact HG.out.nR hh)⟩)
          (fun j hj => by
            have hu1 : ∃ u, w1.cell? ⟨ib, 0 + j, none⟩ = some u := by
              by_cases hjq : j < q
              · exact ⟨_, HKc.out j hjq⟩
              · obtain ⟨u, hu⟩ := HG.out.ix.oth j hj
                exact ⟨u, Hc1.out.keep hu (by
                  rintro (hh | hh | hh)
                  · exact HG.out.ix.nB hh
                  · exact HG.out.ix.nr hh.1
                  · omega)⟩
            obtain ⟨u, hu⟩ := hu1
            exact ⟨u, hc4.keep (hc3.keep (HA2.out.2.1.keep hu (fun hh => (HG.out.sep _ hh).2.2.2.2.2.2 rfl)) (by rintro ⟨hh, -⟩; exact HG.out.io hh)) (by rintro ⟨hh, -⟩; exact HG.out.iR hh)⟩)
        have hrm : (lit : Int) - q = (lit - q : Nat) := by omega
        rw [← hrm] at hG3
        have HG3 := Lib.hid hG3
        have hqw : IntKind.i32.wrap (q : Int) = q := IntWalk.i32_in _ (by omega)
        clear hc3 hR3 hc4 hG3 hcv3 hout3 HCp hrm HG HX0 HR1 HR2
        go_wp2_with fail
        all_goals
          go_roundw
          case rel => exact ⟨k + q, 0, lit - q, cur, o1, f1, m2, v2, by omega, by push_cast; rfl, fun hh => by simp only [Nat.add_assoc, Nat.sub_sub]; rw [if_neg (by omega)], HG3.out⟩
          case measure =>
            have := Hid0.out
            have := idle_le (w3.setCell ⟨R, 4, none⟩ (.int .i32 (lit - q))) R
            simp [intOf]; omega
      · have c3 := hG.rd.re
        have c4 := hG.rd.li
        have Hcall := Lib.hid (rleNext_ok c W R cur o f (vs.drop k) wr hG.rd hW1 (by omega) hruns (ne_drop hlt Hlen.out))
        have Hid1 := Lib.hid (idle_yes hG.rd)
        have HG := Lib.hid hG; clear hG
        clear hruns
        go_wp2_with fail
        refine Hcall.out.mono ?_
        rintro e w1 ⟨rfl, h1, rep2, lit2, cur2, o2, f2, hR2, hP2, hz⟩
        have Hid2 := Lib.hid (idle_is hR2 hz)
        have hSO : ∀ a x, OwnR c R a x → ¬ OD dc Ov v' a := by
          rintro a x (rfl | rfl) hh
          · exact (HG.out.sep _ hh).1 rfl
          · exact (HG.out.sep _ hh).2.1 rfl
        have hG2 := HG.out.more (n := 0) (h1.mono (by rintro a x _ (hh | hh); exact .inl (.inl hh); exact .inl (.inr (.inl hh)))) (by omega) hR2 hP2 (HG.out.cv.keep hHV.out h1 hSO) (fun g hg => .inl hg) (fun j hj => by omega) (fun j hj => by
          obtain ⟨u, hu⟩ := HG.out.ix.oth j hj
          exact ⟨u, h1.keep hu (by rintro (hh | hh); exact HG.out.ix.nB hh; exact HG.out.iR hh)⟩)
        rw [Nat.add_zero] at hG2
        have HG2 := Lib.hid hG2
        clear h1 hR2 hP2 hz hG2 hSO
        go_wp2_with fail
        go_roundw
        case rel => exact ⟨k, rep2, lit2, cur2, o2, f2, _, _, hk, rfl, fun _ => rfl, HG2.out⟩
        case measure =>
          have := Hid1.out
          have := Hid2.out
          simp [intOf]; omega
    · have hke : k = len := by omega
      subst hke
      have HG := Lib.hid hG; clear hG
      go_wp2_with fail
      go_ret2
      exact ⟨rfl, _, _, _, _, _, _, _, _, HG.out⟩
end XF
end Go.Proofs.YtmcjpnijldhelaaGreatDoor
/- The decoder by a dictionary: a batch, what it skips. Of float64. -/
namespace Go.Proofs.YtmcjpnijldhelaaGreatDoor
open Go Go.RowKit
namespace XF
/-- What the decoder owns: all that stands below it, the package's variables too. -/
def OS (c : RC) (R dc : Nat) (Ov : Nat → Prop) (v : Value) : Nat → Prop := fun a => a ≤ 7 ∨ a = c.B ∨ a = R ∨ a = c.rb ∨ a = c.b ∨ OD dc Ov v a
/-- The decoder behind p values. -/
structure SDs (c : RC) (W R : Nat) (us : List Value) (Ov : Nat → Prop) (Sv : Nat → World → Prop) (vd dc : Nat) (vs : List Nat) (O : Nat → Prop) (p : Nat) (w : World) : Prop where
  ex : ∃ rep lit cur o f m v, RD c W R rep lit cur o f w ∧ Pos c.D c.L W rep lit cur o f (vs.drop p) ∧ DCV us Ov Sv vd dc m v w ∧ (∀ a, OD dc Ov v a → a ≠ c.B ∧ a ≠ R ∧ a ≠ c.rb ∧ a ≠ c.b ∧ 7 < a) ∧ ∀ a, O a ↔ OS c R dc Ov v a
  c0 : w.cell? ⟨c.rb, 0, none⟩ = some (.int .i64 (vs.length - p : Nat))
  f0 : w.frozen? ⟨c.rb, 0, none⟩ = false
  c4 : w.cell? ⟨c.rb, 4, none⟩ = some (.iface 160 (.pointer (some ⟨dc, 0, none⟩)))
  c5 : w.cell? ⟨c.rb, 5, none⟩ = some (.pointer (some ⟨R, 0, none⟩))
  ro : c.ro = 6
  L0 : 0 < c.L
  pl : p ≤ vs.length
theorem SDs.lt {c : RC} {W R : Nat} {us : List Value} {Ov : Nat → Prop} {Sv : Nat → World → Prop} {vd dc : Nat} {vs : List Nat} {O : Nat → Prop} {p : Nat} {w : World} (hV : ValD us Ov Sv vd) (h : SDs c W R us Ov Sv vd dc vs O p w) : ∀ a, O a → a < w.heap.size := by
  intro a ha
  obtain ⟨rep, lit, cur, o, f, m, v, hR, hP, hC, hsep, hO⟩ := h.ex
  have h1 := hR.lt
  have h2 := hR.rs.lt
  have h3 := hR.rs.rlt
  have h4 := hR.rs.blt h.L0
  have h5 := hR.g
  rcases (hO a).1 ha with hh | rfl | rfl | rfl | rfl | hh
  · omega
  · exact h2
  · exact h1
  · exact h3
  · exact h4
  · exact hC.lt hV a hh
theorem SDs.keep {c : RC} {W R : Nat} {us : List Value} {Ov : Nat → Prop} {Sv : Nat → World → Prop} {vd dc : Nat} {vs : List Nat} {O : Nat → Prop} {p : Nat} {w w' : World} (hV : ValD us Ov Sv vd) (h : SDs c W R us Ov Sv vd dc vs O p w) {S : Nat → Nat → Prop} (hc : Chg S w w') (hS : ∀ a x, S a x → ¬ O a) : SDs c W R us Ov Sv vd dc vs O p w' := by
  obtain ⟨rep, lit, cur, o, f, m, v, hR, hP, hC, hsep, hO⟩ := h.ex
  have hrb : ∀ x, ¬ S c.rb x := fun x hh => hS _ _ hh ((hO _).2 (.inr (.inr (.inr (.inl rfl)))))
  refine ⟨⟨rep, lit, cur, o, f, m, v, hR.keep hc ?_, hP, hC.keep hV hc (fun a x hs ho => hS a x hs ((hO a).2 (.inr (.inr (.inr (.inr (.inr ho))))))), hsep, hO⟩, hc.keep h.c0 (hrb _), (hc.frozen _ _ (World.block_lt_of_cell? _ _ h.c0)).trans h.f0, hc.keep h.c4 (hrb _), hc.keep h.c5 (hrb _), h.ro, h.L0, h.pl⟩
  intro a x hs
  have hn := hS a x hs
  rw [hO] at hn
  unfold OS at hn
  simp only [not_or] at hn
  exact ⟨hn.2.2.2.2.1, hn.2.2.2.1, hn.2.1, hn.2.2.1, by omega⟩
/-- Where the number of values left is laid anew. -/
theorem SDs.left {c : RC} {W R : Nat} {us : List Value} {Ov : Nat → Prop} {Sv : Nat → World → Prop} {vd dc : Nat} {vs : List Nat} {O : Nat → Prop} {p n rep lit cur o f m : Nat} {v v' : Value} {w w1 : World} (hV : ValD us Ov Sv vd) (h : SDs c W R us Ov Sv vd dc vs O p w) (hO : ∀ a, O a ↔ OS c R dc Ov v a)
    {S : Nat → Nat → Prop} (hc : Chg S w w1) (hS : ∀ x, x < 6 → ¬ S c.rb x) (hn : p + n ≤ vs.length) (hR : RD c W R rep lit cur o f w1) (hP : Pos c.D c.L W rep lit cur o f ((vs.drop p).drop n)) (hC : DCV us Ov Sv vd dc m v' w1) (hst : Stays w v v') (hsep : ∀ a, OD dc Ov v' a → a ≠ c.B ∧ a ≠ R ∧ a ≠ c.rb ∧ a ≠ c.b ∧ 7 < a) :
    SDs c W R us Ov Sv vd dc vs (OS c R dc Ov v') (p + n) (w1.setCell ⟨c.rb, 0, none⟩ (.int .i64 (vs.length - (p + n) : Nat))) ∧ Grow O w (OS c R dc Ov v') := by
  have hc0 : Chg (fun a x => a = c.rb ∧ x = 0) w1 (w1.setCell ⟨c.rb, 0, none⟩ (.int .i64 (vs.length - (p + n) : Nat))) := (Chg.refl _ _).setCell _ _ (fun _ => ⟨rfl, rfl⟩) _
  have hRk : RD c W R rep lit cur o f (w1.setCell ⟨c.rb, 0, none⟩ (.int .i64 (vs.length - (p + n) : Nat))) := by
    have hne := hR.nr
    refine hR.read hc0 (by rintro x ⟨hh, -⟩; exact hne hh) ?_
    obtain ⟨i, pr, hr⟩ := hR.rs.env.rdr
    exact hR.rs.seek hc0 (fun _ _ hh => hh.1) ⟨i, pr, hr.keep hc0 (by rintro j hj ⟨-, hh⟩; have := h.ro; omega)⟩
  refine ⟨⟨⟨rep, lit, cur, o, f, m, v', hRk, by rw [← List.drop_drop]; exact hP, hC.keep hV hc0 (by rintro a x ⟨rfl, -⟩ ho; exact (hsep _ ho).2.2.1 rfl), hsep, fun a => Iff.rfl⟩, World.cell?_setCell_same _ _ _ (hc.keep h.c0 (hS 0 (by omega))), by rw [World.frozen?_setCell]; exact (hc.frozen _ _ (World.block_lt_of_cell? _ _ h.c0)).trans h.f0, hc0.keep (hc.keep h.c4 (hS 4 (by omega))) (by rintro ⟨-, hh⟩; omega), hc0.keep (hc.keep h.c5 (hS 5 (by omega))) (by rintro ⟨-, hh⟩; omega), h.ro, h.L0, hn⟩, ?_⟩
  intro a ha
  rcases ha with hh | hh | hh | hh | hh | hh | hh | hh
  · exact .inl ((hO a).2 (.inl hh))
  · exact .inl ((hO a).2 (.inr (.inl hh)))
  · exact .inl ((hO a).2 (.inr (.inr (.inl hh))))
  · exact .inl ((hO a).2 (.inr (.inr (.inr (.inl hh)))))
  · exact .inl ((hO a).2 (.inr (.inr (.inr (.inr (.inl hh))))))
  · exact .inl ((hO a).2 (.inr (.inr (.inr (.inr (.inr (.inl hh)))))))
  · exact .inl ((hO a).2 (.inr (.inr (.inr (.inr (.inr (.inr (.inl hh))))))))
  · rcases hst a hh with h6 | h6
    · exact .inl ((hO a).2 (.inr (.inr (.inr (.inr (.inr (.inr (.inr h6))))))))
    · exact .inr h6
/-- Behind a batch of n values, or n left out. -/
def DecEnd (c : RC) (W R : Nat) (us : List Value) (Ov : Nat → Prop) (Sv : Nat → World → Prop) (vd dc : Nat) (vs : List Nat) (O : Nat → Prop) (p n : Nat) (T : Nat → Nat → Prop) (w : World) (e : Ending) (w' : World) : Prop :=
  e = .returned (.tuple #[.int .i64 n, .nilIface]) ∧ Chg (fun a x => (O a ∧ 7 < a) ∨ T a x) w w' ∧ ∃ O', Grow O w O' ∧ SDs c W R us Ov Sv vd dc vs O' (p + n) w'
set_option maxRecDepth 100000 in
set_option maxHeartbeats 1000000 in
theorem discard1_ok (c : RC) (W R : Nat) (us : List Value) (Ov : Nat → Prop) (Sv : Nat → World → Prop) (vd dc : Nat) (vs : List Nat) (O : Nat → Prop) (p n : Nat) (w : World) (hV : ValD us Ov Sv vd) (h : SDs c W R us Ov Sv vd dc vs O p w) (hn : p + n ≤ vs.length) (hl : vs.length ≤ 1000000) (hW1 : 1 ≤ W) (hW2 : W ≤ 31) :
    Calls Tryz.prog 68 #[.pointer (some ⟨c.rb, 0, none⟩), .int .i64 n] w (DecEnd c W R us Ov Sv vd dc vs O p n (fun _ _ => False) w) := by
  obtain ⟨rep, lit, cur, o, f, m, v, hR, hP, hC, hsep, hO⟩ := h.ex
  have hcall := rleDiscard_ok c W R rep lit cur o f n (vs.drop p) w hR hP hW1 (by omega) (by rw [List.length_drop]; omega) (by omega)
  have c0 := h.c0
  have c5 := h.c5
  have H := Lib.hid h
  have Hcall := Lib.hid hcall
  have HR := Lib.hid hR
  have HC := Lib.hid hC
  have Hsep := Lib.hid hsep
  have HO := Lib.hid hO
  clear hcall h hR hP hC hsep hO
  go_enter Tryz.func68, Tryz.ntmps68
  go_wp2_with fail
  refine Hcall.out.mono ?_
  rintro e w1 ⟨rfl, rep2, lit2, cur2, o2, f2, hL⟩
  have hSrb : ∀ x, x < 6 → ¬ OwnR c R c.rb x := by
    rintro x hx (hh | hh)
    · exact HR.out.rs.env.rB hh
    · exact HR.out.nr hh.symm
  have hSO : ∀ a x, OwnR c R a x → ¬ OD dc Ov v a := by
    rintro a x (rfl | rfl) hh
    · exact (Hsep.out _ hh).1 rfl
    · exact (Hsep.out _ hh).2.1 rfl
  have k0 := hL.chg.keep c0 (hSrb 0 (by omega))
  have kf := (hL.chg.frozen _ 0 (World.block_lt_of_cell? _ _ c0)).trans H.out.f0
  have hleft := H.out.left hV HO.out hL.chg hSrb hn hL.rd hL.pos (HC.out.keep hV hL.chg hSO) (fun k hk => .inl hk) Hsep.out
  have hchg : Chg (fun a x => (O a ∧ 7 < a) ∨ False) w (w1.setCell ⟨c.rb, 0, none⟩ (.int .i64 (vs.length - (p + n) : Nat))) := by
    have hgr : 7 < c.rb := HR.out.rs.env.gr
    refine (hL.chg.mono ?_).setCell _ _ (fun _ => .inl ⟨(HO.out _).2 (.inr (.inr (.inr (.inl rfl)))), hgr⟩) _
    rintro a x _ (hh | hh)
    · exact .inl ⟨(HO.out _).2 (.inr (.inl hh)), by rw [hh]; exact HR.out.rs.env.gB⟩
    · exact .inl ⟨(HO.out _).2 (.inr (.inr (.inl hh))), by rw [hh]; exact HR.out.g⟩
  have hin : ((vs.length - p : Nat) : Int) - n = (vs.length - (p + n) : Nat) := by omega
  have Hleft := Lib.hid hleft
  have Hchg := Lib.hid hchg
  clear hL hSrb hSO hleft hchg c0 c5
  go_wp2_with fail
  go_ret2
  exact ⟨rfl, Hchg.out, _, Hleft.out.2, Hleft.out.1⟩
set_option maxRecDepth 100000 in
set_option maxHeartbeats 1000000 in
theorem decode1_ok (c : RC) (W R : Nat) (us : List Value) (Ov : Nat → Prop) (Sv : Nat → World → Prop) (vd dc : Nat) (vs : List Nat) (O : Nat → Prop) (p ob oo n cap : Nat) (w : World) (hV : ValD us Ov Sv vd) (h1 : ∀ u ∈ us, IsE u) (hul : us.length ≤ 1000) (hv : ∀ x ∈ vs, x < us.length) (h : SDs c W R us Ov Sv vd dc vs O p w) (hn : p + n ≤ vs.length) (hl : vs.length ≤ 1000000) (hW1 : 1 ≤ W) (hW2 : W ≤ 31)
    (hob : ¬ O ob) (hobl : ob < w.heap.size) (hd : ∀ j, j < n → ∃ u, w.cell? ⟨ob, oo + j, none⟩ = some u) (hf : ∀ j, j < n → w.frozen? ⟨ob, oo + j, none⟩ = false) (hcap : n ≤ cap) (hcap2 : cap ≤ 1000000000000000000) :
    Calls Tryz.prog 67 #[.pointer (some ⟨c.rb, 0, none⟩), .slice (some ⟨ob, oo, none⟩) n cap] w fun e w' =>
      DecEnd c W R us Ov Sv vd dc vs O p n (fun a x => a = ob ∧ oo ≤ x ∧ x < oo + n) w e w' ∧ ∀ j, j < n → w'.cell? ⟨ob, oo + j, none⟩ = some (us.getD (vs.getD (p + j) 0) .nilIface) := by
  obtain ⟨rep, lit, cur, o, f, m, v, hR, hP, hC, hsep, hO⟩ := h.ex
  have hob2 := hob
  rw [hO] at hob2
  unfold OS at hob2
  simp only [not_or] at hob2
  obtain ⟨g1, g2, g3, g4, g5, g6⟩ := hob2
  have hcall := withDict_ok c W R rep lit cur o f ob oo n cap us Ov Sv vd dc m v (vs.drop p) w.drew hV h1 hul (hR.keep (Chg.drew (Chg.refl Nix w)) (fun _ _ h => h.elim)) hP hW1 hW2 (fun x hx => hv x (List.mem_of_mem_drop hx)) (hC.drew hV) (fun a ha => by
    obtain ⟨k1, k2, k3, k4, k5⟩ := hsep a ha
    exact ⟨k1, k2, k3, k4, k5, by rintro rfl; exact g6 ha⟩) h.L0 hobl (by rw [List.length_drop]; omega) (by omega) ⟨hd, hf, g2, g4, g5, by omega⟩ g3 hcap hcap2
  have c0 := h.c0
  have c4 := h.c4
  have c5 := h.c5
  have H := Lib.hid h
  have Hcall := Lib.hid hcall
  have HR := Lib.hid hR
  have HC := Lib.hid hC
  have Hsep := Lib.hid hsep
  have HO := Lib.hid hO
  clear hcall h hR hP hC hsep hO hd hf h1 hv
  go_enter Tryz.func67, Tryz.ntmps67
  go_wp2_with fail
  refine wp_region_txt [] (by kernel_rfl) (by kernel_rfl) ?_
  repeat (first | (refine wpTxt_pure rfl rfl (fun K hK => ?_); go_simp; refine hK _ ?_; clear hK K) | (refine wpTxt_still rfl rfl (fun K hK => ?_); go_simp; refine hK _ ?_; clear hK K))
  (refine wpTxt_effect rfl rfl (fun K hK => ?_); go_simp)
  refine Hcall.out.mono ?_
  rintro e w1 ⟨rfl, rep2, lit2, cur2, o2, f2, m2, v2, ib, hG⟩
  have hchg0 := hG.chg.undrew
  have hro := H.out.ro
  have hSrb : ∀ x, x < 6 → ¬ (GTR c R ob oo n c.rb x ∨ OD dc Ov v c.rb) := by
    rintro x hx ((hh | hh | hh | hh) | hh)
    · exact HR.out.rs.env.rB hh
    · exact HR.out.nr hh.symm
    · omega
    · exact g4 hh.1.symm
    · exact (Hsep.out _ hh).2.2.1 rfl
  have k0 := hchg0.keep c0 (hSrb 0 (by omega))
  have kf := (hchg0.frozen _ 0 (World.block_lt_of_cell? _ _ c0)).trans H.out.f0
  have hst : Stays w v v2 := hG.st
  have hleft := H.out.left hV HO.out hchg0 hSrb hn hG.rd hG.pos hG.cv hst (fun a ha => by
    obtain ⟨k1, k2, k3, k4, k5, -, -⟩ := hG.sep a ha
    exact ⟨k1, k2, k3, k4, k5⟩)
  have hchg : Chg (fun a x => (O a ∧ 7 < a) ∨ (a = ob ∧ oo ≤ x ∧ x < oo + n)) w (w1.setCell ⟨c.rb, 0, none⟩ (.int .i64 (vs.length - (p + n) : Nat))) := by
    have hgr : 7 < c.rb := HR.out.rs.env.gr
    refine (hchg0.mono ?_).setCell _ _ (fun _ => .inl ⟨(HO.out _).2 (.inr (.inr (.inr (.inl rfl)))), hgr⟩) _
    rintro a x _ ((hh | hh | hh | hh) | hh)
    · exact .inl ⟨(HO.out _).2 (.inr (.inl hh)), by rw [hh]; exact HR.out.rs.env.gB⟩
    · exact .inl ⟨(HO.out _).2 (.inr (.inr (.inl hh))), by rw [hh]; exact HR.out.g⟩
    · exact .inl ⟨(HO.out _).2 (.inr (.inr (.inr (.inl hh.1)))), by rw [hh.1]; exact hgr⟩
    · exact .inr hh
    · exact .inl ⟨(HO.out _).2 (.inr (.inr (.inr (.inr (.inr hh))))), (Hsep.out a hh).2.2.2.2⟩
  have hout : ∀ j, j < n → (w1.setCell ⟨c.rb, 0, none⟩ (.int .i64 (vs.length - (p + n) : Nat))).cell? ⟨ob, oo + j, none⟩ = some (us.getD (vs.getD (p + j) 0) .nilIface) := fun j hj => by
    refine cell_ne _ ?_ (fun hh => g4 hh.1)
    have := hG.out j hj
    rwa [List.getD_eq_getElem?_getD (l := vs.drop p), List.getElem?_drop, ← List.getD_eq_getElem?_getD] at this
  have hin : ((vs.length - p : Nat) : Int) - n = (vs.length - (p + n) : Nat) := by omega
  have Hleft := Lib.hid hleft
  have Hchg := Lib.hid hchg
  have Hout := Lib.hid hout
  clear hG hchg0 hSrb hst hleft hchg hout c0 c4 c5
  (refine hK _ _ ?_; clear hK K)
  repeat (first | (refine wpTxt_pure rfl rfl (fun K hK => ?_); go_simp; refine hK _ ?_; clear hK K) | (refine wpTxt_still rfl rfl (fun K hK => ?_); go_simp; refine hK _ ?_; clear hK K))
  refine wpTxt_nil ?_
  go_wp2_with fail
  go_ret2
  exact ⟨⟨rfl, Hchg.out, _, Hleft.out.2, Hleft.out.1⟩, Hout.out⟩
end XF
end Go.Proofs.YtmcjpnijldhelaaGreatDoor
/- The typed decoder by a dictionary: a batch, what it skips. Of float64. -/
namespace Go.Proofs.YtmcjpnijldhelaaGreatDoor
open Go Go.RowKit
namespace XF
theorem min_nat (a b : Nat) (h : a ≤ b) : min (a : Int) (b : Int) = a := by omega
set_option maxRecDepth 100000 in
set_option maxHeartbeats 1000000 in
theorem discardT_ok (c : RC) (W R : Nat) (us : List Value) (Ov : Nat → Prop) (Sv : Nat → World → Prop) (vd dc : Nat) (vs : List Nat) (O : Nat → Prop) (p n : Nat) (w : World) (hV : ValD us Ov Sv vd) (h : SDs c W R us Ov Sv vd dc vs O p w) (hn : p + n ≤ vs.length) (hl : vs.length ≤ 1000000) (hW1 : 1 ≤ W) (hW2 : W ≤ 31) :
    Calls Tryz.prog 42 #[.pointer (some ⟨c.rb, 0, none⟩), .int .i64 n] w (DecEnd c W R us Ov Sv vd dc vs O p n (fun _ _ => False) w) := by
  have Hcall := Lib.hid (discard1_ok c W R us Ov Sv vd dc vs O p n w hV h hn hl hW1 hW2)
  have c0 := h.c0
  have hmi := min_nat n (vs.length - p) (by omega)
  have hmi2 : (if ((vs.length - p : Nat) : Int) < (n : Int) then ((vs.length - p : Nat) : Int) else (n : Int)) = n := by split <;> omega
  clear h
  go_enter Tryz.func42, Tryz.ntmps42
  go_wp2_with fail
  refine Hcall.out.mono ?_
  rintro e w1 ⟨rfl, h2, h3⟩
  have H2 := Lib.hid h2
  have H3 := Lib.hid h3
  clear h2 h3
  go_wp2_with fail
  go_ret2
  exact ⟨rfl, H2.out, H3.out⟩
set_option maxRecDepth 100000 in
set_option maxHeartbeats 1000000 in
theorem decodeT_ok (c : RC) (W R : Nat) (us : List Value) (Ov : Nat → Prop) (Sv : Nat → World → Prop) (vd dc : Nat) (vs : List Nat) (O : Nat → Prop) (p ob oo n cap : Nat) (w : World) (hV : ValD us Ov Sv vd) (h1 : ∀ u ∈ us, IsE u) (hul : us.length ≤ 1000) (hv : ∀ x ∈ vs, x < us.length) (h : SDs c W R us Ov Sv vd dc vs O p w) (hn : p + n ≤ vs.length) (hl : vs.length ≤ 1000000) (hW1 : 1 ≤ W) (hW2 : W ≤ 31)
    (hob : ¬ O ob) (hobl : ob < w.heap.size) (hd : ∀ j, j < n → ∃ u, w.cell? ⟨ob, oo + j, none⟩ = some u) (hf : ∀ j, j < n → w.frozen? ⟨ob, oo + j, none⟩ = false) (hcap : n ≤ cap) (hcap2 : cap ≤ 1000000000000000000) :
    Calls Tryz.prog 41 #[.pointer (some ⟨c.rb, 0, none⟩), .slice (some ⟨ob, oo, none⟩) n cap] w fun e w' =>
      DecEnd c W R us Ov Sv vd dc vs O p n (fun a x => a = ob ∧ oo ≤ x ∧ x < oo + n) w e w' ∧ ∀ j, j < n → w'.cell? ⟨ob, oo + j, none⟩ = some (us.getD (vs.getD (p + j) 0) .nilIface) := by
  have Hcall := Lib.hid (decode1_ok c W R us Ov Sv vd dc vs O p ob oo n cap w.drew hV h1 hul hv (h.keep hV (Chg.drew (Chg.refl Nix w)) (fun _ _ h => h.elim)) hn hl hW1 hW2 hob hobl hd hf hcap hcap2)
  have c0 := h.c0
  have hmi := min_nat n (vs.length - p) (by omega)
  have hmi2 : (if ((vs.length - p : Nat) : Int) < (n : Int) then ((vs.length - p : Nat) : Int) else (n : Int)) = n := by split <;> omega
  have hnt : ((n : Nat) : Int).toNat = n := by omega
  have hn0 : 0 ≤ (n : Int) := by omega
  clear h hd hf hv h1
  go_enter Tryz.func41, Tryz.ntmps41
  go_wp2_with fail
  refine wp_region_txt [] (by kernel_rfl) (by kernel_rfl) ?_
  repeat (first | (refine wpTxt_pure rfl rfl (fun K hK => ?_); go_simp; refine hK _ ?_; clear hK K) | (refine wpTxt_still rfl rfl (fun K hK => ?_); go_simp; refine hK _ ?_; clear hK K))
  (refine wpTxt_effect rfl rfl (fun K hK => ?_); go_simp)
  refine Hcall.out.mono ?_
  rintro e w1 ⟨⟨rfl, h2, O', h3, h4⟩, h5⟩
  have H2 := Lib.hid h2.undrew
  have H3 : Hid (Grow O w O') := Lib.hid h3
  have H4 := Lib.hid h4
  have H5 := Lib.hid h5
  clear h2 h3 h4 h5
  (refine hK _ _ ?_; clear hK K)
  repeat (first | (refine wpTxt_pure rfl rfl (fun K hK => ?_); go_simp; refine hK _ ?_; clear hK K) | (refine wpTxt_still rfl rfl (fun K hK => ?_); go_simp; refine hK _ ?_; clear hK K))
  refine wpTxt_nil ?_
  go_wp2_with fail
  go_ret2
  exact ⟨⟨rfl, H2.out, O', H3.out, H4.out⟩, H5.out⟩
end XF
end Go.Proofs.YtmcjpnijldhelaaGreatDoor
