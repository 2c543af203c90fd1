/- Part 19 of the proof: the texts ON, MK, OP, OQ, OR, joined. What each proves stands ahead of it. -/
import Derived.Test.YtflgbndhahcdnaaGreatDoorKR
import Derived.Test.YtflgbndhahcdnaaGreatDoorKC
import Derived.Deep.OwnRows
import Derived.Test.YtflgbndhahcdnaaGreatDoorKG
import Derived.Test.YtflgbndhahcdnaaGreatDoorKF
import Derived.Defers
import Derived.Recover
import Derived.Deep.RegionHeld3
set_option linter.unusedVariables false
set_option linter.unusedSimpArgs false
/- The decoder of bools from runs: its data. -/
namespace Go.Proofs.YtflgbndhahcdnaaGreatDoor
open Go Go.RowKit
/-- A reader of runs over new blocks. -/
theorem rd_begin (b bo L C rb B : Nat) (ee eu : Addr) (W R : Nat) (D : Nat → Nat) (w1 w2 : World) (hD : Data w2 b bo L D) (hE : Eofs w2 ee eu) (hr : Rdr w2 rb 0 b bo L C 0 (-1)) (hLC : L ≤ C) (hC : C ≤ 9223372036854775807) (hLb : L ≤ 1000000000000000000)
    (hg : 5 < rb) (hbr : b < rb) (hrB : rb < B) (hBR : B < R) (h : RD0 W R B rb w2) :
    RD ⟨B, rb, 0, b, bo, L, C, ee, eu, D⟩ W R 0 0 0 0 0 w2 :=
  ⟨⟨⟨⟨_, _, hr⟩, hD, hE, hLC, hC, hLb, Nat.ne_of_lt (Nat.lt_trans hbr hrB), Nat.ne_of_lt hrB, Nat.ne_of_lt hbr, Nat.lt_trans hg hrB, hg⟩, by omega, ⟨_, _, h.br, fun h => by omega⟩⟩, h.p, h.wi, h.cu, h.re, h.li, h.fr, Nat.ne_of_gt hBR, Nat.ne_of_gt (Nat.lt_trans hrB hBR), Nat.ne_of_gt (Nat.lt_trans hbr (Nat.lt_trans hrB hBR)), Nat.lt_trans hg (Nat.lt_trans hrB hBR)⟩
set_option maxRecDepth 100000 in
set_option maxHeartbeats 1000000 in
theorem rqSet_ok (d b N L c : Nat) (ee eu : Addr) (D : Nat → Nat) (vs : List Nat) (w : World) (h : D0 w d) (h3 : w.cell? ⟨d, 3, none⟩ = some (.pointer none)) (hE : Eofs w ee eu) (hD : Data w b 0 (4 + L) D) (hle : leV D 0 4 = L) (hLc : 4 + L ≤ c) (hc : c ≤ 9223372036854775807) (hL1 : 1 ≤ L) (hL : L ≤ 1000000) (hr : Runs (fun j => D (4 + j)) L 1 0 vs) (hN : N ≤ vs.length) (hNb : N ≤ 1000000) (hdb : d ≠ b) (hgd : 5 < d) (hbl : b < w.heap.size) :
    Calls Tryz.prog 13 #[.pointer (some ⟨d, 0, none⟩), .int .i64 N, .slice (some ⟨b, 0, none⟩) (4 + L) c] w fun e w' => e = .returned .nilIface ∧ Chg (Own d) w w' ∧ ∃ q R, RQ w' d N q R vs ∧ q.b = b ∧ w.heap.size ≤ q.B ∧ w.heap.size ≤ q.rb ∧ w.heap.size ≤ R ∧ q.B < w'.heap.size ∧ q.rb < w'.heap.size ∧ R < w'.heap.size := by
  have hdl : d < w.heap.size := World.block_lt_of_cell? _ _ h.c0
  have c0 := h.c0
  have c1 := h.c1
  have f0 := h.fr 0 (by omega)
  have f1 := h.fr 1 (by omega)
  have f3 := h.fr 3 (by omega)
  have H := Lib.hid h
  have HE := Lib.hid hE
  have HD := Lib.hid hD
  have Hle := Lib.hid hle
  have Hr := Lib.hid hr
  have hle4 := hD.bytes
  have Hcall := Lib.hid (fun W (hW : Bytes W b 0 4 D) => le32_any b 0 4 c D hD.lt W (by decide) hW)
  have HB4 := Lib.hid (fun W (hc : Chg (Own d) w W) => (show Bytes W b 0 4 D from fun j hj => hc.keep (hle4 j (by omega)) (fun h => hdb h.symm)))
  have hlen : ¬ ((4 + L : Nat) : Int) < 4 := by omega
  have h4c : (4 : Int) ≤ c := by omega
  have h4L : ((4 + L : Nat) : Int) - 4 = L := by omega
  have hLu : IntKind.u64.wrap (L : Int) = L := IntWalk.u64_in _ (by omega)
  have hLi : IntKind.i64.wrap (L : Int) = L := IntWalk.i64_in _ (by omega)
  have hLL : ¬ (L : Int) > L := by omega
  have h4Lc : (4 : Int) + L ≤ c := by omega
  have hc4 : ¬ c = 4 := by omega
  have hcw := Lib.hid hc
  clear h hE hD hle hr hle4 hc
  go_enter Tryz.func13, Tryz.ntmps13
  go_wp2_with fail
  have hcA : Chg (Own d) w (w.setCell ⟨d, 0, none⟩ (.int .i64 N)).drew := ((Chg.refl (Own d) w).own 0 (.int .i64 N)).drew
  (refine wp_region_txt [] (by kernel_rfl) (by kernel_rfl) ?_; repeat (first | (refine wpTxt_pure rfl rfl (fun K hK => ?_); go_simp; refine hK _ ?_; clear hK K) | (refine wpTxt_still rfl rfl (fun K hK => ?_); go_simp; refine hK _ ?_; clear hK K)))
  refine wpTxt_effect rfl rfl (fun K hK => ?_); go_simp
  refine (Hcall.out _ (HB4.out _ hcA)).mono ?_
  rintro e w2 ⟨rfl, h2⟩
  rw [Hle.out]
  have hc2 : Chg (Own d) w w2 := hcA.trans (h2.mono (fun _ _ _ h => h.elim))
  have g0 := h2.keep (show (w.setCell ⟨d, 0, none⟩ (.int .i64 N)).drew.cell? ⟨d, 0, none⟩ = _ from World.cell?_setCell_same w ⟨d, 0, none⟩ _ c0) (fun h => h)
  have g1 := h2.keep (show (w.setCell ⟨d, 0, none⟩ (.int .i64 N)).drew.cell? ⟨d, 1, none⟩ = some (.slice none 0 0) from by show (World.setCell _ _ _).cell? _ = _; go_cell) (fun h => h)
  have g3 := h2.keep (show (w.setCell ⟨d, 0, none⟩ (.int .i64 N)).drew.cell? ⟨d, 3, none⟩ = some (.pointer none) from by show (World.setCell _ _ _).cell? _ = _; go_cell) (fun h => h)
  have q0 := (hc2.frozen d 0 hdl).trans f0
  have q1 := (hc2.frozen d 1 hdl).trans f1
  have q3 := (hc2.frozen d 3 hdl).trans f3
  have Hc2 := Lib.hid hc2
  have Hqs := Lib.hid (fun j hj => (hc2.frozen d j hdl).trans (H.out.fr j hj))
  clear c0 c1 f0 f1 f3 h3 hcA hc2 h2
  (refine hK _ _ ?_; clear hK K)
  repeat (first | (refine wpTxt_pure rfl rfl (fun K hK => ?_); go_simp; refine hK _ ?_; clear hK K) | (refine wpTxt_still rfl rfl (fun K hK => ?_); go_simp; refine hK _ ?_; clear hK K))
  refine wpTxt_nil ?_
  go_wp2_with fail
  obtain ⟨w3, hw3⟩ : ∃ w3, w3 = w2.setCell ⟨d, 1, none⟩ (.slice (some ⟨b, 4, none⟩) L (c - 4)) := ⟨_, rfl⟩
  have hc3 : Chg (Own d) w w3 := by rw [hw3]; exact Hc2.out.own 1 _
  have r0 : w3.cell? ⟨d, 0, none⟩ = some (.int .i64 N) := by rw [hw3]; go_cell
  have r3 : w3.cell? ⟨d, 3, none⟩ = some (.pointer none) := by rw [hw3]; go_cell
  have rf : ∀ j, j < 4 → w3.frozen? ⟨d, j, none⟩ = false := fun j hj => by rw [hw3, World.frozen?_setCell]; exact Hqs.out j hj
  rw [← hw3]
  have Hc3 := Lib.hid hc3
  have Hr0 := Lib.hid r0
  have Hr3 := Lib.hid r3
  have Hrf := Lib.hid rf
  clear hw3 g0 g1 g3 q0 q1 q3 hc3 r0 r3 rf
  refine (newReader_any _ _ _ _).mono ?_
  rintro e w4 ⟨rfl, rfl⟩
  have hn := newRle_ok w3.heap.size 1 (w3.alloc (.cells #[.slice (some ⟨b, 4, none⟩) L (c - 4), .int .i64 0, .int .i64 (-1)] 93))
  rw [show ((1 : Nat) : Int) = 1 from rfl] at hn
  have Hn := Lib.hid hn
  clear hn
  go_wp2_with fail
  refine Hn.out.mono ?_
  rintro e w5 ⟨R, rfl, hR1, hR2, hC5, hR0⟩
  have hs4 : (w3.alloc (.cells #[.slice (some ⟨b, 4, none⟩) L (c - 4), .int .i64 0, .int .i64 (-1)] 93)).heap.size = w3.heap.size + 1 := by simp
  rw [hs4] at hR1 hR0
  have hsz := Hc3.out.size
  have hr4 : Rdr (w3.alloc (.cells #[.slice (some ⟨b, 4, none⟩) L (c - 4), .int .i64 0, .int .i64 (-1)] 93)) w3.heap.size 0 b 4 L (c - 4) 0 (-1) :=
    ⟨fresh_cell rfl rfl, fresh_cell rfl rfl, fresh_cell rfl rfl, fun j hj => fresh_frozen rfl⟩
  have h35 : Chg Nix w3 w5 := (Chg.new w3 _).trans hC5
  have k0 := h35.keep Hr0.out (fun h => h)
  have k3 := h35.keep Hr3.out (fun h => h)
  have q3 := (h35.frozen d 3 (World.block_lt_of_cell? _ _ Hr0.out)).trans (Hrf.out 3 (by omega))
  have hw5 : Chg (Own d) w w5 := Hc3.out.trans (h35.mono (fun _ _ _ h => h.elim))
  have hD5 : Data w5 b 4 L (fun j => D (4 + j)) := by
    refine ⟨fun j hj => ?_, fun j => HD.out.lt _, fun j hj => HD.out.z _ (by omega)⟩
    have := HD.out.bytes (4 + j) (by omega)
    rw [Nat.zero_add] at this
    exact hw5.keep this (fun h => hdb h.symm)
  have hE5 : Eofs w5 ee eu := HE.out.keep hw5 (fun h => by have : _ = d := h; omega) (fun h => by have : _ = d := h; omega)
  have hRD := rd_begin b 4 L (c - 4) w3.heap.size (w3.heap.size + 1) ee eu 1 R (fun j => D (4 + j)) w3 w5 hD5 hE5 (hr4.keep hC5 (fun _ _ h => h)) (by omega) (by have := hcw.out; omega) (by omega) (by omega) (by omega) (by omega) hR1 hR0
  have HRD := Lib.hid hRD
  have Hw5 := Lib.hid hw5
  have HR := Lib.hid (And.intro hR1 (And.intro hR2 (And.intro hsz hC5.size)))
  have H35 := Lib.hid h35
  clear hR1 hR2 hC5 hR0 hs4 hr4 h35 hw5 hD5 hE5 hRD hsz
  go_wp2_with fail
  go_ret
  have hcs : Chg (Own d) w5 (w5.setCell ⟨d, 3, none⟩ (.pointer (some ⟨R, 0, none⟩))) := (Chg.refl (Own d) w5).own 3 _
  obtain ⟨hR1, hR2, hsz, hs5⟩ := HR.out
  have hs5' : w3.heap.size + 1 ≤ w5.heap.size := by simpa using hs5
  refine ⟨rfl, Hw5.out.trans hcs, _, R, ⟨?_, World.cell?_setCell_same _ _ _ k3, fun j hj => ?_, ⟨0, 0, 0, 0, 0, HRD.out.keep hcs ?_, .idle _ _ _ _ Hr.out⟩, hN, hdb, ?_, ?_, ?_, hgd⟩, rfl, ?_, ?_, ?_, ?_, ?_, ?_⟩
  · rw [World.cell?_setCell_other _ _ _ _ (by intro e; injection e with _ e2; cases e2)]; exact k0
  · rw [World.frozen?_setCell]; exact (H35.out.frozen d j (World.block_lt_of_cell? _ _ Hr0.out)).trans (Hrf.out j hj)
  · rintro k x hk
    have hk' : k = d := hk
    subst hk'
    exact ⟨hdb, by show k ≠ w3.heap.size; omega, by show k ≠ w3.heap.size + 1; omega, by omega, hgd⟩
  · show d ≠ w3.heap.size; omega
  · show d ≠ w3.heap.size + 1; omega
  · omega
  · show _ ≤ w3.heap.size + 1; omega
  · show _ ≤ w3.heap.size; omega
  · omega
  · show w3.heap.size + 1 < _; simp; omega
  · show w3.heap.size < _; simp; omega
  · simp; omega
end Go.Proofs.YtflgbndhahcdnaaGreatDoor
/- Made rows. -/
namespace Go.Proofs.YtflgbndhahcdnaaGreatDoor
open Go Go.RowKit
theorem made_at (z : Value) (n j : Nat) (h : j < n) : (madeCells #[z] n)[j]? = some z := by
  simp [madeCells, h, Nat.mod_one]
theorem made_cell (w : World) (z : Value) (n j : Nat) (t : TypeId) (h : j < n) : (w.alloc (.cells (madeCells #[z] n) t)).cell? ⟨w.heap.size, j, none⟩ = some z := by
  rw [World.cell?_alloc_new]; exact made_at z n j h
theorem make_bytes (n : Nat) (h2 : n ≤ 1000000) : ∀ W : World, (Instr.makeSlice 26 (.int .i64 (n : Int)) (.int .i64 (n : Int))).run Tryz.prog W = .ok (.slice (some ⟨W.heap.size, 0, none⟩) n n) (W.alloc (.cells (madeCells #[.int .u8 0] n) 5)) :=
  fun W => run_make_row' (P := Tryz.prog) 26 5 (.int .u8 0) 1 (by kernel_rfl) (by kernel_rfl) rfl .i64 .i64 n (by omega) (by omega) W
end Go.Proofs.YtflgbndhahcdnaaGreatDoor
/- impl.BoolsRead's inner function: a batch by way of a bitmap. -/
namespace Go.Proofs.YtflgbndhahcdnaaGreatDoor
open Go Go.RowKit
theorem bmpNew (w : World) (m : Nat) (t : TypeId) : Bmp (w.alloc (.cells (madeCells #[.int .u8 0] m) t)) w.heap.size 0 m (fun _ => false) :=
  ⟨fun j hj => ⟨0, by rw [Nat.zero_add]; exact made_cell w _ m j t hj, by decide, fun t _ => Nat.zero_testBit t⟩, fun j hj => fresh_frozen rfl⟩
set_option maxRecDepth 100000 in
set_option maxHeartbeats 1000000 in
theorem bitRead_ok (d b X ob p N L n : Nat) (β : Nat → Bool) (w : World) (h : PB w d b p N L β) (hX : w.cell? ⟨X, 0, none⟩ = some (.pointer (some ⟨d, 0, none⟩))) (hXd : X ≠ d) (hXo : X ≠ ob) (hT : Tabs w) (hn : n ≤ N) (hm : n ≤ 1000000) (hbo : b ≠ ob) (hdo : d ≠ ob) (hgd : 5 < d) (hgo : 5 < ob) (hbl : b < w.heap.size) (hol : ob < w.heap.size) (hgw : 5 < w.heap.size)
    (hoc : ∀ j, j < n → ∃ u, w.cell? ⟨ob, j, none⟩ = some u) (hof : ∀ j, j < n → w.frozen? ⟨ob, j, none⟩ = false) :
    Calls Tryz.prog 22 #[.slice (some ⟨ob, 0, none⟩) n n, .pointer (some ⟨X, 0, none⟩)] w fun e w' => e = .returned (.tuple #[.int .i64 n, .nilIface]) ∧ Chg (DecS d ob n) w w' ∧ (∀ j, j < n → w'.cell? ⟨ob, j, none⟩ = some (.bool (β (p + j)))) ∧ PB w' d b (p + n) (N - n) L β := by
  obtain ⟨nb, hnb⟩ : ∃ nb, nb = (n + 7) / 8 := ⟨_, rfl⟩
  have hnb6 : nb ≤ 1000000 := by omega
  have hmk := make_bytes nb hnb6
  have e1 : ((n : Int) + 7) / 8 = nb := by omega
  obtain ⟨Y, hY⟩ : ∃ Y, Y = Obj.cells (madeCells #[.int .u8 0] nb) 5 := ⟨_, rfl⟩
  rw [← hY] at hmk
  have hB1 : Bmp (w.alloc Y) w.heap.size 0 nb (fun _ => false) := by rw [hY]; exact bmpNew w nb _
  have hX1 := cell_alloc Y hX
  have hcall := pbToBitmap_ok d b w.heap.size p N L n nb nb β (fun _ => false) (w.alloc Y) (h.keep (Chg.new w Y) (fun _ h => h) (fun _ _ h => h)) (hT.keep (Chg.new w Y) (fun _ _ h => h.elim)) hB1 hnb (Nat.le_refl _) (by omega) hn hm (Nat.ne_of_lt hbl) (Nat.ne_of_lt h.lt) hgw (by simp; omega)
  have Hcall := Lib.hid hcall
  have H := Lib.hid h
  have HT := Lib.hid hT
  have Hnb := Lib.hid hnb
  have Hoc := Lib.hid hoc
  have Hof := Lib.hid hof
  clear h hX hT hB1 hcall hnb hoc hof hY
  go_enter Tryz.func22, Tryz.ntmps22
  go_wp2_with fail
  refine Hcall.out.mono ?_
  rintro e w2 ⟨rfl, h2, hD, hP⟩
  obtain ⟨γ, hBm, hγ⟩ := hD
  obtain ⟨bm, hbm⟩ : ∃ bm, bm = w.heap.size := ⟨_, rfl⟩
  rw [← hbm] at hBm h2 ⊢
  have hc2 : Chg (DecS d ob n) w w2 := h2.unalloc (by
    rintro a x ha (hh | hh)
    · exact .inl hh
    · have := hh.1; omega)
  have hT2 : Tabs w2 := HT.out.keep hc2 (by
    rintro a x (hh | ⟨hh, -⟩)
    · rw [hh]; exact hgd
    · rw [hh]; exact hgo)
  have hob2 : ∀ j, j < n → (∃ u, w2.cell? ⟨ob, j, none⟩ = some u) ∧ w2.frozen? ⟨ob, j, none⟩ = false := by
    intro j hj
    obtain ⟨u, hu⟩ := Hoc.out j hj
    have hc3 : Chg (fun a _ => a = d) w w2 := h2.unalloc (by
      rintro a x ha (hh | hh)
      · exact hh
      · have := hh.1; omega)
    exact ⟨⟨u, hc3.keep hu (fun h => hdo h.symm)⟩, (hc3.frozen _ _ hol).trans (Hof.out j hj)⟩
  have Hc2 := Lib.hid hc2
  have HT2 := Lib.hid hT2
  have HBm := Lib.hid hBm
  have Hγ := Lib.hid hγ
  have HP := Lib.hid hP
  have Hob2 := Lib.hid hob2
  have Hbm := Lib.hid hbm
  clear h2 hBm hγ hP hc2 hT2 hob2 hbm hX1 hmk
  go_wp2_with fail
  go_loopw [23] (fun v wx => ∃ t, v = .int .i64 (t : Nat) ∧ t ≤ n ∧ Chg (fun a x => a = ob ∧ x < t) w2 wx ∧ ∀ j, j < t → wx.cell? ⟨ob, j, none⟩ = some (.bool (β (p + j)))) (fun v _ => n - (intOf v).toNat)
  case atStart => exact ⟨0, rfl, Nat.zero_le _, Chg.refl _ _, fun j hj => by omega⟩
  case round =>
    obtain ⟨t, rfl, ht, hcw, hout⟩ := hrel
    by_cases htn : t < n
    · obtain ⟨⟨u, hu⟩, hfu⟩ := Hob2.out t htn
      have hbmo : bm ≠ ob := by have := Hbm.out; omega
      have hb := Lib.hid (bitIsSet_ok bm 0 nb nb t γ wr (HT2.out.keep hcw (by rintro a x ⟨hh, -⟩; rw [hh]; exact hgo)) (HBm.out.keep hcw (fun j hj h => hbmo h.1)) (by have := Hnb.out; omega) (by omega) (Nat.le_refl _))
      have hu2 := hcw.keep hu (fun h => by omega)
      have hf2 := (hcw.frozen ob t (World.block_lt_of_cell? _ _ hu)).trans hfu
      have htn' : (t : Int) < n := by omega
      have Hcw := Lib.hid hcw
      have Hout := Lib.hid hout
      clear hcw hout hu hfu
      go_wp2_with fail
      refine hb.out.mono ?_
      rintro e w3 ⟨rfl, h3⟩
      rw [Hγ.out t htn]
      have hu3 := h3.keep hu2 (fun h => h)
      have hf3 := (h3.frozen ob t (World.block_lt_of_cell? _ _ hu2)).trans hf2
      have H3 := Lib.hid h3
      obtain ⟨B, hB⟩ : ∃ B, B = β (p + t) := ⟨_, rfl⟩
      rw [← hB]
      have HB := Lib.hid hB
      clear h3 hu2 hf2 hB
      go_wp2_with fail
      refine ⟨⟨t + 1, by go_num, htn, ((Hcw.out.mono (fun a x _ h => ⟨h.1, by omega⟩)).trans (H3.out.mono (fun _ _ _ h => h.elim))).setCell ob t (fun _ => ⟨rfl, by omega⟩) _, fun j hj => ?_⟩, by simp [intOf]; omega⟩
      by_cases hjt : j = t
      · subst hjt
        rw [← HB.out]
        exact World.cell?_setCell_same w3 ⟨ob, j, none⟩ _ hu3
      · rw [World.cell?_setCell_other _ _ _ _ (by intro e; injection e with _ e2; exact hjt e2.symm)]
        exact H3.out.keep (Hout.out j (by omega)) (fun h => h)
    · obtain rfl : t = n := by omega
      have Hcw := Lib.hid hcw
      have Hout := Lib.hid hout
      clear hcw hout
      go_wp2_with fail
      go_ret2
      exact ⟨rfl, Hc2.out.trans (Hcw.out.mono (fun _ _ _ h => .inr h)), Hout.out, HP.out.keep Hcw.out (fun x h => hdo h.1) (fun j hj h => hbo h.1)⟩
end Go.Proofs.YtflgbndhahcdnaaGreatDoor
/- impl.copied; the decoders as impl.decoded takes them. -/
namespace Go.Proofs.YtflgbndhahcdnaaGreatDoor
open Go Go.RowKit Go.Proofs.YtflgbndhahcdnaaGreatDoor.PFnBoolsRead Go.Proofs.YtflgbndhahcdnaaGreatDoorW.PrintWords Go.Proofs.YtflgbndhahcdnaaGreatDoorW.PrintMore
/-- A row of bytes of its own, not marked. -/
def OwnBytes (w : World) (g : Nat) (bs : List Nat) : Prop := (∀ j (hj : j < bs.length), w.cell? ⟨g, j, none⟩ = some (.int .u8 (bs[j] : Nat))) ∧ ∀ j, w.frozen? ⟨g, j, none⟩ = false
theorem R_bytes {e : Nat} {w : World} {base : Nat} {ok : Nat → Prop} {v : Value} {bs : List Nat} (h : Kd.R (Kd.int .u8) e w base ok v (ints bs)) (hne : bs ≠ []) : ∃ g c, v = .slice (some ⟨g, 0, none⟩) bs.length c ∧ bs.length ≤ c ∧ c ≤ 9223372036854775807 ∧ base ≤ g ∧ g < w.heap.size ∧ OwnBytes w g bs := by
  have hl : (ints bs).length = bs.length := ints_len bs
  have h0 : 0 < bs.length := List.length_pos_iff.2 hne
  obtain ⟨A, c, rfl, hc, hK⟩ := Kd.R_reads h
  obtain ⟨inner, ho⟩ := Kd.R_own h
  rcases ho.2 with ⟨hv, -⟩ | ⟨g, cap, cur, hv, hb, hg, -, hm, -⟩
  · injection hv with h1 h2 h3
    omega
  · injection hv with h1 h2 h3
    subst h3
    obtain ⟨g', o', e, hc0⟩ := C_addr hK 0 (by omega)
    rw [h1] at e
    injection e with e
    injection e with e1 e2
    subst e1; subst e2
    refine ⟨g, c, by rw [h1, hl], by omega, by unfold maxLen at hm; omega, hb, World.block_lt_of_cell? _ _ hc0, fun j hj => ?_, fun j => ?_⟩
    · obtain ⟨g', o', e, hcj⟩ := C_addr hK j (by omega)
      rw [h1] at e
      injection e with e
      injection e with e1 e2
      subst e1; subst e2
      rw [Nat.zero_add] at hcj
      rw [hcj]
      unfold ints
      rw [List.getElem_map]
    · unfold World.frozen?
      rw [hg]
      simp
theorem copied_ok (A0 : Option Addr) (c0 : Nat) (bs : List Nat) (w : World) (hK : Kd.C (Kd.int .u8) w A0 (ints bs).length (ints bs)) (hc0 : (ints bs).length ≤ c0) (hne : bs ≠ []) (hbl : bs.length ≤ 1000000) :
    Calls Tryz.prog 14 #[.slice A0 (ints bs).length c0] w fun e w' => ∃ g c, e = .returned (.slice (some ⟨g, 0, none⟩) bs.length c) ∧ bs.length ≤ c ∧ c ≤ 9223372036854775807 ∧ w.heap.size ≤ g ∧ g < w'.heap.size ∧ OwnBytes w' g bs ∧ Chg Nix w w' := by
  have hf : impl_copied.f (ints bs) = some (ints bs) := by
    unfold impl_copied.f
    show (if ([] : List Int).length + (ints bs).length < 140737488355328 then _ else _) = _
    rw [if_pos (by rw [ints_len]; simp; omega)]; rfl
  refine Calls.mono (impl_copied.calls A0 c0 (ints bs) (ints bs) w hK hc0 hf) ?_
  rintro e w' ⟨v, rfl, hR, hB⟩
  obtain ⟨g, c, rfl, h1, h2, h3, h4, h5⟩ := R_bytes hR hne
  exact ⟨g, c, rfl, h1, h2, h3, h4, h5, Chg.ofBelow hB⟩
theorem OwnBytes.keep {w w' : World} {g : Nat} {bs : List Nat} (h : OwnBytes w g bs) (hg : g < w.heap.size) {S : Nat → Nat → Prop} (hc : Chg S w w') (hS : ∀ x, ¬ S g x) : OwnBytes w' g bs :=
  ⟨fun j hj => hc.keep (h.1 j hj) (hS j), fun j => (hc.frozen _ _ hg).trans (h.2 j)⟩
theorem OwnBytes.bmp {w : World} {g : Nat} {bs : List Nat} (h : OwnBytes w g bs) (hb : ∀ x ∈ bs, x < 256) : Bmp w g 0 bs.length (fun i => (bs.getD (i / 8) 0).testBit (i % 8)) := by
  refine ⟨fun j hj => ⟨bs[j], by rw [Nat.zero_add]; exact h.1 j hj, hb _ (List.getElem_mem hj), fun t ht => ?_⟩, fun j hj => h.2 _⟩
  show _ = (bs.getD ((8 * j + t) / 8) 0).testBit ((8 * j + t) % 8)
  rw [show (8 * j + t) / 8 = j by omega, show (8 * j + t) % 8 = t by omega, List.getD_eq_getElem?_getD, List.getElem?_eq_getElem hj]; rfl
theorem OwnBytes.data {w : World} {g : Nat} {bs : List Nat} (h : OwnBytes w g bs) (hb : ∀ x ∈ bs, x < 256) : Data w g 0 bs.length (fun j => bs.getD j 0) := by
  refine ⟨fun j hj => ?_, fun j => getD_lt hb j, fun j hj => ?_⟩
  · rw [Nat.zero_add, h.1 j hj, List.getD_eq_getElem?_getD, List.getElem?_eq_getElem hj]; rfl
  · show bs.getD j 0 = 0
    rw [List.getD_eq_getElem?_getD, List.getElem?_eq_none (by omega)]; rfl
theorem noBools_idle (p q : Addr) (w : World) :
    CallsD Tryz.prog 11 #[.pointer (some p), .pointer (some q)] .returning w fun e u' w' => e = .returned (.tuple #[]) ∧ u' = .returning ∧ w' = w := by
  refine callsD_of_wpS Tryz.func11 rfl fun c₀ cs hu => ?_
  apply wpS_seq
  apply wpS_region
  simp [wpOpsS, go_sem, recoverD, hu, Tryz.ntmps11, Exit.thenS]
  refine wpS_cond (t := false) (by simp [Act.eval, Array.replicate]) ?_
  simp only [Bool.false_eq_true, if_false]
  refine wpS_of_wp (wp_skip ?_)
  cases c₀
  simp_all [bodyPostS, results, Tryz.results11]
/-- A plain decoder, as impl.decoded takes it. -/
def StP (B0 d b X L : Nat) (β : Nat → Bool) (N : Nat) (wx0 : World) (p : Nat) (wx : World) : Prop := p ≤ N ∧ PB wx d b p (N - p) L β ∧ Tabs wx ∧ wx.cell? ⟨X, 0, none⟩ = some (.pointer (some ⟨d, 0, none⟩)) ∧ wx0.heap.size ≤ wx.heap.size ∧ B0 = wx0.heap.size
theorem decP (d b X L N : Nat) (β : Nat → Bool) (vs : List Bool) (w : World) (hv : vs.length = N) (hbl : b < w.heap.size) (hdl : d < w.heap.size) (hXl : X < w.heap.size) (hgw : 5 < w.heap.size) (hgd : 5 < d) (hXd : X ≠ d) (hdb : d ≠ b) :
    DecB (fun a => a = d) w.heap.size vs (StP w.heap.size d b X L β N w) 21 d := by
  refine ⟨fun a h => by omega, fun p w1 w2 S h hc hS => ?_, fun p w1 n h hn => ?_⟩
  · obtain ⟨h1, h2, h3, h4, h5, h6⟩ := h
    exact ⟨h1, h2.keep hc (fun x hh => by have := hS _ _ hh; omega) (fun j hj hh => by have := hS _ _ hh; omega), h3.keep hc (fun k x hh => by have := hS _ _ hh; omega), hc.keep h4 (fun hh => by have := hS _ _ hh; omega), Nat.le_trans h5 hc.size, h6⟩
  · obtain ⟨h1, h2, h3, h4, h5, h6⟩ := h
    refine Calls.mono (pbDiscard_ok d b p (N - p) L n β w1 h2 (by omega)) ?_
    rintro e w2 ⟨rfl, hc, hp⟩
    refine ⟨rfl, hc, by omega, by rw [show N - (p + n) = N - p - n by omega]; exact hp, h3.keep hc (fun k x hh => by have : k = d := hh; omega), hc.keep h4 (fun hh => hXd hh), Nat.le_trans h5 hc.size, h6⟩
theorem readP (d b X L N : Nat) (β : Nat → Bool) (vs : List Bool) (w : World) (hv : vs.length = N) (hβ : ∀ j, j < N → β j = vs.getD j false) (hbl : b < w.heap.size) (hdl : d < w.heap.size) (hgw : 5 < w.heap.size) (hgd : 5 < d) (hXl : X < w.heap.size) (hXd : X ≠ d) :
    ∀ p wx n ob, StP w.heap.size d b X L β N w p wx → p + n ≤ vs.length → n ≤ 1000000 → Fresh w.heap.size ob n wx → Calls Tryz.prog 20 #[.pointer (some ⟨d, 0, none⟩), .slice (some ⟨ob, 0, none⟩) n n] wx (RdEnd (fun a => a = d) vs (StP w.heap.size d b X L β N w) p n ob wx) := by
  rintro p wx n ob ⟨h1, h2, h3, h4, h5, h6⟩ hn hm ⟨f1, f2, f3, f4⟩
  refine Calls.mono (pbDecode_ok d b ob p (N - p) L n n β wx h2 (by omega) hm (by omega) (by omega) (Nat.le_refl _) (by omega) f2 (fun j hj => ⟨_, f3 j hj⟩) f4) ?_
  rintro e w2 ⟨rfl, hc, ho, hp⟩
  refine ⟨rfl, hc, fun j hj => by rw [ho j hj, hβ _ (by omega)], by omega, by rw [show N - (p + n) = N - p - n by omega]; exact hp, h3.keep hc (by rintro k x (hh | ⟨hh, -⟩) <;> omega), hc.keep h4 (by rintro (hh | ⟨hh, -⟩); exact hXd hh; omega), Nat.le_trans h5 hc.size, h6⟩
theorem readBm (d b X L N : Nat) (β : Nat → Bool) (vs : List Bool) (w : World) (hv : vs.length = N) (hβ : ∀ j, j < N → β j = vs.getD j false) (hbl : b < w.heap.size) (hdl : d < w.heap.size) (hgw : 5 < w.heap.size) (hgd : 5 < d) (hXl : X < w.heap.size) (hXd : X ≠ d) :
    ∀ p wx n ob, StP w.heap.size d b X L β N w p wx → p + n ≤ vs.length → n ≤ 1000000 → Fresh w.heap.size ob n wx → Calls Tryz.prog 22 #[.slice (some ⟨ob, 0, none⟩) n n, .pointer (some ⟨X, 0, none⟩)] wx (RdEnd (fun a => a = d) vs (StP w.heap.size d b X L β N w) p n ob wx) := by
  rintro p wx n ob ⟨h1, h2, h3, h4, h5, h6⟩ hn hm ⟨f1, f2, f3, f4⟩
  refine Calls.mono (bitRead_ok d b X ob p (N - p) L n β wx h2 h4 hXd (by omega) h3 (by omega) hm (by omega) (by omega) hgd (by omega) (by omega) f2 (by omega) (fun j hj => ⟨_, f3 j hj⟩) f4) ?_
  rintro e w2 ⟨rfl, hc, ho, hp⟩
  refine ⟨rfl, hc, fun j hj => by rw [ho j hj, hβ _ (by omega)], by omega, by rw [show N - (p + n) = N - p - n by omega]; exact hp, h3.keep hc (by rintro k x (hh | ⟨hh, -⟩) <;> omega), hc.keep h4 (by rintro (hh | ⟨hh, -⟩); exact hXd hh; omega), Nat.le_trans h5 hc.size, h6⟩
/-- A decoder from runs, as impl.decoded takes it. -/
def StR (d : Nat) (q : RC) (R : Nat) (us : List Nat) (N : Nat) (wx0 : World) (p : Nat) (wx : World) : Prop := p ≤ N ∧ RQ wx d (N - p) q R (us.drop p) ∧ wx0.heap.size ≤ wx.heap.size
theorem decR (d N : Nat) (q : RC) (R : Nat) (us : List Nat) (vs : List Bool) (w : World) (hv : vs.length = N) (hN : N ≤ 1000) (hbl : q.b < w.heap.size) (hB : q.B < w.heap.size) (hrb : q.rb < w.heap.size) (hR : R < w.heap.size) (hdl : d < w.heap.size) (hgw : 5 < w.heap.size) :
    DecB (OwnQ d q R) w.heap.size vs (StR d q R us N w) 17 d := by
  refine ⟨fun a h => by rcases h with h | h | h | h <;> omega, fun p w1 w2 S h hc hS => ?_, fun p w1 n h hn => ?_⟩
  · obtain ⟨h1, h2, h3⟩ := h
    exact ⟨h1, h2.keep hc (fun k x hh => by have := hS _ _ hh; exact ⟨by omega, by omega, by omega, by omega, by omega, by omega⟩), Nat.le_trans h3 hc.size⟩
  · obtain ⟨h1, h2, h3⟩ := h
    refine Calls.mono (rqDiscard_ok d (N - p) n q R (us.drop p) w1 h2 (by omega) (by omega)) ?_
    rintro e w2 ⟨rfl, hc, hp⟩
    rw [List.drop_drop] at hp
    exact ⟨rfl, hc, by omega, by rw [show N - (p + n) = N - p - n by omega]; exact hp, Nat.le_trans h3 hc.size⟩
theorem readR (d N : Nat) (q : RC) (R : Nat) (us : List Nat) (vs : List Bool) (w : World) (hv : vs.length = N) (hN : N ≤ 1000) (hβ : ∀ j, j < N → (us.getD j 0 != 0) = vs.getD j false) (hbl : q.b < w.heap.size) (hB : q.B < w.heap.size) (hrb : q.rb < w.heap.size) (hR : R < w.heap.size) (hdl : d < w.heap.size) (hgw : 5 < w.heap.size) :
    ∀ p wx n ob, StR d q R us N w p wx → p + n ≤ vs.length → n ≤ 1000000 → Fresh w.heap.size ob n wx → Calls Tryz.prog 16 #[.pointer (some ⟨d, 0, none⟩), .slice (some ⟨ob, 0, none⟩) n n] wx (RdEnd (OwnQ d q R) vs (StR d q R us N w) p n ob wx) := by
  rintro p wx n ob ⟨h1, h2, h3⟩ hn hm ⟨f1, f2, f3, f4⟩
  refine Calls.mono (rqDecode_ok d (N - p) n n ob q R (us.drop p) wx h2 (by omega) (by omega) (Nat.le_refl _) f2 (by rintro (h | h | h | h) <;> omega) (by omega) (by omega) (by omega) (fun j hj => ⟨_, f3 j hj⟩) f4) ?_
  rintro e w2 ⟨rfl, hc, ho, hp⟩
  rw [List.drop_drop] at hp
  refine ⟨rfl, hc, fun j hj => ?_, by omega, by rw [show N - (p + n) = N - p - n by omega]; exact hp, Nat.le_trans h3 hc.size⟩
  rw [ho j hj, ← hβ _ (by omega), List.getD_eq_getElem?_getD, List.getElem?_drop, ← List.getD_eq_getElem?_getD]
end Go.Proofs.YtflgbndhahcdnaaGreatDoor
/- impl.BoolsRead. -/
namespace Go.Proofs.YtflgbndhahcdnaaGreatDoor
open Go Go.RowKit Go.Proofs.YtflgbndhahcdnaaGreatDoor.PFnBoolsRead Go.Proofs.YtflgbndhahcdnaaGreatDoorW.PrintWords Go.Proofs.YtflgbndhahcdnaaGreatDoorW.PrintMore
/-- The ways of reading, and what the data must be. -/
def HowB (how : Nat) (bs : List Nat) (vs : List Bool) : Prop :=
  ((how = 0 ∨ how = 1) ∧ vs.length ≤ 8 * bs.length ∧ ∀ j, j < vs.length → (bs.getD (j / 8) 0).testBit (j % 8) = vs.getD j false) ∨
  (how = 2 ∧ ∃ L us, 1 ≤ L ∧ bs.length = 4 + L ∧ leV (fun j => bs.getD j 0) 0 4 = L ∧ Runs (fun j => bs.getD (4 + j) 0) L 1 0 us ∧ vs.length ≤ us.length ∧ ∀ j, j < vs.length → (us.getD j 0 != 0) = vs.getD j false)
/-- Behind the data of a plain decoder. -/
structure AfterP (bs : List Nat) (d N : Nat) (w3 wx : World) : Prop where
  ex : ∃ b, d ≠ b ∧ b < wx.heap.size ∧ w3.heap.size ≤ b ∧ PB wx d b 0 N bs.length (fun i => (bs.getD (i / 8) 0).testBit (i % 8))
  chg : Chg (fun a _ => a = d) w3 wx
/-- The results as they are laid, behind the reading. -/
theorem endB {w w1 w5 w6 : World} {v : Value} {xs : List Bool} {u1 u2 : Value} (hs : w1.heap.size = w.heap.size + 2) (hc1 : Chg Nix w w1) (h16 : Chg (fun a _ => w1.heap.size ≤ a) w1 w6) (h15 : w1.heap.size ≤ w5.heap.size) (ho : Own1 w6 w5.heap.size 4 v (bools xs)) (c1 : w6.cell? ⟨w.heap.size, 0, none⟩ = some u1) (c2 : w6.cell? ⟨w.heap.size + 1, 0, none⟩ = some u2) :
    ((w6.setCell ⟨w.heap.size, 0, none⟩ v).setCell ⟨w.heap.size + 1, 0, none⟩ (.bool true)).cell? ⟨w.heap.size, 0, none⟩ = some v ∧ ((w6.setCell ⟨w.heap.size, 0, none⟩ v).setCell ⟨w.heap.size + 1, 0, none⟩ (.bool true)).cell? ⟨w.heap.size + 1, 0, none⟩ = some (.bool true) ∧ Reads2 ((w6.setCell ⟨w.heap.size, 0, none⟩ v).setCell ⟨w.heap.size + 1, 0, none⟩ (.bool true)) v (bools xs) ∧ Chg Nix w ((w6.setCell ⟨w.heap.size, 0, none⟩ v).setCell ⟨w.heap.size + 1, 0, none⟩ (.bool true)) := by
  have hcz : Chg (fun a _ => a = w.heap.size ∨ a = w.heap.size + 1) w6 ((w6.setCell ⟨w.heap.size, 0, none⟩ v).setCell ⟨w.heap.size + 1, 0, none⟩ (.bool true)) := ((Chg.refl _ _).setCell _ _ (fun _ => .inl rfl) _).setCell _ _ (fun _ => .inr rfl) _
  refine ⟨cell_ne _ (World.cell?_setCell_same _ _ _ c1) (by rintro ⟨hh, -⟩; omega), World.cell?_setCell_same _ _ _ (cell_ne _ c2 (by rintro ⟨hh, -⟩; omega)), (ho.keep hcz (by rintro g hg x (hh | hh) <;> omega)).reads2, (hc1.comp h16 (fun _ _ _ h => h) (by intro a x ha hh; omega)).comp hcz (fun _ _ _ h => h) (by rintro a x ha (hh | hh) <;> omega)⟩
set_option maxRecDepth 100000 in
set_option maxHeartbeats 1000000 in
theorem boolsRead_ok (how bc c0 : Nat) (A0 bp : Option Addr) (ee eu : Addr) (bs : List Nat) (vs : List Bool) (ns : List Int) (w : World) (hE : Eofs w ee eu) (hT : Tabs w) (hg : 5 < w.heap.size) (hK : Kd.C (Kd.int .u8) w A0 (ints bs).length (ints bs)) (hc0 : (ints bs).length ≤ c0) (hb : ∀ x ∈ bs, x < 256) (hne : bs ≠ []) (hbl : bs.length ≤ 100000) (hvl : vs.length ≤ 1000) (hh : HowB how bs vs) (hns : Kd.C (Kd.int .i64) w bp ns.length ns) (hnc : ns.length ≤ 1000000) (hf : FitsN ns vs.length) :
    Calls Tryz.prog 4 #[.slice A0 (ints bs).length c0, .int .i64 vs.length, .int .i64 how, .slice bp ns.length bc] w fun e w' =>
      ∃ v, e = .returned (.tuple #[v, .bool true]) ∧ Reads2 w' v (bools (takesB ns vs)) ∧ Chg Nix w w' := by
  have he : ∀ f, (∃ fn c, Tryz.prog.funcs[f]? = some fn ∧ (fn.name == "runtime.NumGoroutine") = false ∧ fn.body = some c) → ∀ (args : Array Value) (w : World), (callFunc f args).run Tryz.prog w = .ok (.enter f args) w := fun f ⟨_, _, h1, h2, h3⟩ => enters_of h1 h2 h3
  have e20 := he 20 ⟨_, _, Tryz.func20, (by kernel_rfl), rfl⟩
  have e21 := he 21 ⟨_, _, Tryz.func21, (by kernel_rfl), rfl⟩
  have e22 := he 22 ⟨_, _, Tryz.func22, (by kernel_rfl), rfl⟩
  have e16 := he 16 ⟨_, _, Tryz.func16, (by kernel_rfl), rfl⟩
  have e17 := he 17 ⟨_, _, Tryz.func17, (by kernel_rfl), rfl⟩
  have E20 := Lib.hid e20
  have E21 := Lib.hid e21
  have E22 := Lib.hid e22
  have E16 := Lib.hid e16
  have E17 := Lib.hid e17
  clear he e20 e21 e22 e16 e17
  have hmf : ∀ (fn : Fn) (first cap : Array Value) (w : World), (Instr.makeFunc fn first cap).run Tryz.prog w = .ok (.func fn first cap) w := fun _ _ _ _ => rfl
  have hN : ∀ j (hj : j < ns.length), ∃ g o, bp = some ⟨g, o, none⟩ ∧ w.cell? ⟨g, o + j, none⟩ = some (.int .i64 ns[j]) := fun j hj => C_addr hns j hj
  obtain ⟨w1, hw1⟩ : ∃ w1, w1 = (w.alloc (.cells #[.slice none 0 0] 22)).alloc (.cells #[.bool false] 4) := ⟨_, rfl⟩
  have hc1 : Chg Nix w w1 := by rw [hw1]; exact ((Chg.refl _ _).alloc _).alloc _
  have a1 : w1.cell? ⟨w.heap.size, 0, none⟩ = some (.slice none 0 0) := by rw [hw1]; exact cell_alloc _ (fresh_cell rfl rfl)
  have a2 : w1.cell? ⟨w.heap.size + 1, 0, none⟩ = some (.bool false) := by rw [hw1]; exact fresh_cell (by simp) rfl
  have b1 : w1.frozen? ⟨w.heap.size, 0, none⟩ = false := by rw [hw1]; exact frozen_alloc _ (by simp) (fresh_frozen rfl)
  have b2 : w1.frozen? ⟨w.heap.size + 1, 0, none⟩ = false := by rw [hw1]; exact fresh_frozen (by simp)
  have hs1 : w1.heap.size = w.heap.size + 2 := by rw [hw1]; simp
  have Hc1 := Lib.hid hc1
  have HN := Lib.hid hN
  have HE := Lib.hid hE
  have HT := Lib.hid hT
  have Hb := Lib.hid hb
  have Hf := Lib.hid hf
  have Hcop := Lib.hid (fun W (hW : Chg Nix w W) => copied_ok A0 c0 bs W (Kd.C_below hK hW.toBelow) hc0 hne (by omega))
  clear hc1 hN hE hT hb hf hns hK
  go_enter_defers Tryz.func4, Tryz.ntmps4
  rcases hh with ⟨h01, hlen, hbit⟩ | ⟨rfl, L, us, hL1, hL, hle, hruns, hus, hbit⟩
  · have Hbit := Lib.hid hbit
    clear hbit
    have hh2 : ¬ (how : Int) = 2 := by omega
    go_wp2_with fail
    rw [← hw1]
    have Hw1 := Lib.hid hw1
    clear hw1
    refine (newPlain_ok w1).mono ?_
    rintro e w2 ⟨d, rfl, hd1, hd2, hc2, hD0, h3⟩
    have HD0 := Lib.hid hD0
    have H3 := Lib.hid h3
    have Hc2 := Lib.hid hc2
    clear hD0 h3 hc2
    go_wp2_with fail
    obtain ⟨w3, hw3⟩ : ∃ w3, w3 = w2.alloc (.cells #[.pointer (some ⟨d, 0, none⟩)] 50) := ⟨_, rfl⟩
    have hc3 : Chg Nix w2 w3 := by rw [hw3]; exact Chg.new _ _
    have kX : w3.cell? ⟨w2.heap.size, 0, none⟩ = some (.pointer (some ⟨d, 0, none⟩)) := by rw [hw3]; exact fresh_cell rfl rfl
    have hs3 : w3.heap.size = w2.heap.size + 1 := by rw [hw3]; simp
    rw [← hw3]
    have hw12 := Hc2.out.size
    have HD3 := Lib.hid (HD0.out.keep hc3)
    have H33 := Lib.hid (hc3.keep H3.out (fun h => h))
    have Hw13 := Lib.hid (Hc2.out.trans hc3)
    have HX := Lib.hid kX
    clear hw3 hc3
    have hcop2 := Lib.hid (Hcop.out w3.drew (Hc1.out.trans Hw13.out).drew)
    have lX := World.block_lt_of_cell? _ _ kX
    have hdw : d < w2.heap.size := World.block_lt_of_cell? _ _ HD0.out.c0
    have ld := World.block_lt_of_cell? _ _ HD3.out.c0
    go_region_held3 (fun W => W.cell? ⟨w2.heap.size, 0, none⟩ = some (.pointer (some ⟨d, 0, none⟩))) (first | exact kX5 | exact kX4 | exact kX)
      (first
        | (go_at_call 14; refine (hcop2.out).mono ?_; rintro e w4 ⟨b, c, rfl, h1, h2, h3, h4, h5, h6⟩; have kX4 := h6.keep (show w3.drew.cell? _ = _ from kX) (fun h => h); have H4 := Lib.hid (And.intro h1 (And.intro h2 (And.intro h3 (And.intro h4 (And.intro h5 h6))))); clear h1 h2 h3 h4 h5 h6)
        | (go_at_call 19; obtain ⟨h1, h2, h3, h4, h5, h6⟩ := H4.out; refine (plainSet_ok d _ vs.length bs.length _ _ w4 (HD3.out.keep h6.undrew) (h6.undrew.keep H33.out (fun h => h)) (h5.bmp Hb.out) h1 h2 (by omega) hlen (by have : w3.heap.size ≤ _ := h3; omega)).mono ?_; rintro e w5 ⟨rfl, h7, h8⟩; have kX5 := h7.keep kX4 (by intro (hh : w2.heap.size = d); omega); have hA : AfterP bs d vs.length w3 w5 := ⟨⟨_, by have : w3.heap.size ≤ _ := h3; omega, Nat.lt_of_lt_of_le h4 h7.size, h3, h8⟩, (h6.undrew.mono (fun _ _ _ h => h.elim)).trans (h7.mono (fun _ _ _ h => h))⟩; have HA := Lib.hid hA; clear h1 h2 h3 h4 h5 h6 h7 h8 hA))
    have kX5 := kX5
    obtain ⟨⟨b, e1, e2, e3, e4⟩, eC⟩ := HA.out
    have hs3' := Hw13.out.size
    have h15' : Chg (fun a _ => a = d) w1 w5 := (Hw13.out.mono (fun _ _ _ h => h.elim)).trans eC
    have H15 := Lib.hid (h15'.mono (fun a x _ (hh : a = d) => (by omega : w1.heap.size ≤ a)))
    have hX5 := World.block_lt_of_cell? _ _ kX5
    have hd5 := e4.lt
    have hgw5 : 5 < w5.heap.size := by have := H15.out.size; omega
    have hT5 : Tabs w5 := (HT.out.keep (Hc1.out.mono (fun _ _ _ h => h.elim) : Chg (fun a _ => a = d) w w1) (fun k x (hh : k = d) => by omega)).keep h15' (fun k x (hh : k = d) => by omega)
    have hN5 : ∀ j (hj : j < ns.length), ∃ g o, bp = some ⟨g, o, none⟩ ∧ w5.cell? ⟨g, o + j, none⟩ = some (.int .i64 ns[j]) ∧ ¬ g = d := by
      intro j hj
      obtain ⟨g, o, h1, h2⟩ := HN.out j hj
      have hgl : g < w.heap.size := World.block_lt_of_cell? _ _ h2
      exact ⟨g, o, h1, h15'.keep (Hc1.out.keep h2 (fun h => h)) (by intro (hh : g = d); omega), by omega⟩
    have st0 : StP w5.heap.size d b w2.heap.size bs.length (fun i => (bs.getD (i / 8) 0).testBit (i % 8)) vs.length w5 0 w5 := ⟨Nat.zero_le _, e4, hT5, kX5, Nat.le_refl _, rfl⟩
    have hDD := decP d b w2.heap.size bs.length vs.length (fun i => (bs.getD (i / 8) 0).testBit (i % 8)) vs w5 rfl e2 hd5 hX5 hgw5 (by omega) (by omega) e1
    have hrA := readP d b w2.heap.size bs.length vs.length (fun i => (bs.getD (i / 8) 0).testBit (i % 8)) vs w5 rfl Hbit.out e2 hd5 hgw5 (by omega) hX5 (by omega)
    have hrB := readBm d b w2.heap.size bs.length vs.length (fun i => (bs.getD (i / 8) 0).testBit (i % 8)) vs w5 rfl Hbit.out e2 hd5 hgw5 (by omega) hX5 (by omega)
    have HcA := Lib.hid (decodedA_ok _ vs _ 20 21 d bc bp ns w5 st0 hDD (by omega) E20.out E21.out hN5 hnc Hf.out hrA)
    have HcB := Lib.hid (decodedB_ok _ vs _ 22 21 d w2.heap.size bc bp ns w5 st0 hDD (by omega) E22.out E21.out hN5 hnc Hf.out hrB)
    clear st0 hDD hrA hrB hN5 hT5 h15' eC e1 e2 e3 e4 HA kX4 H4
    rcases h01 with rfl | rfl
    · skip
      go_wp2_with fail
      refine (HcA.out).mono ?_
      rintro e w6 ⟨v6, rfl, hO, hC6⟩
      obtain ⟨pv, lv, cv, rfl⟩ : ∃ pv lv cv, v6 = .slice pv lv cv := by
        obtain ⟨pv, cv, hh, -⟩ := hO.reads
        exact ⟨_, _, _, hh⟩
      have h16 := H15.out.trans (hC6.mono (fun a x _ (hh : a = d) => (by omega : w1.heap.size ≤ a)))
      have n8 : ¬ w1.heap.size ≤ w.heap.size := by omega
      have n9 : ¬ w1.heap.size ≤ w.heap.size + 1 := by omega
      have q8 := h16.keep a1 n8
      have q9 := h16.keep a2 n9
      have f8 := (h16.frozen _ _ (World.block_lt_of_cell? _ _ a1)).trans b1
      have f9 := (h16.frozen _ _ (World.block_lt_of_cell? _ _ a2)).trans b2
      obtain ⟨z1, z2, z3, z4⟩ := endB hs1 Hc1.out h16 (H15.out.size) hO q8 q9
      have Hz1 := Lib.hid z1
      have Hz2 := Lib.hid z2
      have Hz3 := Lib.hid z3
      have Hz4 := Lib.hid z4
      clear z1 z2 z3 z4 hO hC6 h16 n8 n9
      go_wp2_with fail
      refine leaves_cons (f := 11) (args := #[.pointer (some ⟨w.heap.size, 0, none⟩), .pointer (some ⟨w.heap.size + 1, 0, none⟩)]) (by simp) (by simp [go_sem]) ?_
      refine (noBools_idle ⟨w.heap.size, 0, none⟩ ⟨w.heap.size + 1, 0, none⟩ _).mono ?_
      rintro e u' w'' ⟨rfl, rfl, rfl⟩
      have z1 := Hz1.out
      have z2 := Hz2.out
      simp [Leaves, settle, results, Tryz.results4, go_sem, z1, z2]
      exact ⟨Hz3.out, Hz4.out⟩
    · have h1n : ¬ ((1 : Nat) : Int) = 0 := by decide
      go_wp2_with fail
      refine (HcB.out).mono ?_
      rintro e w6 ⟨v6, rfl, hO, hC6⟩
      obtain ⟨pv, lv, cv, rfl⟩ : ∃ pv lv cv, v6 = .slice pv lv cv := by
        obtain ⟨pv, cv, hh, -⟩ := hO.reads
        exact ⟨_, _, _, hh⟩
      have h16 := H15.out.trans (hC6.mono (fun a x _ (hh : a = d) => (by omega : w1.heap.size ≤ a)))
      have n8 : ¬ w1.heap.size ≤ w.heap.size := by omega
      have n9 : ¬ w1.heap.size ≤ w.heap.size + 1 := by omega
      have q8 := h16.keep a1 n8
      have q9 := h16.keep a2 n9
      have f8 := (h16.frozen _ _ (World.block_lt_of_cell? _ _ a1)).trans b1
      have f9 := (h16.frozen _ _ (World.block_lt_of_cell? _ _ a2)).trans b2
      obtain ⟨z1, z2, z3, z4⟩ := endB hs1 Hc1.out h16 (H15.out.size) hO q8 q9
      have Hz1 := Lib.hid z1
      have Hz2 := Lib.hid z2
      have Hz3 := Lib.hid z3
      have Hz4 := Lib.hid z4
      clear z1 z2 z3 z4 hO hC6 h16 n8 n9
      go_wp2_with fail
      refine leaves_cons (f := 11) (args := #[.pointer (some ⟨w.heap.size, 0, none⟩), .pointer (some ⟨w.heap.size + 1, 0, none⟩)]) (by simp) (by simp [go_sem]) ?_
      refine (noBools_idle ⟨w.heap.size, 0, none⟩ ⟨w.heap.size + 1, 0, none⟩ _).mono ?_
      rintro e u' w'' ⟨rfl, rfl, rfl⟩
      have z1 := Hz1.out
      have z2 := Hz2.out
      simp [Leaves, settle, results, Tryz.results4, go_sem, z1, z2]
      exact ⟨Hz3.out, Hz4.out⟩
  · have Hbit := Lib.hid hbit
    have Hruns := Lib.hid hruns
    have Hle := Lib.hid hle
    clear hbit hruns hle
    go_wp2_with fail
    rw [← hw1]
    clear hw1
    refine (newRuns_ok w1).mono ?_
    rintro e w2 ⟨d, rfl, hd1, hd2, hc2, hD0, h3⟩
    have hcp := Lib.hid (Hcop.out w2 (Hc1.out.trans hc2))
    have HD0 := Lib.hid hD0
    have H3 := Lib.hid h3
    have Hc2 := Lib.hid hc2
    clear hD0 h3 hc2
    go_wp2_with fail
    refine hcp.out.mono ?_
    rintro e w4 ⟨b, c, rfl, h1, h2, h3, h4, h5, h6⟩
    have hdw : d < w2.heap.size := World.block_lt_of_cell? _ _ HD0.out.c0
    have hsz := Hc2.out.size
    have c14 := Hc2.out.trans h6
    have hDt := h5.data Hb.out
    rw [hL] at hDt
    have hset := rqSet_ok d b vs.length L c ee eu (fun j => bs.getD j 0) us w4 (HD0.out.keep h6) (h6.keep H3.out (fun h => h)) (HE.out.keep (Hc1.out.trans c14) (fun h => h) (fun h => h)) hDt Hle.out (by omega) h2 hL1 (by omega) Hruns.out hus (by omega) (by omega) (by omega) h4
    have Hset := Lib.hid hset
    have H4 := Lib.hid (And.intro h3 (And.intro h4 c14))
    have hLi : ((4 + L : Nat) : Int) = (4 + L : Nat) := rfl
    clear h1 h2 h3 h4 h5 h6 c14 hDt hset
    rw [hL]
    go_wp2_with fail
    refine Hset.out.mono ?_
    rintro e w5 ⟨rfl, eC, q, R, hQ, qb, qB, qr, qR, qB', qr', qR'⟩
    obtain ⟨e1, e2, e3⟩ := H4.out
    have hs14 := e3.size
    have h15' : Chg (fun a _ => a = d) w1 w5 := (e3.mono (fun _ _ _ h => h.elim)).trans (eC.mono (fun _ _ _ h => h))
    have H15 := Lib.hid (h15'.mono (fun a x _ (hh : a = d) => (by omega : w1.heap.size ≤ a)))
    have hs45 := eC.size
    have hd5 := hQ.lt
    have hgw5 : 5 < w5.heap.size := by omega
    have hN5 : ∀ j (hj : j < ns.length), ∃ g o, bp = some ⟨g, o, none⟩ ∧ w5.cell? ⟨g, o + j, none⟩ = some (.int .i64 ns[j]) ∧ ¬ OwnQ d q R g := by
      intro j hj
      obtain ⟨g, o, h1, h2⟩ := HN.out j hj
      have hgl : g < w.heap.size := World.block_lt_of_cell? _ _ h2
      exact ⟨g, o, h1, h15'.keep (Hc1.out.keep h2 (fun h => h)) (by intro (hh : g = d); omega), by rintro (hh | hh | hh | hh) <;> omega⟩
    have st0 : StR d q R us vs.length w5 0 w5 := ⟨Nat.zero_le _, hQ, Nat.le_refl _⟩
    have hDD := decR d vs.length q R us vs w5 rfl hvl (by omega) qB' qr' qR' hd5 hgw5
    have hrR := readR d vs.length q R us vs w5 rfl hvl Hbit.out (by omega) qB' qr' qR' hd5 hgw5
    have HcR := Lib.hid (decodedA_ok _ vs _ 16 17 d bc bp ns w5 st0 hDD (by omega) E16.out E17.out hN5 hnc Hf.out hrR)
    clear st0 hDD hrR hN5 h15' eC e3 hQ H4 Hset
    go_wp2_with fail
    refine (HcR.out).mono ?_
    rintro e w6 ⟨v6, rfl, hO, hC6⟩
    obtain ⟨pv, lv, cv, rfl⟩ : ∃ pv lv cv, v6 = .slice pv lv cv := by
      obtain ⟨pv, cv, hh, -⟩ := hO.reads
      exact ⟨_, _, _, hh⟩
    have h16 := H15.out.trans (hC6.mono (fun a x _ (hh : OwnQ d q R a) => (by rcases hh with hh | hh | hh | hh <;> omega : w1.heap.size ≤ a)))
    have n8 : ¬ w1.heap.size ≤ w.heap.size := by omega
    have n9 : ¬ w1.heap.size ≤ w.heap.size + 1 := by omega
    have q8 := h16.keep a1 n8
    have q9 := h16.keep a2 n9
    have f8 := (h16.frozen _ _ (World.block_lt_of_cell? _ _ a1)).trans b1
    have f9 := (h16.frozen _ _ (World.block_lt_of_cell? _ _ a2)).trans b2
    obtain ⟨z1, z2, z3, z4⟩ := endB hs1 Hc1.out h16 (H15.out.size) hO q8 q9
    have Hz1 := Lib.hid z1
    have Hz2 := Lib.hid z2
    have Hz3 := Lib.hid z3
    have Hz4 := Lib.hid z4
    clear z1 z2 z3 z4 hO hC6 h16 n8 n9
    go_wp2_with fail
    refine leaves_cons (f := 11) (args := #[.pointer (some ⟨w.heap.size, 0, none⟩), .pointer (some ⟨w.heap.size + 1, 0, none⟩)]) (by simp) (by simp [go_sem]) ?_
    refine (noBools_idle ⟨w.heap.size, 0, none⟩ ⟨w.heap.size + 1, 0, none⟩ _).mono ?_
    rintro e u' w'' ⟨rfl, rfl, rfl⟩
    have z1 := Hz1.out
    have z2 := Hz2.out
    simp [Leaves, settle, results, Tryz.results4, go_sem, z1, z2]
    exact ⟨Hz3.out, Hz4.out⟩
end Go.Proofs.YtflgbndhahcdnaaGreatDoor
