/- Part 5 of the proof: the texts BR, BS, BV, BW, BX, joined. What each proves stands ahead of it. -/
import Derived.Test.YtameepdbnnaaaaaGreatDoorKD
set_option linter.unusedVariables false
set_option linter.unusedSimpArgs false
/- The reader of a bitmap by words: made, asked. -/
namespace Go.Proofs.YtameepdbnnaaaaaGreatDoor
open Go Go.RowKit
/-- A reader of a bitmap by words, a block of its own: at byte j of (sb, so). -/
structure WR (w : World) (A sb so rs j L C nw tb ty cur : Nat) : Prop where
  sl : w.cell? ⟨A, 0, none⟩ = some (.slice (some ⟨sb, so + j, none⟩) L C)
  of : w.cell? ⟨A, 1, none⟩ = some (.int .i64 rs)
  nw : w.cell? ⟨A, 2, none⟩ = some (.int .i64 nw)
  tb : w.cell? ⟨A, 3, none⟩ = some (.int .i64 tb)
  ty : w.cell? ⟨A, 4, none⟩ = some (.int .i64 ty)
  cu : w.cell? ⟨A, 5, none⟩ = some (.int .u64 cur)
  fr : ∀ k, k < 6 → w.frozen? ⟨A, k, none⟩ = false
theorem WR.lt {w : World} {A sb so rs j L C nw tb ty cur : Nat} (h : WR w A sb so rs j L C nw tb ty cur) : A < w.heap.size := World.block_lt_of_cell? w _ h.sl
theorem WR.keep {w w' : World} {A sb so rs j L C nw tb ty cur : Nat} (h : WR w A sb so rs j L C nw tb ty cur) {S : Nat → Nat → Prop} (hc : Chg S w w') (hS : ∀ x, ¬ S A x) : WR w' A sb so rs j L C nw tb ty cur :=
  ⟨hc.keep h.sl (hS _), hc.keep h.of (hS _), hc.keep h.nw (hS _), hc.keep h.tb (hS _), hc.keep h.ty (hS _), hc.keep h.cu (hS _), fun k hk => (hc.frozen _ _ h.lt).trans (h.fr k hk)⟩
theorem WR.drew {w : World} {A sb so rs j L C nw tb ty cur : Nat} (h : WR w A sb so rs j L C nw tb ty cur) : WR w.drew A sb so rs j L C nw tb ty cur := h.keep (Chg.drew (Chg.refl Nix w)) (fun _ h => h)
theorem WR.cur' {w : World} {A sb so rs j L C nw tb ty cur : Nat} (h : WR w A sb so rs j L C nw tb ty cur) (v : Nat) : WR (w.setCell ⟨A, 5, none⟩ (.int .u64 v)) A sb so rs j L C nw tb ty v :=
  ⟨cell_ne _ h.sl (by omega), cell_ne _ h.of (by omega), cell_ne _ h.nw (by omega), cell_ne _ h.tb (by omega), cell_ne _ h.ty (by omega), World.cell?_setCell_same _ _ _ h.cu, fun k hk => by rw [World.frozen?_setCell]; exact h.fr k hk⟩
theorem WR.sl' {w : World} {A sb so rs j L C nw tb ty cur : Nat} (h : WR w A sb so rs j L C nw tb ty cur) (j' L' C' : Nat) : WR (w.setCell ⟨A, 0, none⟩ (.slice (some ⟨sb, so + j', none⟩) L' C')) A sb so rs j' L' C' nw tb ty cur :=
  ⟨World.cell?_setCell_same _ _ _ h.sl, cell_ne _ h.of (by omega), cell_ne _ h.nw (by omega), cell_ne _ h.tb (by omega), cell_ne _ h.ty (by omega), cell_ne _ h.cu (by omega), fun k hk => by rw [World.frozen?_setCell]; exact h.fr k hk⟩
theorem WR.tb' {w : World} {A sb so rs j L C nw tb ty cur : Nat} (h : WR w A sb so rs j L C nw tb ty cur) (v : Nat) : WR (w.setCell ⟨A, 3, none⟩ (.int .i64 v)) A sb so rs j L C nw v ty cur :=
  ⟨cell_ne _ h.sl (by omega), cell_ne _ h.of (by omega), cell_ne _ h.nw (by omega), World.cell?_setCell_same _ _ _ h.tb, cell_ne _ h.ty (by omega), cell_ne _ h.cu (by omega), fun k hk => by rw [World.frozen?_setCell]; exact h.fr k hk⟩
theorem WR.ty' {w : World} {A sb so rs j L C nw tb ty cur : Nat} (h : WR w A sb so rs j L C nw tb ty cur) (v : Nat) : WR (w.setCell ⟨A, 4, none⟩ (.int .i64 v)) A sb so rs j L C nw tb v cur :=
  ⟨cell_ne _ h.sl (by omega), cell_ne _ h.of (by omega), cell_ne _ h.nw (by omega), cell_ne _ h.tb (by omega), World.cell?_setCell_same _ _ _ h.ty, cell_ne _ h.cu (by omega), fun k hk => by rw [World.frozen?_setCell]; exact h.fr k hk⟩
set_option maxRecDepth 100000 in
set_option maxHeartbeats 1000000 in
theorem words_ok (A sb so rs j L C nw tb ty cur : Nat) (w : World) (h : WR w A sb so rs j L C nw tb ty cur) : Calls Tryz.prog 93 #[.pointer (some ⟨A, 0, none⟩)] w fun e w' => e = .returned (.int .i64 nw) ∧ w = w' := by
  have c2 := h.nw
  clear h
  go_enter Tryz.func93, Tryz.ntmps93
  go_wp2_with fail
  go_ret
  exact ⟨rfl, rfl⟩
set_option maxRecDepth 100000 in
set_option maxHeartbeats 1000000 in
theorem trailing_count (A sb so rs j L C nw tb ty cur : Nat) (w : World) (h : WR w A sb so rs j L C nw tb ty cur) : Calls Tryz.prog 96 #[.pointer (some ⟨A, 0, none⟩)] w fun e w' => e = .returned (.int .i64 ty) ∧ w = w' := by
  have c2 := h.ty
  clear h
  go_enter Tryz.func96, Tryz.ntmps96
  go_wp2_with fail
  go_ret
  exact ⟨rfl, rfl⟩
/-- What the word at hand holds: all of it where words are still to come, else its first byte. -/
structure Cur (σ : Nat → Bool) (p nw cur : Nat) : Prop where
  lt : cur < 2 ^ 64
  lo : ∀ t, t < 8 → cur.testBit t = σ (p + t)
  hi : 0 < nw → Num64 σ p cur
set_option maxRecDepth 100000 in
set_option maxHeartbeats 1000000 in
theorem newWR_ok (sb so n q rs len cap length : Nat) (σ : Nat → Bool) (w : World) (hB : Bmp w sb so n σ) (hr : rs < 8) (h1 : 1 ≤ length) (hl2 : length ≤ 1000000000) (hn : q + (rs + length + 7) / 8 ≤ n) (hnl : n ≤ len) (hlc : len ≤ cap) (hcap : cap ≤ 1000000000000) :
    Calls Tryz.prog 91 #[.slice (some ⟨sb, so, none⟩) len cap, .int .i64 (8 * q + rs : Nat), .int .i64 length] w fun e w' => e = .returned (.pointer (some ⟨w.heap.size, 0, none⟩)) ∧ Chg Nix w w' ∧ w.heap.size < w'.heap.size ∧ ∃ cur, WR w' w.heap.size sb so rs q ((rs + length + 7) / 8) (cap - q) (length / 64 - 1) (length - (length / 64 - 1) * 64) ((length - (length / 64 - 1) * 64 + 7) / 8) cur ∧ Cur σ (8 * q) (length / 64 - 1) cur := by
  obtain ⟨o, ho⟩ : ∃ o, o = 8 * q + rs := ⟨_, rfl⟩
  rw [← ho]
  have e1 : (o : Int) / 8 = q := by omega
  have e2 : (o : Int) % 8 = rs := by omega
  obtain ⟨L, hL⟩ : ∃ L, L = (rs + length + 7) / 8 := ⟨_, rfl⟩
  have hb1 := fun X => bytesFor_ok (rs + length) X (by omega)
  rw [← hL] at hb1 hn ⊢
  have hL1 : 1 ≤ L := by omega
  have hqt : ((q : Nat) : Int).toNat = q := by omega
  have hsb := hB.cell q (by omega)
  have hsl : sb < w.heap.size := by obtain ⟨x, hx, -⟩ := hsb; exact World.block_lt_of_cell? w _ hx
  have HB := Lib.hid hB; clear hB
  have Hb1 := Lib.hid hb1; clear hb1
  have HL := Lib.hid hL; clear hL
  have Ho := Lib.hid ho; clear ho
  have hrl : (rs : Int) + length = (rs + length : Nat) := by push_cast; rfl
  have Hrl := Lib.hid hrl; clear hrl
  have hsub : q + L - q = L := by omega
  have hqL : ((q : Int) + L).toNat = q + L := by omega
  go_enter Tryz.func91, Tryz.ntmps91
  go_wp2_with fail
  rw [Hrl.out]
  refine (Hb1.out _).mono ?_
  rintro e w1 ⟨rfl, rfl⟩
  go_upto_if 33 with fail
  go_cut [] (fun wx => WR wx w1.heap.size sb so rs q L (cap - q) (length / 64 - 1) 0 0 0 ∧ Chg Nix w1 wx ∧ w1.heap.size < wx.heap.size)
  case first =>
    by_cases h64 : 64 ≤ length
    · have hn0 : ¬ (length : Int) / 64 - 1 < 0 := by omega
      have hnw : (length : Int) / 64 - 1 = (length / 64 - 1 : Nat) := by omega
      have Hnw := Lib.hid hnw; clear hnw
      go_wp2_with fail
      go_meet
      rw [Hnw.out]
      exact ⟨⟨by simp, by simp, by simp, by simp, by simp, by simp, fun k _ => by simp⟩, Chg.new _ _, by simp⟩
    · have hn0 : (length : Int) / 64 - 1 < 0 := by omega
      have hnw : length / 64 - 1 = 0 := by omega
      have Hnw := Lib.hid hnw; clear hnw
      go_wp2_with fail
      go_meet
      rw [Hnw.out]
      exact ⟨⟨by simp, by simp, by simp, by simp, by simp, by simp, fun k _ => by simp⟩, Chg.new _ _, by simp⟩
  case rest =>
  obtain ⟨hW, hc, hlt⟩ := hcut
  obtain ⟨A, hA⟩ : ∃ A, A = w1.heap.size := ⟨_, rfl⟩
  rw [← hA] at hW hlt hsl ⊢
  obtain ⟨nw, hnw⟩ : ∃ nw, nw = length / 64 - 1 := ⟨_, rfl⟩
  rw [← hnw] at hW
  obtain ⟨tb, htb⟩ : ∃ tb, tb = length - nw * 64 := ⟨_, rfl⟩
  have htbi : (length : Int) - nw * 8 * 8 = tb := by omega
  have hty := fun X => bytesFor_ok tb X (by omega)
  have Hty := Lib.hid hty; clear hty
  have HA := Lib.hid hA; clear hA
  have Hnw := Lib.hid hnw; clear hnw
  have Htb := Lib.hid htb; clear htb
  have hnw8 : (nw : Int) ≤ 1000000000 := by have := Hnw.out; omega
  have c2 := hW.nw
  have c3 := hW.tb
  have f3 := hW.fr 3 (by omega)
  have hW2 := hW.tb' tb
  have hc2 : Chg Nix w1 (wc.setCell ⟨A, 3, none⟩ (.int .i64 tb)) := (hc.mono (S' := fun k _ => k = A) (fun _ _ _ h => h.elim)).setCell A 3 (fun _ => rfl) _ |>.mono (fun k x hk hh => by have := HA.out; omega)
  have HW := Lib.hid hW; clear hW
  have HW2 := Lib.hid hW2; clear hW2
  have Hc2 := Lib.hid hc2; clear hc2 hc
  go_wp2_with fail
  refine (Hty.out _).mono ?_
  rintro e w3 ⟨rfl, rfl⟩
  generalize wc.setCell ⟨A, 3, none⟩ (.int .i64 tb) = w3 at HW2 Hc2 ⊢
  clear c2 c3 f3 HW
  have c3 := HW2.out.tb
  have c4 := HW2.out.ty
  have f4 := HW2.out.fr 4 (by omega)
  have hW3 := HW2.out.ty' ((tb + 7) / 8)
  have hc3 : Chg Nix w1 (w3.setCell ⟨A, 4, none⟩ (.int .i64 ((tb + 7) / 8 : Nat))) := (Hc2.out.mono (S' := fun k _ => k = A) (fun _ _ _ h => h.elim)).setCell A 4 (fun _ => rfl) _ |>.mono (fun k x hk hh => by have := HA.out; omega)
  obtain ⟨ty, hty⟩ : ∃ ty, ty = (tb + 7) / 8 := ⟨_, rfl⟩
  rw [← hty] at hW3 hc3 ⊢
  have HTy := Lib.hid hty; clear hty
  have c2 := HW2.out.nw
  have HW3 := Lib.hid hW3; clear hW3
  have Hc3 := Lib.hid hc3; clear hc3 HW2 Hc2
  go_upto_if 60 with fail
  generalize w3.setCell ⟨A, 4, none⟩ (.int .i64 ty) = w4 at HW3 Hc3 ⊢
  clear c2 c3 c4 f4
  have c0 := HW3.out.sl
  have c5 := HW3.out.cu
  have f5 := HW3.out.fr 5 (by omega)
  have HB4 := Lib.hid (HB.out.keep Hc3.out (fun _ _ h => h))
  go_cut [] (fun wx => Chg Nix w1 wx ∧ ∃ cur, WR wx A sb so rs q L (cap - q) nw tb ty cur ∧ Cur σ (8 * q) nw cur)
  case first =>
    by_cases hnz : 0 < nw
    · have hnz' : (0 : Int) < nw := by omega
      have hcall := leBits_ok sb so n q L (cap - q) σ w4.drew HB4.out.drew (by have := HL.out; have := Hnw.out; omega) (by have := HL.out; have := Hnw.out; omega)
      have Hcall := Lib.hid hcall; clear hcall
      go_wp2_with fail
      refine wp_region_txt [100] (by kernel_rfl) (by kernel_rfl) ?_
      repeat (first | (refine wpTxt_pure rfl rfl (fun K hK => ?_); go_simp; refine hK _ ?_; clear hK K) | (refine wpTxt_still rfl rfl (fun K hK => ?_); go_simp; refine hK _ ?_; clear hK K))
      refine wpTxt_effect rfl rfl (fun K hK => ?_); go_simp
      refine Hcall.out.mono ?_
      rintro e w5 ⟨V, rfl, hV, h5⟩
      have hW5 := HW3.out.keep h5.undrew (fun _ h => h)
      have c5' := hW5.cu
      have f5' := hW5.fr 5 (by omega)
      have HW6 := Lib.hid (hW5.cur' V)
      have hc6 : Chg Nix w1 (w5.setCell ⟨A, 5, none⟩ (.int .u64 V)) := ((Hc3.out.trans h5.undrew).mono (S' := fun k _ => k = A) (fun _ _ _ h => h.elim)).setCell A 5 (fun _ => rfl) _ |>.mono (fun k x hk hh => by have := HA.out; omega)
      have Hc6 := Lib.hid hc6
      have HV := Lib.hid hV
      clear h5 hW5 hc6 hV
      (refine hK _ _ ?_; clear hK K)
      repeat (first | (refine wpTxt_pure rfl rfl (fun K hK => ?_); go_simp; refine hK _ ?_; clear hK K) | (refine wpTxt_still rfl rfl (fun K hK => ?_); go_simp; refine hK _ ?_; clear hK K))
      refine wpTxt_still rfl rfl (fun K hK => ?_)
      go_simp
      refine ⟨_, toLE_ok V _, ?_⟩
      (refine hK _ ?_; clear hK K)
      repeat (first | (refine wpTxt_pure rfl rfl (fun K hK => ?_); go_simp; refine hK _ ?_; clear hK K) | (refine wpTxt_still rfl rfl (fun K hK => ?_); go_simp; refine hK _ ?_; clear hK K))
      (refine wpTxt_effect rfl rfl (fun K hK => ?_); go_simp; refine hK _ _ ?_; clear hK K)
      refine wpTxt_nil ?_
      go_wp2_with fail
      go_meet
      exact ⟨Hc6.out, V, HW6.out, HV.out.lt, fun t ht => HV.out.tb t (by omega), fun _ => HV.out⟩
    · have hnz' : ¬ (0 : Int) < nw := by omega
      obtain ⟨x, hx, hx8, hxt⟩ := HB4.out.cell q (by omega)
      have hl0 : 0 < length := by omega
      have hL0 : 0 < L := by omega
      have hcall := setLSB_ok A 5 0 x w4.drew (by decide) hx8 c5 f5
      have Hcall := Lib.hid hcall; clear hcall
      have HW6 := Lib.hid (HW3.out.cur' (lsb 0 x))
      have hc6 : Chg Nix w1 (w4.setCell ⟨A, 5, none⟩ (.int .u64 (lsb 0 x : Nat))) := (Hc3.out.mono (S' := fun k _ => k = A) (fun _ _ _ h => h.elim)).setCell A 5 (fun _ => rfl) _ |>.mono (fun k x hk hh => by have := HA.out; omega)
      have Hc6 := Lib.hid hc6
      have Hx := Lib.hid hxt
      clear hc6 hxt
      go_wp2_with fail
      (refine wp_region_txt [] (by kernel_rfl) (by kernel_rfl) ?_; repeat (first | (refine wpTxt_pure rfl rfl (fun K hK => ?_); go_simp; refine hK _ ?_; clear hK K) | (refine wpTxt_still rfl rfl (fun K hK => ?_); go_simp; refine hK _ ?_; clear hK K)))
      refine wpTxt_effect rfl rfl (fun K hK => ?_); go_simp
      refine Hcall.out.mono ?_
      rintro e w5 ⟨rfl, rfl⟩
      (refine hK _ _ ?_; clear hK K)
      repeat (first | (refine wpTxt_pure rfl rfl (fun K hK => ?_); go_simp; refine hK _ ?_; clear hK K) | (refine wpTxt_still rfl rfl (fun K hK => ?_); go_simp; refine hK _ ?_; clear hK K))
      refine wpTxt_nil ?_
      go_wp2_with fail
      go_meet
      exact ⟨Hc6.out.drew, lsb 0 x, HW6.out.drew, lsb_lt 0 x (by decide) hx8, fun t ht => by rw [lsb_tb _ _ _ hx8 ht, Hx.out t ht], fun h => absurd h hnz⟩
  case rest =>
  obtain ⟨h1, cur, h2, h3⟩ := hcut
  have H1 := Lib.hid h1; clear h1
  have H2 := Lib.hid h2; clear h2
  have H3 := Lib.hid h3; clear h3
  go_wp2_with fail
  go_ret
  rw [← HA.out, ← Hnw.out, ← Htb.out, ← HTy.out]
  exact ⟨rfl, H1.out, H2.out.lt, cur, H2.out, H3.out⟩
end Go.Proofs.YtameepdbnnaaaaaGreatDoor
/- The reader of a bitmap by words: the next word, the next byte. -/
namespace Go.Proofs.YtameepdbnnaaaaaGreatDoor
open Go Go.RowKit
set_option maxRecDepth 100000 in
set_option maxHeartbeats 1000000 in
theorem nextWord0_ok (A sb so n j L C nw tb ty cur : Nat) (σ : Nat → Bool) (w : World) (hB : Bmp w sb so n σ) (h : WR w A sb so 0 j L C nw tb ty cur) (hA : A ≠ sb) (hL : 16 ≤ L) (hLC : L ≤ C) (hn : j + 16 ≤ n) (hcur : Num64 σ (8 * j) cur) :
    Calls Tryz.prog 95 #[.pointer (some ⟨A, 0, none⟩)] w fun e w' => e = .returned (.int .u64 cur) ∧ Chg (Own A) w w' ∧ ∃ V, WR w' A sb so 0 (j + 8) (L - 8) (C - 8) nw tb ty V ∧ Num64 σ (8 * (j + 8)) V := by
  have c0 := h.sl
  have c5 := h.cu
  have f0 := h.fr 0 (by omega)
  have hcap : ¬ C = 8 := by omega
  have h8 : (8 : Nat) ≤ L := by omega
  have hW1 := h.sl' (j + 8) (L - 8) (C - 8)
  rw [show so + (j + 8) = so + j + 8 by omega] at hW1
  have hc1 := (Chg.refl (Own A) w).own 0 (.slice (some ⟨sb, so + j + 8, none⟩) (L - 8) (C - 8))
  have HB1 := Lib.hid (hB.keep hc1 (fun _ _ hh => hA hh.symm))
  have HW1 := Lib.hid hW1
  have Hc1 := Lib.hid hc1
  have Hcur := Lib.hid hcur
  clear hB h hW1 hc1 hcur
  go_enter Tryz.func95, Tryz.ntmps95
  go_wp2_with fail
  generalize w.setCell ⟨A, 0, none⟩ (.slice (some ⟨sb, so + j + 8, none⟩) (L - 8) (C - 8)) = w1 at HB1 HW1 Hc1 ⊢
  clear c0 f0 c5
  have c0 := HW1.out.sl
  have c1 := HW1.out.of
  have c5 := HW1.out.cu
  have hcall := leBits_ok sb so n (j + 8) (L - 8) (C - 8) σ w1.drew HB1.out.drew (by omega) (by omega)
  have Hcall := Lib.hid hcall; clear hcall
  refine wp_region_txt [100] (by kernel_rfl) (by kernel_rfl) ?_
  repeat (first | (refine wpTxt_pure rfl rfl (fun K hK => ?_); go_simp; refine hK _ ?_; clear hK K) | (refine wpTxt_still rfl rfl (fun K hK => ?_); go_simp; refine hK _ ?_; clear hK K))
  refine wpTxt_effect rfl rfl (fun K hK => ?_); go_simp
  refine Hcall.out.mono ?_
  rintro e w5 ⟨V, rfl, hV, h5⟩
  have hW5 := HW1.out.keep h5.undrew (fun _ h => h)
  have c1' := hW5.of
  have c5' := hW5.cu
  have f5' := hW5.fr 5 (by omega)
  have HW6 := Lib.hid (hW5.cur' V)
  have hc6 : Chg (Own A) w (w5.setCell ⟨A, 5, none⟩ (.int .u64 V)) := (Hc1.out.trans (h5.undrew.mono (fun _ _ _ h => h.elim))).own 5 _
  have Hc6 := Lib.hid hc6
  have HV := Lib.hid hV
  clear h5 hW5 hc6 hV c0 c1 c5
  (refine hK _ _ ?_; clear hK K)
  repeat (first | (refine wpTxt_pure rfl rfl (fun K hK => ?_); go_simp; refine hK _ ?_; clear hK K) | (refine wpTxt_still rfl rfl (fun K hK => ?_); go_simp; refine hK _ ?_; clear hK K))
  refine wpTxt_still rfl rfl (fun K hK => ?_)
  go_simp
  refine ⟨_, toLE_ok V _, ?_⟩
  (refine hK _ ?_; clear hK K)
  repeat (first | (refine wpTxt_pure rfl rfl (fun K hK => ?_); go_simp; refine hK _ ?_; clear hK K) | (refine wpTxt_still rfl rfl (fun K hK => ?_); go_simp; refine hK _ ?_; clear hK K))
  refine wpTxt_nil ?_
  go_wp2_with fail
  go_ret
  exact ⟨rfl, Hc6.out, V, HW6.out, HV.out⟩
set_option maxRecDepth 100000 in
set_option maxHeartbeats 1000000 in
theorem assert_ok (x y : Value) (w : World) : Calls Tryz.prog 103 #[x, y] w fun e w' => e = .returned (.tuple #[]) ∧ w = w' := by
  go_enter Tryz.func103, Tryz.ntmps103
  go_wp2_with fail
  go_end0
  exact ⟨rfl, rfl⟩
/-- The word at hand: its first byte at least. -/
structure Lo8 (σ : Nat → Bool) (p cur : Nat) : Prop where
  lt : cur < 2 ^ 64
  lo : ∀ t, t < 8 → cur.testBit t = σ (p + t)
theorem Cur.lo8 {σ : Nat → Bool} {p nw cur : Nat} (h : Cur σ p nw cur) : Lo8 σ p cur := ⟨h.lt, h.lo⟩
theorem Num64.lo8 {σ : Nat → Bool} {p cur : Nat} (h : Num64 σ p cur) : Lo8 σ p cur := ⟨h.lt, fun t ht => h.tb t (by omega)⟩
/-- A byte whose first m bits are those of a row from p on, and its other bits none. -/
structure Byt (σ : Nat → Bool) (p m v : Nat) : Prop where
  lt : v < 256
  tb : ∀ t, t < 8 → v.testBit t = (decide (t < m) && σ (p + t))
theorem mod_tb (v t : Nat) (ht : t < 8) : (v % 256).testBit t = v.testBit t := by
  rw [show (256 : Nat) = 2 ^ 8 from rfl, Nat.testBit_mod_two_pow]; simp [ht]
set_option maxRecDepth 100000 in
set_option maxHeartbeats 1000000 in
theorem nextTrail0_ok (A sb so n j L C nw tb ty cur : Nat) (σ : Nat → Bool) (w : World) (hB : Bmp w sb so n σ) (h : WR w A sb so 0 j L C nw tb ty cur) (hA : A ≠ sb) (hL : 2 ≤ L) (hLC : L ≤ C) (hn : j + 2 ≤ n) (hcur : Lo8 σ (8 * j) cur) (htb : 8 < tb) (hty : 1 ≤ ty) (htb2 : tb ≤ 1000000000) (hty2 : ty ≤ 1000000000) :
    Calls Tryz.prog 97 #[.pointer (some ⟨A, 0, none⟩)] w fun e w' => ∃ v V : Nat, e = .returned (.tuple #[.int .u8 v, .int .i64 8]) ∧ Byt σ (8 * j) 8 v ∧ Chg (Own A) w w' ∧ WR w' A sb so 0 (j + 1) (L - 1) (C - 1) nw (tb - 8) (ty - 1) V ∧ Lo8 σ (8 * (j + 1)) V := by
  have c0 := h.sl
  have c1 := h.of
  have c3 := h.tb
  have c4 := h.ty
  have c5 := h.cu
  have f0 := h.fr 0 (by omega)
  have f5 := h.fr 5 (by omega)
  have hcap : ¬ C = 1 := by omega
  have hW1 := h.sl' (j + 1) (L - 1) (C - 1)
  rw [show so + (j + 1) = so + j + 1 by omega] at hW1
  have hc1 := (Chg.refl (Own A) w).own 0 (.slice (some ⟨sb, so + j + 1, none⟩) (L - 1) (C - 1))
  have hB1 := hB.keep hc1 (fun _ _ hh => hA hh.symm)
  obtain ⟨x, hx, hx8, hxt⟩ := hB1.cell (j + 1) (by omega)
  rw [show so + (j + 1) = so + j + 1 by omega] at hx
  have d5 := hW1.cu
  have g5 := hW1.fr 5 (by omega)
  have hL0 : 0 < L - 1 := by omega
  have htb' : ¬ (tb : Int) ≤ 8 := by omega
  have HW1 := Lib.hid hW1
  have Hc1 := Lib.hid hc1
  have Hcur := Lib.hid hcur
  have Hxt := Lib.hid hxt
  clear hB hB1 h hW1 hc1 hcur hxt
  go_enter Tryz.func97, Tryz.ntmps97
  go_wp2_with fail
  refine (assert_ok _ _ _).mono ?_
  rintro e w1 ⟨rfl, rfl⟩
  go_wp2_with fail
  refine (getLSB_ok cur _).mono ?_
  rintro e w2 ⟨rfl, rfl⟩
  go_wp2_with fail
  refine (setLSB_ok A 5 cur x _ Hcur.out.lt hx8 (by exact d5) (by exact g5)).mono ?_
  rintro e w3 ⟨rfl, rfl⟩
  have hW4 := HW1.out.cur' (lsb cur x)
  have hc4 := Hc1.out.own 5 (.int .u64 (lsb cur x : Nat))
  generalize (w.setCell ⟨A, 0, none⟩ (.slice (some ⟨sb, so + j + 1, none⟩) (L - 1) (C - 1))).setCell ⟨A, 5, none⟩ (.int .u64 (lsb cur x : Nat)) = w4 at hW4 hc4 ⊢
  have k3 := hW4.tb
  have k4 := hW4.ty
  have g3 := hW4.fr 3 (by omega)
  have g4 := hW4.fr 4 (by omega)
  have hW5 := (hW4.tb' (tb - 8)).ty' (ty - 1)
  have hc5 := (hc4.own 3 (.int .i64 (tb - 8 : Nat))).own 4 (.int .i64 (ty - 1 : Nat))
  rw [show ((tb - 8 : Nat) : Int) = (tb : Int) - 8 by omega, show ((ty - 1 : Nat) : Int) = (ty : Int) - 1 by omega] at hW5 hc5
  have HW5 := Lib.hid hW5
  have Hc5 := Lib.hid hc5
  clear c0 c1 c3 c4 c5 f0 f5 hx d5 g5 hW4 hc4 hW5 hc5 HW1 Hc1
  go_wp2_with fail
  go_ret2
  refine ⟨cur % 256, lsb cur x, rfl, ⟨Nat.mod_lt _ (by decide), fun t ht => ?_⟩, Hc5.out, HW5.out, lsb_lt cur x Hcur.out.lt hx8, fun t ht => ?_⟩
  · rw [mod_tb _ _ ht, Hcur.out.lo t ht, decide_eq_true ht, Bool.true_and]
  · rw [lsb_tb _ _ _ hx8 ht, Hxt.out t ht]
end Go.Proofs.YtameepdbnnaaaaaGreatDoor
/- Words that are laid across two words: plain facts. No program in sight. -/
namespace Go.Proofs.YtameepdbnnaaaaaGreatDoor
open Go Go.RowKit
def shlw (W x k : Nat) : Nat := x * 2 ^ k % 2 ^ W
theorem shlw_lt (W x k : Nat) : shlw W x k < 2 ^ W := Nat.mod_lt _ (Nat.two_pow_pos W)
def rotw (W V r : Nat) : Nat := shlw W V r ||| V / 2 ^ (W - r)
theorem rotw_lt (W V r : Nat) (hV : V < 2 ^ W) : rotw W V r < 2 ^ W := Nat.or_lt_two_pow (shlw_lt _ _ _) (Nat.lt_of_le_of_lt (Nat.div_le_self _ _) hV)
theorem tb_over (W x t : Nat) (hx : x < 2 ^ W) (ht : W ≤ t) : x.testBit t = false := Nat.testBit_lt_two_pow (Nat.lt_of_lt_of_le hx (Nat.pow_le_pow_right (by decide) ht))
theorem rotw_tb (W V r t : Nat) (hV : V < 2 ^ W) (hr : r ≤ W) (ht : t < W) : (rotw W V r).testBit t = if t < r then V.testBit (t + (W - r)) else V.testBit (t - r) := by
  unfold rotw shlw
  rw [Nat.testBit_or, Nat.testBit_mod_two_pow, Nat.testBit_mul_two_pow, Nat.testBit_div_two_pow, decide_eq_true ht, Bool.true_and]
  by_cases h : t < r
  · rw [if_pos h, decide_eq_false (by omega), Bool.false_and, Bool.false_or]
  · rw [if_neg h, decide_eq_true (by omega), Bool.true_and, tb_over W V (t + (W - r)) hV (by omega), Bool.or_false]
def mixw (W x f m : Nat) : Nat := (x &&& m) ||| (f &&& (2 ^ W - 1 - m))
theorem mixw_lt (W x f m : Nat) (hx : x < 2 ^ W) (hf : f < 2 ^ W) : mixw W x f m < 2 ^ W := Nat.or_lt_two_pow (Nat.lt_of_le_of_lt Nat.and_le_left hx) (Nat.lt_of_le_of_lt Nat.and_le_left hf)
theorem tb_notw (W y t : Nat) (hy : y < 2 ^ W) (ht : t < W) : (2 ^ W - 1 - y).testBit t = !y.testBit t := by
  have := Nat.testBit_two_pow_sub_succ (x := y) (n := W) hy t
  rw [show 2 ^ W - (y + 1) = 2 ^ W - 1 - y by omega] at this
  rw [this, decide_eq_true ht, Bool.true_and]
theorem ones_lt (W r : Nat) (hr : r ≤ W) : 2 ^ r - 1 < 2 ^ W := by
  have := Nat.two_pow_pos r
  have := Nat.pow_le_pow_right (n := 2) (by decide) hr
  omega
theorem mixw_tb (W x f r t : Nat) (hr : r ≤ W) (ht : t < W) : (mixw W x f (2 ^ r - 1)).testBit t = if t < r then x.testBit t else f.testBit t := by
  unfold mixw
  rw [Nat.testBit_or, Nat.testBit_and, Nat.testBit_and, tb_notw W _ t (ones_lt W r hr) ht, tb_ones]
  by_cases h : t < r
  · rw [if_pos h, decide_eq_true h]; simp
  · rw [if_neg h, decide_eq_false h]; simp
/-- V laid across two words at bit r. -/
theorem paste_two (W p r c N V : Nat) (β : Nat → Bool) (hr : r ≤ W) (hV : V < 2 ^ W) (hc : ∀ t, t < W → c.testBit t = β (p + t)) (hN : ∀ t, t < W → N.testBit t = β (p + W + t)) :
    paste (paste β p W (mixw W c (rotw W V r) (2 ^ r - 1))) (p + W) W (mixw W (rotw W V r) N (2 ^ r - 1)) = paste β (p + r) W V := by
  funext i
  unfold paste
  by_cases h1 : p + W ≤ i ∧ i < p + W + W
  · rw [if_pos h1, mixw_tb _ _ _ _ _ hr (by omega)]
    by_cases h2 : i - (p + W) < r
    · rw [if_pos h2, rotw_tb _ _ _ _ hV hr (by omega), if_pos h2, if_pos (by omega)]
      congr 1; omega
    · rw [if_neg h2, if_neg (by omega), hN _ (by omega)]
      congr 1; omega
  · rw [if_neg h1]
    by_cases h3 : p ≤ i ∧ i < p + W
    · rw [if_pos h3, mixw_tb _ _ _ _ _ hr (by omega)]
      by_cases h2 : i - p < r
      · rw [if_pos h2, if_neg (by omega), hc _ (by omega)]
        congr 1; omega
      · rw [if_neg h2, rotw_tb _ _ _ _ hV hr (by omega), if_neg h2, if_pos (by omega)]
        congr 1; omega
    · rw [if_neg h3, if_neg (by omega)]
/-- The word behind holds what stands there now. -/
theorem paste_next (W p r c N V : Nat) (β : Nat → Bool) (hr : r ≤ W) (hV : V < 2 ^ W) (hc : ∀ t, t < W → c.testBit t = β (p + t)) (hN : ∀ t, t < W → N.testBit t = β (p + W + t)) (t : Nat) (ht : t < W) :
    (mixw W (rotw W V r) N (2 ^ r - 1)).testBit t = paste β (p + r) W V (p + W + t) := by
  rw [← paste_two W p r c N V β hr hV hc hN]
  unfold paste
  rw [if_pos (by omega)]
  congr 1; omega
theorem paste_far (W p : Nat) (β : Nat → Bool) (V i : Nat) (h : i < p ∨ p + W ≤ i) : paste β p W V i = β i := by
  unfold paste; rw [if_neg (by omega)]
theorem shlw8_is (x k : Nat) : IntKind.u8.wrap ((x : Int) * 2 ^ k) = (shlw 8 x k : Nat) := by
  rw [IntKind.wrap_u8]; unfold shlw; rw [Int.natCast_emod, Int.natCast_mul, Int.natCast_pow]; rfl
theorem shlw64_is (x k : Nat) : IntKind.u64.wrap ((x : Int) * 2 ^ k) = (shlw 64 x k : Nat) := shl64_is x k
end Go.Proofs.YtameepdbnnaaaaaGreatDoor
/- The writer of a bitmap by words, from a bit that begins no byte. -/
namespace Go.Proofs.YtameepdbnnaaaaaGreatDoor
open Go Go.RowKit
/-- A writer of a bitmap by words, a block of its own: at byte j of (b, off). -/
structure WW (w : World) (Z b off rd j L C M len cur : Nat) : Prop where
  sl : w.cell? ⟨Z, 0, none⟩ = some (.slice (some ⟨b, off + j, none⟩) L C)
  of : w.cell? ⟨Z, 1, none⟩ = some (.int .i64 rd)
  le : w.cell? ⟨Z, 2, none⟩ = some (.int .i64 len)
  ma : w.cell? ⟨Z, 3, none⟩ = some (.int .u64 M)
  cu : w.cell? ⟨Z, 4, none⟩ = some (.int .u64 cur)
  fr : ∀ k, k < 5 → w.frozen? ⟨Z, k, none⟩ = false
theorem WW.lt {w : World} {Z b off rd j L C M len cur : Nat} (h : WW w Z b off rd j L C M len cur) : Z < w.heap.size := World.block_lt_of_cell? w _ h.sl
theorem WW.keep {w w' : World} {Z b off rd j L C M len cur : Nat} (h : WW w Z b off rd j L C M len cur) {S : Nat → Nat → Prop} (hc : Chg S w w') (hS : ∀ x, ¬ S Z x) : WW w' Z b off rd j L C M len cur :=
  ⟨hc.keep h.sl (hS _), hc.keep h.of (hS _), hc.keep h.le (hS _), hc.keep h.ma (hS _), hc.keep h.cu (hS _), fun k hk => (hc.frozen _ _ h.lt).trans (h.fr k hk)⟩
theorem WW.drew {w : World} {Z b off rd j L C M len cur : Nat} (h : WW w Z b off rd j L C M len cur) : WW w.drew Z b off rd j L C M len cur := h.keep (Chg.drew (Chg.refl Nix w)) (fun _ h => h)
theorem WW.cur' {w : World} {Z b off rd j L C M len cur : Nat} (h : WW w Z b off rd j L C M len cur) (v : Nat) : WW (w.setCell ⟨Z, 4, none⟩ (.int .u64 v)) Z b off rd j L C M len v :=
  ⟨cell_ne _ h.sl (by omega), cell_ne _ h.of (by omega), cell_ne _ h.le (by omega), cell_ne _ h.ma (by omega), World.cell?_setCell_same _ _ _ h.cu, fun k hk => by rw [World.frozen?_setCell]; exact h.fr k hk⟩
theorem WW.sl' {w : World} {Z b off rd j L C M len cur : Nat} (h : WW w Z b off rd j L C M len cur) (j' L' C' : Nat) : WW (w.setCell ⟨Z, 0, none⟩ (.slice (some ⟨b, off + j', none⟩) L' C')) Z b off rd j' L' C' M len cur :=
  ⟨World.cell?_setCell_same _ _ _ h.sl, cell_ne _ h.of (by omega), cell_ne _ h.le (by omega), cell_ne _ h.ma (by omega), cell_ne _ h.cu (by omega), fun k hk => by rw [World.frozen?_setCell]; exact h.fr k hk⟩
/-- What a writer may turn. -/
def WS (Z b off n : Nat) : Nat → Nat → Prop := fun k x => k = Z ∨ RowS b off n k x
set_option maxRecDepth 100000 in
set_option maxHeartbeats 1000000 in
theorem putWord_ok (Z b off n rd j L C len cur V : Nat) (β : Nat → Bool) (w : World) (hB : Bmp w b off n β) (h : WW w Z b off rd j L C (2 ^ rd - 1) len cur) (hZ : Z ≠ b) (hr1 : 1 ≤ rd) (hr : rd < 8) (hL : 16 ≤ L) (hLC : L ≤ C) (hn : j + 16 ≤ n) (hcur : Num64 β (8 * j) cur) (hV : V < 2 ^ 64) :
    Calls Tryz.prog 94 #[.pointer (some ⟨Z, 0, none⟩), .int .u64 V] w fun e w' => e = .returned (.tuple #[]) ∧ Chg (WS Z b off n) w w' ∧ Bmp w' b off n (paste β (8 * j + rd) 64 V) ∧ ∃ X, WW w' Z b off rd (j + 8) (L - 8) (C - 8) (2 ^ rd - 1) len X ∧ Num64 (paste β (8 * j + rd) 64 V) (8 * (j + 8)) X := by
  obtain ⟨M, hM⟩ : ∃ M, M = 2 ^ rd - 1 := ⟨_, rfl⟩
  rw [← hM] at h
  have c0 := h.sl
  have c1 := h.of
  have c3 := h.ma
  have c4 := h.cu
  have f0 := h.fr 0 (by omega)
  have f4 := h.fr 4 (by omega)
  have hM64 : M < 2 ^ 64 := by rw [hM]; exact ones_lt 64 rd (by omega)
  have hcap : ¬ C = 8 := by omega
  have h8 : (8 : Nat) ≤ L := by omega
  have h8i : (8 : Int) ≤ L := by omega
  have hcapi : ¬ (C : Int) = 8 := by omega
  have hrd0 : ¬ (rd : Int) = 0 := by omega
  have hwr : IntKind.u64.wrap (rd : Int) = rd := IntWalk.u64_in _ (by omega)
  have hs1 := shlw64_is V rd
  have hs2 : (V : Int) / 2 ^ (64 - rd) = (V / 2 ^ (64 - rd) : Nat) := by norm_cast
  have hs3 : ((64 : Int) - rd).toNat = 64 - rd := by omega
  have hs4 : IntKind.i64.wrap ((64 : Int) - rd) = 64 - rd := IntWalk.i64_in _ (by omega)
  have hs5 : (0 : Int) ≤ 64 - rd := by omega
  have hs6 : (64 : Int) - rd ≤ 64 := by omega
  have hw64 : IntKind.i64.wrap 64 = 64 := by decide
  have hrt : ((rd : Nat) : Int).toNat = rd := by omega
  have hR := rotw_lt 64 V rd hV
  have hsor : bits .or .u64 ((shlw 64 V rd : Nat) : Int) ((V / 2 ^ (64 - rd) : Nat) : Int) = (rotw 64 V rd : Nat) := u64_or_nat _ _ (shlw_lt 64 V rd) (Nat.lt_of_le_of_lt (Nat.div_le_self _ _) hV)
  obtain ⟨R, hRe⟩ : ∃ R, R = rotw 64 V rd := ⟨_, rfl⟩
  obtain ⟨A, hAe⟩ : ∃ A, A = shlw 64 V rd := ⟨_, rfl⟩
  obtain ⟨B, hBe⟩ : ∃ B, B = V / 2 ^ (64 - rd) := ⟨_, rfl⟩
  rw [← hRe] at hR
  rw [← hRe, ← hAe, ← hBe] at hsor
  rw [← hAe] at hs1
  rw [← hBe] at hs2
  have d1 := u64_and_nat cur M hcur.lt hM64
  have d2 := u64_andNot_nat R M hR hM64
  have d3 := u64_or_nat (cur &&& M) (R &&& (2 ^ 64 - 1 - M)) (and64_lt _ _ hcur.lt) (and64_lt _ _ hR)
  have d4 := u64_and_nat R M hR hM64
  have hd3 : (cur &&& M) ||| (R &&& (2 ^ 64 - 1 - M)) = mixw 64 cur R M := rfl
  rw [hd3] at d3
  obtain ⟨D1, hD1⟩ : ∃ D1, D1 = cur &&& M := ⟨_, rfl⟩
  obtain ⟨D2, hD2⟩ : ∃ D2, D2 = R &&& (2 ^ 64 - 1 - M) := ⟨_, rfl⟩
  obtain ⟨D3, hD3⟩ : ∃ D3, D3 = mixw 64 cur R M := ⟨_, rfl⟩
  obtain ⟨D4, hD4⟩ : ∃ D4, D4 = R &&& M := ⟨_, rfl⟩
  rw [← hD1] at d1 d3
  rw [← hD2] at d2 d3
  rw [← hD3] at d3
  rw [← hD4] at d4
  have H := Lib.hid h
  have HB := Lib.hid hB
  have Hcur := Lib.hid hcur
  have HV := Lib.hid hV
  have HM64 := Lib.hid hM64
  have HR := Lib.hid hR
  have HM := Lib.hid hM
  have HRe := Lib.hid hRe
  have HD3 := Lib.hid hD3
  have HD4 := Lib.hid hD4
  clear h hB hcur hV hM64 hR hM hRe hAe hBe hD1 hD2 hD3 hD4 hd3
  go_enter Tryz.func94, Tryz.ntmps94
  go_wp2_with fail
  (refine wp_region_txt [] (by kernel_rfl) (by kernel_rfl) ?_; repeat (first | (refine wpTxt_pure rfl rfl (fun K hK => ?_); go_simp; refine hK _ ?_; clear hK K) | (refine wpTxt_still rfl rfl (fun K hK => ?_); go_simp; refine hK _ ?_; clear hK K)))
  refine wpTxt_nil ?_
  have HW0 := Lib.hid H.out.drew
  have HB0 := Lib.hid HB.out.drew
  have Hc0 : Hid (Chg (WS Z b off n) w w.drew) := Lib.hid (Chg.refl _ _).drew
  generalize w.drew = w0 at HW0 HB0 Hc0 ⊢
  clear c0 c1 c3 c4 f0 f4 hs1 hs2 hsor
  have c0 := HW0.out.sl
  have c3 := HW0.out.ma
  have c4 := HW0.out.cu
  have hcall := leBits_ok b off n (j + 8) (L - 8) (C - 8) β w0.drew HB0.out.drew (by omega) (by omega)
  rw [show off + (j + 8) = off + j + 8 by omega] at hcall
  have Hcall := Lib.hid hcall; clear hcall
  go_wp2_with fail
  refine wp_region_txt [100] (by kernel_rfl) (by kernel_rfl) ?_
  repeat (first | (refine wpTxt_pure rfl rfl (fun K hK => ?_); go_simp; refine hK _ ?_; clear hK K) | (refine wpTxt_still rfl rfl (fun K hK => ?_); go_simp; refine hK _ ?_; clear hK K))
  refine wpTxt_effect rfl rfl (fun K hK => ?_); go_simp
  refine Hcall.out.mono ?_
  rintro e w1 ⟨N, rfl, hN, h1⟩
  have HN := Lib.hid hN
  have HW1 := Lib.hid (HW0.out.keep h1.undrew (fun _ h => h))
  have HB1 := Lib.hid (HB0.out.keep h1.undrew (fun _ _ h => h))
  have Hc1 := Lib.hid (Hc0.out.trans (h1.undrew.mono (fun _ _ _ h => h.elim)))
  clear h1 hN c0 c3 c4 Hcall
  have d5 := u64_andNot_nat N M HN.out.lt HM64.out
  have d6 := u64_or_nat (N &&& (2 ^ 64 - 1 - M)) (R &&& M) (and64_lt _ _ HN.out.lt) (and64_lt _ _ HR.out)
  have hd6 : (N &&& (2 ^ 64 - 1 - M)) ||| (R &&& M) = mixw 64 R N M := Nat.or_comm _ _
  rw [hd6, ← HD4.out] at d6
  obtain ⟨D5, hD5⟩ : ∃ D5, D5 = N &&& (2 ^ 64 - 1 - M) := ⟨_, rfl⟩
  obtain ⟨D6, hD6⟩ : ∃ D6, D6 = mixw 64 R N M := ⟨_, rfl⟩
  rw [← hD5] at d5 d6
  rw [← hD6] at d6
  have HD6 := Lib.hid hD6
  clear hD5 hD6 hd6
  have c3 := HW1.out.ma
  have c4 := HW1.out.cu
  have f4 := HW1.out.fr 4 (by omega)
  (refine hK _ _ ?_; clear hK K)
  repeat (first | (refine wpTxt_pure rfl rfl (fun K hK => ?_); go_simp; refine hK _ ?_; clear hK K) | (refine wpTxt_still rfl rfl (fun K hK => ?_); go_simp; refine hK _ ?_; clear hK K))
  refine wpTxt_still rfl rfl (fun K hK => ?_)
  go_simp
  refine ⟨_, toLE_ok N _, ?_⟩
  (refine hK _ ?_; clear hK K)
  repeat (first | (refine wpTxt_pure rfl rfl (fun K hK => ?_); go_simp; refine hK _ ?_; clear hK K) | (refine wpTxt_still rfl rfl (fun K hK => ?_); go_simp; refine hK _ ?_; clear hK K))
  refine wpTxt_nil ?_
  go_wp2_with fail
  (refine wp_region_txt [] (by kernel_rfl) (by kernel_rfl) ?_; repeat (first | (refine wpTxt_pure rfl rfl (fun K hK => ?_); go_simp; refine hK _ ?_; clear hK K) | (refine wpTxt_still rfl rfl (fun K hK => ?_); go_simp; refine hK _ ?_; clear hK K)))
  (refine wpTxt_effect rfl rfl (fun K hK => ?_); go_simp; refine hK _ _ ?_; clear hK K)
  refine wpTxt_nil ?_
  have HW2 := Lib.hid ((HW1.out.cur' D3).drew)
  have Hc2 : Hid (Chg (WS Z b off n) w (w1.setCell ⟨Z, 4, none⟩ (.int .u64 D3)).drew) := Lib.hid (Hc1.out.setCell Z 4 (fun _ => .inl rfl) _).drew
  have HB2 := Lib.hid ((HB1.out.keep ((Chg.refl (Own Z) w1).own 4 (.int .u64 D3)) (fun _ _ hh => hZ hh.symm)).drew)
  generalize (w1.setCell ⟨Z, 4, none⟩ (.int .u64 D3)).drew = w2 at HW2 Hc2 HB2 ⊢
  clear c3 c4 f4 HW1 Hc1 HB1 d1 d2 d3
  have c3 := HW2.out.ma
  go_wp2_with fail
  (refine wp_region_txt [] (by kernel_rfl) (by kernel_rfl) ?_; repeat (first | (refine wpTxt_pure rfl rfl (fun K hK => ?_); go_simp; refine hK _ ?_; clear hK K) | (refine wpTxt_still rfl rfl (fun K hK => ?_); go_simp; refine hK _ ?_; clear hK K)))
  refine wpTxt_nil ?_
  have HW3 := Lib.hid HW2.out.drew
  have HB3 := Lib.hid HB2.out.drew
  have Hc3 := Lib.hid Hc2.out.drew
  generalize w2.drew = w3 at HW3 Hc3 HB3 ⊢
  clear c3 HW2 Hc2 HB2 d4 d5 d6
  have c0 := HW3.out.sl
  have c4 := HW3.out.cu
  have hD3l : D3 < 2 ^ 64 := by rw [HD3.out]; exact mixw_lt 64 cur R M Hcur.out.lt HR.out
  have hD6l : D6 < 2 ^ 64 := by rw [HD6.out]; exact mixw_lt 64 R N M HR.out HN.out.lt
  have hcall := put64_ok b (off + j) L C D3 w3.drew hD3l (by omega) (fun i hi => by obtain ⟨x, hx, -⟩ := HB3.out.cell (j + i) (by omega); exact ⟨x, by rw [Nat.add_assoc]; exact hx⟩) (fun i hi => by rw [Nat.add_assoc]; exact HB3.out.fr (j + i) (by omega))
  have Hcall := Lib.hid hcall
  have HD3l := Lib.hid hD3l
  have HD6l := Lib.hid hD6l
  clear hcall hD3l hD6l
  go_wp2_with fail
  refine wp_region_txt [100] (by kernel_rfl) (by kernel_rfl) ?_
  repeat (first | (refine wpTxt_pure rfl rfl (fun K hK => ?_); go_simp; refine hK _ ?_; clear hK K) | (refine wpTxt_still rfl rfl (fun K hK => ?_); go_simp; refine hK _ ?_; clear hK K))
  refine wpTxt_still rfl rfl (fun K hK => ?_)
  go_simp
  refine ⟨_, toLE_ok D3 _, ?_⟩
  (refine hK _ ?_; clear hK K)
  refine wpTxt_effect rfl rfl (fun K hK => ?_); go_simp
  refine Hcall.out.mono ?_
  rintro e w4 ⟨rfl, h4, hb4⟩
  have h4' := h4.undrew
  have HB4 := Lib.hid (HB3.out.put64 j D3 (by omega) h4' hb4)
  have HW4 := Lib.hid (HW3.out.keep h4' (fun x hh => hZ hh.1))
  have Hc4 := Lib.hid (Hc3.out.trans (h4'.mono (fun k x _ hh => .inr ⟨hh.1, by omega, by omega⟩)))
  clear h4 h4' hb4 c0 c4 HW3 Hc3 HB3 Hcall
  (refine hK _ _ ?_; clear hK K)
  refine wpTxt_nil ?_
  have c0 := HW4.out.sl
  have hcall := put64_ok b (off + j + 8) (L - 8) (C - 8) D6 w4.drew HD6l.out (by omega) (fun i hi => by obtain ⟨x, hx, -⟩ := HB4.out.cell (j + 8 + i) (by omega); exact ⟨x, by rw [show off + j + 8 + i = off + (j + 8 + i) by omega]; exact hx⟩) (fun i hi => by rw [show off + j + 8 + i = off + (j + 8 + i) by omega]; exact HB4.out.fr (j + 8 + i) (by omega))
  have Hcall := Lib.hid hcall
  clear hcall
  go_wp2_with fail
  refine wp_region_txt [100] (by kernel_rfl) (by kernel_rfl) ?_
  repeat (first | (refine wpTxt_pure rfl rfl (fun K hK => ?_); go_simp; refine hK _ ?_; clear hK K) | (refine wpTxt_still rfl rfl (fun K hK => ?_); go_simp; refine hK _ ?_; clear hK K))
  refine wpTxt_still rfl rfl (fun K hK => ?_)
  go_simp
  refine ⟨_, toLE_ok D6 _, ?_⟩
  (refine hK _ ?_; clear hK K)
  refine wpTxt_effect rfl rfl (fun K hK => ?_); go_simp
  refine Hcall.out.mono ?_
  rintro e w5 ⟨rfl, h5, hb5⟩
  have h5' := h5.undrew
  have hp2 := HB4.out.put64 (j + 8) D6 (by omega) (h5'.mono (fun k x _ hh => ⟨hh.1, by omega, by omega⟩)) (by rw [← Nat.add_assoc]; exact hb5)
  rw [HD3.out, HD6.out, HRe.out, HM.out, show 8 * (j + 8) = 8 * j + 64 by omega, paste_two 64 (8 * j) rd cur N V β (by omega) HV.out Hcur.out.tb (fun t ht => by have := HN.out.tb t ht; rwa [show 8 * (j + 8) + t = 8 * j + 64 + t by omega] at this)] at hp2
  have HB5 := Lib.hid hp2
  have hW5 := (HW4.out.keep h5' (fun x hh => hZ hh.1))
  have Hc5 := Lib.hid (Hc4.out.trans (h5'.mono (fun k x _ hh => .inr ⟨hh.1, by omega, by omega⟩)))
  have c0' := hW5.sl
  have c4' := hW5.cu
  have f0' := hW5.fr 0 (by omega)
  have f4' := hW5.fr 4 (by omega)
  have hW6 := (hW5.cur' D6).sl' (j + 8) (L - 8) (C - 8)
  rw [show off + (j + 8) = off + j + 8 by omega] at hW6
  have hc6 := (Hc5.out.setCell Z 4 (fun _ => .inl rfl) (.int .u64 D6)).setCell Z 0 (fun _ => .inl rfl) (.slice (some ⟨b, off + j + 8, none⟩) (L - 8) (C - 8))
  have hB6 := HB5.out.keep (((Chg.refl (Own Z) w5).own 4 (.int .u64 D6)).own 0 (.slice (some ⟨b, off + j + 8, none⟩) (L - 8) (C - 8))) (fun _ _ hh => hZ hh.symm)
  have HW6 := Lib.hid hW6
  have Hc6 := Lib.hid hc6
  have HB6 := Lib.hid hB6
  clear h5 h5' hb5 hp2 hW5 hW6 hc6 hB6 c0 HW4 Hc4 HB4 Hcall HB5 Hc5
  (refine hK _ _ ?_; clear hK K)
  refine wpTxt_nil ?_
  go_wp2_with fail
  go_end0
  rw [← HM.out]
  refine ⟨rfl, Hc6.out, HB6.out, D6, HW6.out, HD6l.out, fun t ht => ?_⟩
  rw [HD6.out, HRe.out, HM.out, paste_next 64 (8 * j) rd cur N V β (by omega) HV.out Hcur.out.tb (fun t ht => by have := HN.out.tb t ht; rwa [show 8 * (j + 8) + t = 8 * j + 64 + t by omega] at this) t ht]
  congr 1
end Go.Proofs.YtameepdbnnaaaaaGreatDoor
/- The writer of a bitmap by words: made; the next byte. -/
namespace Go.Proofs.YtameepdbnnaaaaaGreatDoor
open Go Go.RowKit
set_option maxRecDepth 100000 in
set_option maxHeartbeats 1000000 in
theorem newWW_ok (b off n q rd cap length : Nat) (β : Nat → Bool) (w : World) (hB : Bmp w b off n β) (hr1 : 1 ≤ rd) (hr : rd < 8) (h1 : 1 ≤ length) (hl2 : length ≤ 1000000000) (hn : q + (rd + length + 7) / 8 ≤ n) (hnc : n ≤ cap) (hcap : cap ≤ 1000000000000) :
    Calls Tryz.prog 92 #[.slice (some ⟨b, off, none⟩) n cap, .int .i64 (8 * q + rd : Nat), .int .i64 length] w fun e w' => e = .returned (.pointer (some ⟨w.heap.size, 0, none⟩)) ∧ Chg Nix w w' ∧ w.heap.size < w'.heap.size ∧ ∃ cur, WW w' w.heap.size b off rd q (n - q) (cap - q) (2 ^ rd - 1) length cur ∧ Lo8 β (8 * q) cur ∧ (64 ≤ length → Num64 β (8 * q) cur) := by
  obtain ⟨o, ho⟩ : ∃ o, o = 8 * q + rd := ⟨_, rfl⟩
  rw [← ho]
  have e1 : (o : Int) / 8 = q := by omega
  have e2 : (o : Int) % 8 = rd := by omega
  have hqt : ((q : Nat) : Int).toNat = q := by omega
  have hqc : ¬ cap = q := by omega
  have hwr : IntKind.u64.wrap (rd : Int) = rd := IntWalk.u64_in _ (by omega)
  have hrt : ((rd : Nat) : Int).toNat = rd := by omega
  have hp : (2 : Nat) ^ rd ≤ 128 := pow8 rd (by omega)
  have hp0 : 1 ≤ (2 : Nat) ^ rd := Nat.two_pow_pos rd
  obtain ⟨P, hP⟩ : ∃ P, P = 2 ^ rd := ⟨_, rfl⟩
  have hP2 : (2 : Int) ^ rd = (P : Nat) := by rw [hP]; norm_cast
  rw [← hP] at hp hp0
  have hwP : IntKind.u64.wrap (P : Int) = P := IntWalk.u64_in _ (by omega)
  have hP1 : (P : Int) - 1 = (P - 1 : Nat) := by omega
  have HP1 := Lib.hid hP1
  have hwP1 : IntKind.u64.wrap ((P : Int) - 1) = (P : Int) - 1 := IntWalk.u64_in _ (by omega)
  have hrd0 : ¬ (rd : Int) = 0 := by omega
  have hbl : b < w.heap.size := by obtain ⟨x, hx, -⟩ := hB.cell q (by omega); exact World.block_lt_of_cell? w _ hx
  have HB := Lib.hid hB
  have HP := Lib.hid hP
  clear hB hP ho hP1
  go_enter Tryz.func92, Tryz.ntmps92
  go_upto_if 26 with fail
  rw [HP1.out]
  have hW : WW (w.alloc (Obj.cells #[.slice (some ⟨b, off + q, none⟩) (n - q) (cap - q), .int .i64 rd, .int .i64 length, .int .u64 (P - 1 : Nat), .int .u64 0] 151)) w.heap.size b off rd q (n - q) (cap - q) (P - 1) length 0 := ⟨by simp, by simp, by simp, by simp, by simp, fun k _ => by simp⟩
  have hc : Chg Nix w (w.alloc (Obj.cells #[.slice (some ⟨b, off + q, none⟩) (n - q) (cap - q), .int .i64 rd, .int .i64 length, .int .u64 (P - 1 : Nat), .int .u64 0] 151)) := Chg.new _ _
  obtain ⟨Z, hZ⟩ : ∃ Z, Z = w.heap.size := ⟨_, rfl⟩
  rw [← hZ] at hW hbl ⊢
  have HZ := Lib.hid hZ
  generalize (w.alloc (Obj.cells #[.slice (some ⟨b, off + q, none⟩) (n - q) (cap - q), .int .i64 rd, .int .i64 length, .int .u64 (P - 1 : Nat), .int .u64 0] 151)) = w2 at hW hc ⊢
  have HW := Lib.hid hW
  have Hc := Lib.hid hc
  have HB2 := Lib.hid (HB.out.keep hc (fun _ _ h => h))
  have c0 := HW.out.sl
  have c1 := HW.out.of
  have c2 := HW.out.le
  have c4 := HW.out.cu
  have f4 := HW.out.fr 4 (by omega)
  have hown : ∀ (w' : World) (v : Value), Chg Nix w w' → Chg Nix w (w'.setCell ⟨Z, 4, none⟩ v) := fun w' v h => ((h.mono (S' := fun k _ => k = Z) (fun _ _ _ h => h.elim)).setCell Z 4 (fun _ => rfl) _).mono (fun k x hk hh => by have := HZ.out; omega)
  have Hown := Lib.hid hown
  clear hZ hW hc hown
  by_cases h64 : 64 ≤ length
  · have hcall := leBits_ok b off n q (n - q) (cap - q) β w2.drew HB2.out.drew (by omega) (by omega)
    have Hcall := Lib.hid hcall; clear hcall
    have h64' : (64 : Int) ≤ length := by omega
    go_wp2_with fail
    refine wp_region_txt [100] (by kernel_rfl) (by kernel_rfl) ?_
    repeat (first | (refine wpTxt_pure rfl rfl (fun K hK => ?_); go_simp; refine hK _ ?_; clear hK K) | (refine wpTxt_still rfl rfl (fun K hK => ?_); go_simp; refine hK _ ?_; clear hK K))
    refine wpTxt_effect rfl rfl (fun K hK => ?_); go_simp
    refine Hcall.out.mono ?_
    rintro e w5 ⟨V, rfl, hV, h5⟩
    have hW5 := HW.out.keep h5.undrew (fun _ h => h)
    have c4' := hW5.cu
    have f4' := hW5.fr 4 (by omega)
    have HW6 := Lib.hid (hW5.cur' V)
    have Hc6 := Lib.hid (Hown.out _ (.int .u64 V) (Hc.out.trans h5.undrew))
    have HV := Lib.hid hV
    clear h5 hW5 hV
    (refine hK _ _ ?_; clear hK K)
    repeat (first | (refine wpTxt_pure rfl rfl (fun K hK => ?_); go_simp; refine hK _ ?_; clear hK K) | (refine wpTxt_still rfl rfl (fun K hK => ?_); go_simp; refine hK _ ?_; clear hK K))
    refine wpTxt_still rfl rfl (fun K hK => ?_)
    go_simp
    refine ⟨_, toLE_ok V _, ?_⟩
    (refine hK _ ?_; clear hK K)
    repeat (first | (refine wpTxt_pure rfl rfl (fun K hK => ?_); go_simp; refine hK _ ?_; clear hK K) | (refine wpTxt_still rfl rfl (fun K hK => ?_); go_simp; refine hK _ ?_; clear hK K))
    (refine wpTxt_effect rfl rfl (fun K hK => ?_); go_simp; refine hK _ _ ?_; clear hK K)
    refine wpTxt_nil ?_
    go_wp2_with fail
    go_ret
    rw [← HZ.out, ← HP.out]
    exact ⟨rfl, Hc6.out, HW6.out.lt, V, HW6.out, HV.out.lo8, fun _ => HV.out⟩
  · have h64' : ¬ (64 : Int) ≤ length := by omega
    have hl0 : (0 : Int) < length := by omega
    obtain ⟨x, hx, hx8, hxt⟩ := HB2.out.cell q (by omega)
    have hL0 : 0 < n - q := by omega
    have hcall := setLSB_ok Z 4 0 x w2.drew (by decide) hx8 c4 f4
    have Hcall := Lib.hid hcall
    have HW6 := Lib.hid (HW.out.cur' (lsb 0 x))
    have Hc6 := Lib.hid (Hown.out _ (.int .u64 (lsb 0 x : Nat)) Hc.out)
    have Hx := Lib.hid hxt
    clear hcall hxt
    go_wp2_with fail
    (refine wp_region_txt [] (by kernel_rfl) (by kernel_rfl) ?_; repeat (first | (refine wpTxt_pure rfl rfl (fun K hK => ?_); go_simp; refine hK _ ?_; clear hK K) | (refine wpTxt_still rfl rfl (fun K hK => ?_); go_simp; refine hK _ ?_; clear hK K)))
    refine wpTxt_effect rfl rfl (fun K hK => ?_); go_simp
    refine Hcall.out.mono ?_
    rintro e w5 ⟨rfl, rfl⟩
    (refine hK _ _ ?_; clear hK K)
    repeat (first | (refine wpTxt_pure rfl rfl (fun K hK => ?_); go_simp; refine hK _ ?_; clear hK K) | (refine wpTxt_still rfl rfl (fun K hK => ?_); go_simp; refine hK _ ?_; clear hK K))
    refine wpTxt_nil ?_
    go_wp2_with fail
    go_ret
    rw [← HZ.out, ← HP.out]
    exact ⟨rfl, Hc6.out.drew, HW6.out.drew.lt, lsb 0 x, HW6.out.drew, ⟨lsb_lt 0 x (by decide) hx8, fun t ht => by rw [lsb_tb _ _ _ hx8 ht, Hx.out t ht]⟩, fun h => absurd h h64⟩
end Go.Proofs.YtameepdbnnaaaaaGreatDoor
