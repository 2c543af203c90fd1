/- Part 7 of the proof: the texts Q0, BO, M2, F2, joined. What each proves stands ahead of it. -/
import Derived.Test.YtameepdbnnaaaaaGreatDoorKD
import Derived.Outline
import Derived.Test.YtameepdbnnaaaaaGreatDoorKB
import Derived.Lib.Zigzag
set_option linter.unusedVariables false
set_option linter.unusedSimpArgs false
/- Bytes set to a value; little-endian numbers that are cut off. -/
namespace Go.Proofs.YtameepdbnnaaaaaGreatDoor
open Go Go.RowKit
theorem leV_zero (D : Nat → Nat) : ∀ (m p : Nat), (∀ j, p ≤ j → j < p + m → D j = 0) → leV D p m = 0
  | 0, p, h => rfl
  | m + 1, p, h => by rw [leV, leV_zero D m (p + 1) (fun j h1 h2 => h j (by omega) (by omega)), h p (Nat.le_refl _) (by omega)]
theorem leV_cut (D E : Nat → Nat) : ∀ (n m o p : Nat), n ≤ m → (∀ j, j < n → E (p + j) = D (o + j)) → (∀ j, n ≤ j → j < m → E (p + j) = 0) → leV E p m = leV D o n
  | 0, m, o, p, h, h1, h2 => by
    refine leV_zero E m p (fun j hj hm => ?_)
    have := h2 (j - p) (by omega) (by omega)
    rwa [show p + (j - p) = j by omega] at this
  | n + 1, 0, o, p, h, h1, h2 => by omega
  | n + 1, m + 1, o, p, h, h1, h2 => by
    have h0 := h1 0 (by omega)
    rw [Nat.add_zero, Nat.add_zero] at h0
    rw [leV, leV, h0, leV_cut D E n m (o + 1) (p + 1) (by omega) (fun j hj => by have := h1 (j + 1) (by omega); rwa [show p + (j + 1) = p + 1 + j by omega, show o + (j + 1) = o + 1 + j by omega] at this) (fun j hj hm => by have := h2 (j + 1) (by omega) (by omega); rwa [show p + (j + 1) = p + 1 + j by omega] at this)]
set_option maxRecDepth 100000 in
set_option maxHeartbeats 1000000 in
theorem memsetGo_ok (b off len cap v : Nat) (w : World) (hlen : len ≤ 1000000000000000000) (hc : ∀ j, j < len → ∃ u, w.cell? ⟨b, off + j, none⟩ = some u) (hf : ∀ j, j < len → w.frozen? ⟨b, off + j, none⟩ = false) :
    Calls Tryz.prog 52 #[.slice (some ⟨b, off, none⟩) len cap, .int .u8 v] w fun e w' => e = .returned (.tuple #[]) ∧ Chg (fun k x => k = b ∧ off ≤ x ∧ x < off + len) w w' ∧ Bytes w' b off len (fun _ => v) := by
  have Hc := Lib.hid hc; clear hc
  have Hf := Lib.hid hf; clear hf
  go_enter Tryz.func52, Tryz.ntmps52
  go_wp2_with fail
  go_loopw [4] (fun i wx => ∃ k : Nat, k ≤ len ∧ i = .int .i64 k ∧ Chg (fun k x => k = b ∧ off ≤ x ∧ x < off + len) w wx ∧ (∀ j, j < len → ∃ u, wx.cell? ⟨b, off + j, none⟩ = some u) ∧ Bytes wx b off k (fun _ => v)) (fun i _ => len - (intOf i).toNat)
  case atStart => exact ⟨0, Nat.zero_le _, rfl, Chg.refl _ _, Hc.out, fun j hj => by omega⟩
  case round =>
    obtain ⟨k, hk, rfl, h1, h2, h3⟩ := hrel
    by_cases hlt : k < len
    · obtain ⟨u, hu⟩ := h2 k hlt
      obtain ⟨u0, hu0⟩ := Hc.out k hlt
      have hfz := (h1.frozen b (off + k) (World.block_lt_of_cell? w _ hu0)).trans (Hf.out k hlt)
      have H1 := Lib.hid h1; clear h1
      have H2 := Lib.hid h2; clear h2
      have H3 := Lib.hid h3; clear h3
      clear hu0 u0
      go_wp2_with fail
      go_roundw
      case rel =>
        refine ⟨k + 1, by omega, by go_num, H1.out.setCell _ _ (fun _ => ⟨rfl, by omega, by omega⟩) _, fun j hj => cell_is _ (H2.out j hj), fun j hj => ?_⟩
        by_cases hjk : j = k
        · subst hjk; exact World.cell?_setCell_same _ _ _ hu
        · exact cell_ne _ (H3.out j (by omega)) (by omega)
      case measure => simp [intOf]; omega
    · have : k = len := by omega
      subst this
      have H1 := Lib.hid h1; clear h1
      have H2 := Lib.hid h2; clear h2
      have H3 := Lib.hid h3; clear h3
      go_wp2_with fail
      go_end0
      exact ⟨rfl, H1.out, H3.out⟩
set_option maxRecDepth 100000 in
set_option maxHeartbeats 1000000 in
theorem memset_ok (b off len cap v : Nat) (w : World) (hlen : len ≤ 1000000000000000000) (hc : ∀ j, j < len → ∃ u, w.cell? ⟨b, off + j, none⟩ = some u) (hf : ∀ j, j < len → w.frozen? ⟨b, off + j, none⟩ = false) :
    Calls Tryz.prog 44 #[.slice (some ⟨b, off, none⟩) len cap, .int .u8 v] w fun e w' => e = .returned (.tuple #[]) ∧ Chg (fun k x => k = b ∧ off ≤ x ∧ x < off + len) w w' ∧ Bytes w' b off len (fun _ => v) := by
  have H := Lib.hid (memsetGo_ok b off len cap v w hlen hc hf)
  clear hc hf
  go_enter Tryz.func44, Tryz.ntmps44
  go_wp2_with fail
  refine H.out.mono ?_
  rintro e w1 ⟨rfl, h1, h2⟩
  have H1 := Lib.hid h1; clear h1
  have H2 := Lib.hid h2; clear h2
  go_wp2_with fail
  go_end0
  exact ⟨rfl, H1.out, H2.out⟩
set_option maxRecDepth 100000 in
set_option maxHeartbeats 1000000 in
theorem memsetGo_nil (pp : Option Addr) (cap v : Nat) (w : World) :
    Calls Tryz.prog 52 #[.slice pp 0 cap, .int .u8 v] w fun e w' => e = .returned (.tuple #[]) ∧ w = w' := by
  go_enter Tryz.func52, Tryz.ntmps52
  go_wp2_with fail
  refine wp_loop_rounds 1 ?_
  rw [rounds_succ]
  go_wp2
  go_end0
  exact ⟨rfl, rfl⟩
set_option maxRecDepth 100000 in
set_option maxHeartbeats 1000000 in
theorem memset_nil (pp : Option Addr) (cap v : Nat) (w : World) :
    Calls Tryz.prog 44 #[.slice pp (0 : Nat) cap, .int .u8 v] w fun e w' => e = .returned (.tuple #[]) ∧ w = w' := by
  go_enter Tryz.func44, Tryz.ntmps44
  go_wp2_with fail
  refine (memsetGo_nil pp cap v w).mono ?_
  rintro e w1 ⟨rfl, rfl⟩
  go_wp2_with fail
  go_end0
  exact ⟨rfl, rfl⟩
end Go.Proofs.YtameepdbnnaaaaaGreatDoor
/- Bits of a bitmap that are set from one place to another. -/
namespace Go.Proofs.YtameepdbnnaaaaaGreatDoor
open Go Go.RowKit
def fl (v : Bool) : Nat := if v then 255 else 0
theorem fl_lt (v : Bool) : fl v < 256 := by cases v <;> decide
theorem fl_tb (v : Bool) (t : Nat) (h : t < 8) : (fl v).testBit t = v := tb_fill v ⟨t, h⟩
set_option maxRecDepth 100000 in
set_option maxHeartbeats 1000000 in
theorem setBits_one (b off n cap st len q : Nat) (v : Bool) (β : Nat → Bool) (w : World) (hT : Tabs w) (hB : Bmp w b off n β) (h1 : 1 ≤ len) (hq : st / 8 = q) (he : (st + len) / 8 = q) (hi : st + len ≤ 8 * n) (hn : n ≤ 1000000000) (hnc : n ≤ cap) :
    Calls Tryz.prog 39 #[.slice (some ⟨b, off, none⟩) n cap, .int .i64 st, .int .i64 len, .bool v] w fun e w' => e = .returned (.tuple #[]) ∧ Chg (RowS b off n) w w' ∧ Bmp w' b off n (fillB β st len v) := by
  obtain ⟨r, hr⟩ : ∃ r, r = st % 8 := ⟨_, rfl⟩
  obtain ⟨s, hs⟩ : ∃ s, s = (st + len) % 8 := ⟨_, rfl⟩
  have hs1 : r < s := by omega
  obtain ⟨x, hx, hx8, hxb⟩ := hB.cell q (by omega)
  have hf := hB.fr q (by omega)
  have tr := hT.pr r (by omega)
  have ts := hT.tr s (by omega)
  have hrb : ∀ t, t < 8 → (2 ^ r - 1).testBit t = decide (t < r) := fun t ht => tb_pre ⟨r, by omega⟩ ⟨t, ht⟩
  have hsb : ∀ t, t < 8 → (256 - 2 ^ s).testBit t = decide (s ≤ t) := fun t ht => tb_tra ⟨s, by omega⟩ ⟨t, ht⟩
  have hp1 : 2 ^ r - 1 < 256 := by have := pow8 r (by omega); omega
  have hp2 : 256 - 2 ^ s < 256 := by have := Nat.two_pow_pos s; omega
  obtain ⟨A, hA⟩ : ∃ A, A = 2 ^ r - 1 := ⟨_, rfl⟩
  obtain ⟨B, hBB⟩ : ∃ B, B = 256 - 2 ^ s := ⟨_, rfl⟩
  rw [← hA] at tr hrb hp1
  rw [← hBB] at ts hsb hp2
  have hor := u8_or_nat A B hp1 hp2
  obtain ⟨M, hM⟩ : ∃ M, M = A ||| B := ⟨_, rfl⟩
  have hM8 : M < 256 := by rw [hM]; exact or_lt A B hp1 hp2
  have hMb : ∀ t, t < 8 → M.testBit t = decide (t < r ∨ s ≤ t) := by
    intro t ht
    rw [hM, Nat.testBit_or, hrb t ht, hsb t ht]; simp
  rw [← hM] at hor
  obtain ⟨F, hF⟩ : ∃ F, F = fl v := ⟨_, rfl⟩
  have hF8 : F < 256 := by rw [hF]; exact fl_lt v
  have hand := u8_and_nat x M hx8 hM8
  have hnot := u8_andNot_nat F M hF8 hM8
  have hor2 := u8_or_nat (x &&& M) (F &&& (255 - M)) (and_lt x M hx8) (and_lt F _ hF8)
  have hb1 := hB.byte q (x &&& M) (and_lt x M hx8)
  have hb2 := (hb1.byte q (mix x F M) (mix_lt x F M hx8 hF8)).congr (γ := fillB β st len v) (by
    intro i hi8
    unfold byt fillB
    by_cases e : i / 8 = q
    · rw [if_pos e, mix_tb x F M _ hM8 (by omega), hMb _ (by omega), hxb _ (by omega), hF, fl_tb _ _ (by omega)]
      by_cases e2 : st ≤ i ∧ i < st + len
      · rw [if_pos e2, if_neg]
        simp only [decide_eq_true_eq]; omega
      · rw [if_neg e2, if_pos]
        · congr 1; omega
        · simp only [decide_eq_true_eq]; omega
    · rw [if_neg e, if_neg e, if_neg (by omega)])
  obtain ⟨X, hX⟩ : ∃ X, X = x &&& M := ⟨_, rfl⟩
  obtain ⟨N, hN⟩ : ∃ N, N = F &&& (255 - M) := ⟨_, rfl⟩
  obtain ⟨Y, hY⟩ : ∃ Y, Y = mix x F M := ⟨_, rfl⟩
  have hYe : (x &&& M) ||| (F &&& (255 - M)) = Y := hY.symm
  rw [hYe, ← hX, ← hN] at hor2
  rw [← hX] at hand hb2
  rw [← hN] at hnot
  rw [← hY] at hb2
  have e1 : (st : Int) / 8 = q := by omega
  have e2 : ((st : Int) + len) / 8 = q := by omega
  have e3 : (st : Int) % 8 = r := by omega
  have e4 : ((st : Int) + len) % 8 = s := by omega
  have hqn : q < n := by omega
  have hqt : ((q : Nat) : Int).toNat = q := by omega
  have hrt : ((r : Nat) : Int).toNat = r := by omega
  have hst : ((s : Nat) : Int).toNat = s := by omega
  have r0 : 0 ≤ (r : Int) := by omega
  have r8 : (r : Int) < 8 := by omega
  have s0 : 0 ≤ (s : Int) := by omega
  have s8 : (s : Int) < 8 := by omega
  have hl0 : ¬ (len : Int) = 0 := by omega
  have hs0 : ¬ (s : Int) = 0 := by omega
  have hsb1 : (st : Int) + len ≤ 9000000000 := by omega
  have hu := World.cell?_setCell_same w ⟨b, off + q, none⟩ (.int .u8 X) hx
  have Hb2 := Lib.hid hb2
  clear hT hB hb1 hb2 hq he hr hs hxb hrb hsb hMb hA hBB hM hX hN hY hYe
  have Hs1 := Lib.hid hs1; clear hs1
  go_enter Tryz.func39, Tryz.ntmps39
  have hc : Chg (RowS b off n) w ((w.setCell ⟨b, off + q, none⟩ (.int .u8 X)).setCell ⟨b, off + q, none⟩ (.int .u8 Y)) := ((Chg.refl _ _).setCell _ _ (fun _ => ⟨rfl, by omega, by omega⟩) _).setCell _ _ (fun _ => ⟨rfl, by omega, by omega⟩) _
  have Hc := Lib.hid hc; clear hc
  cases v
  · obtain rfl : F = 0 := hF
    simp only [Int.natCast_zero] at hnot
    go_wp2_with fail
    refine bodyPost_ret (results_none rfl _ _ _) rfl ?_
    exact ⟨rfl, Hc.out, Hb2.out⟩
  · obtain rfl : F = 255 := hF
    have hnot' : bits .andNot .u8 255 (M : Int) = N := hnot
    clear hnot
    go_wp2_with fail
    refine bodyPost_ret (results_none rfl _ _ _) rfl ?_
    exact ⟨rfl, Hc.out, Hb2.out⟩
theorem Bmp.setB {w w' : World} {b off n : Nat} {β : Nat → Bool} (h : Bmp w b off n β) (q m : Nat) (hm : q + m ≤ n) (v : Bool) (hc : Chg (fun k x => k = b ∧ off + q ≤ x ∧ x < off + q + m) w w') (hb : Bytes w' b (off + q) m (fun _ => fl v)) : Bmp w' b off n (fillB β (8 * q) (8 * m) v) := by
  refine ⟨fun j hj => ?_, fun j hj => let ⟨x, h1, h2⟩ := h.cell j hj; (hc.frozen _ _ (World.block_lt_of_cell? w _ h1)).trans (h.fr j hj)⟩
  by_cases hjq : q ≤ j ∧ j < q + m
  · have := hb (j - q) (by omega)
    rw [show off + q + (j - q) = off + j by omega] at this
    refine ⟨fl v, this, fl_lt v, fun t ht => ?_⟩
    rw [fl_tb v t ht]; unfold fillB; rw [if_pos (by omega)]
  · obtain ⟨x, h1, h2, h3⟩ := h.cell j hj
    refine ⟨x, hc.keep h1 (by rintro ⟨-, h⟩; omega), h2, fun t ht => ?_⟩
    rw [h3 t ht]; unfold fillB; rw [if_neg (by omega)]
set_option maxRecDepth 100000 in
set_option maxHeartbeats 1000000 in
theorem setBits_two (b off n cap st len q e : Nat) (v : Bool) (β : Nat → Bool) (w : World) (hT : Tabs w) (hgb : 8 < b) (hB : Bmp w b off n β) (hq : st / 8 = q) (he : (st + len) / 8 = e) (hqe : q < e) (hi : st + len ≤ 8 * n) (hn : n ≤ 1000000000) (hnc : n ≤ cap) :
    Calls Tryz.prog 39 #[.slice (some ⟨b, off, none⟩) n cap, .int .i64 st, .int .i64 len, .bool v] w fun e w' => e = .returned (.tuple #[]) ∧ Chg (RowS b off n) w w' ∧ Bmp w' b off n (fillB β st len v) := by
  obtain ⟨r, hr⟩ : ∃ r, r = st % 8 := ⟨_, rfl⟩
  obtain ⟨s, hs⟩ : ∃ s, s = (st + len) % 8 := ⟨_, rfl⟩
  obtain ⟨x, hx, hx8, hxb⟩ := hB.cell q (by omega)
  have hf := hB.fr q (by omega)
  have tr := hT.pr r (by omega)
  have ts := hT.tr s (by omega)
  have hrb : ∀ t, t < 8 → (2 ^ r - 1).testBit t = decide (t < r) := fun t ht => tb_pre ⟨r, by omega⟩ ⟨t, ht⟩
  have hsb : ∀ t, t < 8 → (256 - 2 ^ s).testBit t = decide (s ≤ t) := fun t ht => tb_tra ⟨s, by omega⟩ ⟨t, ht⟩
  have hp1 : 2 ^ r - 1 < 256 := by have := pow8 r (by omega); omega
  have hp2 : 256 - 2 ^ s < 256 := by have := Nat.two_pow_pos s; omega
  obtain ⟨M, hM⟩ : ∃ M, M = 2 ^ r - 1 := ⟨_, rfl⟩
  obtain ⟨B, hBB⟩ : ∃ B, B = 256 - 2 ^ s := ⟨_, rfl⟩
  rw [← hM] at tr hrb hp1
  rw [← hBB] at ts hsb hp2
  obtain ⟨F, hF⟩ : ∃ F, F = fl v := ⟨_, rfl⟩
  have hF8 : F < 256 := by rw [hF]; exact fl_lt v
  have hand := u8_and_nat x M hx8 hp1
  have hnot := u8_andNot_nat F M hF8 hp1
  have hor2 := u8_or_nat (x &&& M) (F &&& (255 - M)) (and_lt x M hx8) (and_lt F _ hF8)
  have hnotB := u8_andNot_nat F B hF8 hp2
  have hb1 := hB.byte q (x &&& M) (and_lt x M hx8)
  have hb2 := (hb1.byte q (mix x F M) (mix_lt x F M hx8 hF8)).congr (γ := fillB β st (8 * (q + 1) - st) v) (by
    intro i hi8
    unfold byt fillB
    by_cases e : i / 8 = q
    · rw [if_pos e, mix_tb x F M _ hp1 (by omega), hrb _ (by omega), hxb _ (by omega), hF, fl_tb _ _ (by omega)]
      by_cases e2 : st ≤ i ∧ i < st + (8 * (q + 1) - st)
      · rw [if_pos e2, if_neg]
        simp only [decide_eq_true_eq]; omega
      · rw [if_neg e2, if_pos]
        · congr 1; omega
        · simp only [decide_eq_true_eq]; omega
    · rw [if_neg e, if_neg e, if_neg (by omega)])
  obtain ⟨X, hX⟩ : ∃ X, X = x &&& M := ⟨_, rfl⟩
  obtain ⟨N, hN⟩ : ∃ N, N = F &&& (255 - M) := ⟨_, rfl⟩
  obtain ⟨NB, hNB⟩ : ∃ N, N = F &&& (255 - B) := ⟨_, rfl⟩
  obtain ⟨Y, hY⟩ : ∃ Y, Y = mix x F M := ⟨_, rfl⟩
  have hYe : (x &&& M) ||| (F &&& (255 - M)) = Y := hY.symm
  rw [hYe, ← hX, ← hN] at hor2
  rw [← hX] at hand hb2
  rw [← hN] at hnot
  rw [← hNB] at hnotB
  rw [← hY] at hb2
  have e1 : (st : Int) / 8 = q := by omega
  have e2 : ((st : Int) + len) / 8 = e := by omega
  have e3 : (st : Int) % 8 = r := by omega
  have e4 : ((st : Int) + len) % 8 = s := by omega
  have hqn : q < n := by omega
  have hqt : ((q : Nat) : Int).toNat = q := by omega
  have het : ((e : Nat) : Int).toNat = e := by omega
  have hrt : ((r : Nat) : Int).toNat = r := by omega
  have hst : ((s : Nat) : Int).toNat = s := by omega
  have r0 : 0 ≤ (r : Int) := by omega
  have r8 : (r : Int) < 8 := by omega
  have s0 : 0 ≤ (s : Int) := by omega
  have s8 : (s : Int) < 8 := by omega
  have hl0 : ¬ (len : Int) = 0 := by omega
  have hqe' : ¬ (e : Int) = q := by omega
  have hsb1 : (st : Int) + len ≤ 9000000000 := by omega
  have hu := World.cell?_setCell_same w ⟨b, off + q, none⟩ (.int .u8 X) hx
  have hc : Chg (RowS b off n) w ((w.setCell ⟨b, off + q, none⟩ (.int .u8 X)).setCell ⟨b, off + q, none⟩ (.int .u8 Y)) := ((Chg.refl _ _).setCell _ _ (fun _ => ⟨rfl, by omega, by omega⟩) _).setCell _ _ (fun _ => ⟨rfl, by omega, by omega⟩) _
  have HT := Lib.hid (hT.keep hc (by rintro k y ⟨rfl, -⟩; exact hgb))
  have Hc := Lib.hid hc
  have Hb2 := Lib.hid hb2
  have Hsb := Lib.hid hsb
  have HF := Lib.hid hF
  have HNB := Lib.hid hNB
  have Hq := Lib.hid hq
  have He := Lib.hid he
  have Hs := Lib.hid hs
  have HBB := Lib.hid hBB
  clear hT hB hb1 hb2 hq he hr hs hxb hrb hsb hBB hM hX hN hY hYe hc hF hNB
  have hF0 : (if v then (.int .u8 255 : Value) else .int .u8 0) = .int .u8 F := by rw [HF.out]; cases v <;> rfl
  go_enter Tryz.func39, Tryz.ntmps39
  go_upto_if 22 with fail
  go_cut [10] (fun z wx => z = .int .u8 F ∧ w = wx)
  case first =>
    cases v
    · have : F = 0 := HF.out
      subst this
      go_wp2_with fail
      go_meet
      exact ⟨rfl, rfl⟩
    · have : F = 255 := HF.out
      subst this
      go_wp2_with fail
      go_meet
      exact ⟨rfl, rfl⟩
  case rest =>
  obtain ⟨rfl, rfl⟩ := hcut
  clear hF0
  go_upto_if 82 with fail
  go_cut [] (fun wx => Chg (RowS b off n) w wx ∧ Bmp wx b off n (fillB β st (8 * e - st) v))
  case first =>
    by_cases hbig : q + 1 < e
    · have hbig' : (2 : Int) < (e : Int) + 1 - q := by omega
      have hset := memset_ok b (off + (q + 1)) (e - (q + 1)) (cap - (q + 1)) F _ (by omega) (fun j hj => by
        obtain ⟨y, hy, -⟩ := Hb2.out.cell (q + 1 + j) (by have := He.out; omega)
        exact ⟨_, by rwa [show off + (q + 1) + j = off + (q + 1 + j) by omega]⟩) (fun j hj => by
        have := Hb2.out.fr (q + 1 + j) (by have := He.out; omega)
        rwa [show off + (q + 1) + j = off + (q + 1 + j) by omega])
      have Hset := Lib.hid hset; clear hset
      have hecap : e ≤ cap := by have := He.out; omega
      go_wp2_with fail
      refine Hset.out.mono ?_
      rintro e1 w2 ⟨rfl, h1, h2⟩
      rw [HF.out] at h2
      have h3 := (Hb2.out.setB (q + 1) (e - (q + 1)) (by have := He.out; omega) v (h1.mono (fun k x _ h => h)) h2).congr (γ := fillB β st (8 * e - st) v) (by
        intro i hi8
        unfold fillB
        have := Hq.out
        by_cases c1 : 8 * (q + 1) ≤ i ∧ i < 8 * (q + 1) + 8 * (e - (q + 1))
        · rw [if_pos c1, if_pos (by omega)]
        · rw [if_neg c1]
          by_cases c2 : st ≤ i ∧ i < st + (8 * (q + 1) - st)
          · rw [if_pos c2, if_pos (by omega)]
          · rw [if_neg c2, if_neg (by omega)])
      have h4 := Hc.out.trans (h1.mono (S' := RowS b off n) (fun k x _ h => ⟨h.1, by have := h.2; omega, by have := h.2; have := He.out; omega⟩))
      have H3 := Lib.hid h3; clear h3
      have H4 := Lib.hid h4; clear h4 h1 h2
      go_wp2_with fail
      go_meet
      exact ⟨H4.out, H3.out⟩
    · have hbig' : ¬ (2 : Int) < (e : Int) + 1 - q := by omega
      go_wp2_with fail
      go_meet
      have : e = q + 1 := by omega
      subst this
      exact ⟨Hc.out, Hb2.out⟩
  case rest =>
  obtain ⟨h1, h2⟩ := hcut
  by_cases hz : s = 0
  · have hz' : (s : Int) = 0 := by omega
    have h3 := h2.congr (γ := fillB β st len v) (by
      intro i hi8
      have := He.out; have := Hs.out
      unfold fillB
      by_cases c1 : st ≤ i ∧ i < st + len
      · rw [if_pos c1, if_pos (by omega)]
      · rw [if_neg c1, if_neg (by omega)])
    have H1 := Lib.hid h1; clear h1
    have H3 := Lib.hid h3; clear h3 h2
    go_wp2_with fail
    refine bodyPost_ret (results_none rfl _ _ _) rfl ?_
    exact ⟨rfl, H1.out, H3.out⟩
  · have hz' : ¬ (s : Int) = 0 := by omega
    have hen : e < n := by have := He.out; have := Hs.out; omega
    obtain ⟨y, hy, hy8, hyb⟩ := h2.cell e hen
    have hfe := h2.fr e hen
    have hand2 := u8_and_nat y B hy8 hp2
    have hor3 := u8_or_nat (y &&& B) NB (and_lt y B hy8) (by rw [HNB.out]; exact and_lt F _ hF8)
    have hb3 := h2.byte e (y &&& B) (and_lt y B hy8)
    have hb4 := (hb3.byte e (mix y F B) (mix_lt y F B hy8 hF8)).congr (γ := fillB β st len v) (by
      intro i hi8
      have := He.out; have := Hs.out; have := Hq.out
      unfold byt
      by_cases c : i / 8 = e
      · rw [if_pos c, mix_tb y F B _ hp2 (by omega), Hsb.out _ (by omega), hyb _ (by omega), HF.out, fl_tb _ _ (by omega)]
        unfold fillB
        by_cases c2 : st ≤ i ∧ i < st + len
        · rw [if_pos c2, if_neg]
          simp only [decide_eq_true_eq]; omega
        · rw [if_neg c2, if_pos (by simp only [decide_eq_true_eq]; omega), if_neg (by omega)]
          congr 1; omega
      · rw [if_neg c, if_neg c]
        unfold fillB
        by_cases c2 : st ≤ i ∧ i < st + len
        · rw [if_pos c2, if_pos (by omega)]
        · rw [if_neg c2, if_neg (by omega)])
    have hYe : (y &&& B) ||| NB = mix y F B := by rw [HNB.out]; rfl
    rw [hYe] at hor3
    obtain ⟨X2, hX2⟩ : ∃ X, X = y &&& B := ⟨_, rfl⟩
    obtain ⟨Y2, hY2⟩ : ∃ Y, Y = mix y F B := ⟨_, rfl⟩
    rw [← hX2] at hor3 hand2 hb4
    rw [← hY2] at hor3 hb4
    have hu2 := World.cell?_setCell_same wc ⟨b, off + e, none⟩ (.int .u8 X2) hy
    have hc2 : Chg (RowS b off n) w ((wc.setCell ⟨b, off + e, none⟩ (.int .u8 X2)).setCell ⟨b, off + e, none⟩ (.int .u8 Y2)) := (h1.setCell _ _ (fun _ => ⟨rfl, by omega, by omega⟩) _).setCell _ _ (fun _ => ⟨rfl, by omega, by omega⟩) _
    have Hc2 := Lib.hid hc2; clear hc2
    have Hb4 := Lib.hid hb4; clear hb4
    clear h1 h2 hb3 hyb hYe hX2 hY2 hx hf hu hand hor2 hnot hqe
    go_wp2_with fail
    go_end0
    exact ⟨rfl, Hc2.out, Hb4.out⟩
theorem fillB_zero (β : Nat → Bool) (st : Nat) (v : Bool) : fillB β st 0 v = β := by
  funext i; unfold fillB; rw [if_neg (by omega)]
set_option maxRecDepth 100000 in
set_option maxHeartbeats 1000000 in
theorem setBits_zero (b off n cap st : Nat) (v : Bool) (w : World) :
    Calls Tryz.prog 39 #[.slice (some ⟨b, off, none⟩) n cap, .int .i64 st, .int .i64 0, .bool v] w fun e w' => e = .returned (.tuple #[]) ∧ w = w' := by
  go_enter Tryz.func39, Tryz.ntmps39
  go_wp2_with fail
  refine bodyPost_ret (results_none rfl _ _ _) rfl ?_
  exact ⟨rfl, rfl⟩
theorem setBitsTo_ok (b off n cap st len : Nat) (v : Bool) (β : Nat → Bool) (w : World) (hT : Tabs w) (hgb : 8 < b) (hB : Bmp w b off n β) (hi : st + len ≤ 8 * n) (hn : n ≤ 1000000000) (hnc : n ≤ cap) :
    Calls Tryz.prog 39 #[.slice (some ⟨b, off, none⟩) n cap, .int .i64 st, .int .i64 len, .bool v] w fun e w' => e = .returned (.tuple #[]) ∧ Chg (RowS b off n) w w' ∧ Bmp w' b off n (fillB β st len v) := by
  by_cases h0 : len = 0
  · subst h0
    refine (setBits_zero b off n cap st v w).mono ?_
    rintro e w1 ⟨rfl, rfl⟩
    rw [fillB_zero]
    exact ⟨rfl, Chg.refl _ _, hB⟩
  · by_cases h1 : st / 8 = (st + len) / 8
    · exact setBits_one b off n cap st len _ v β w hT hB (by omega) h1 rfl hi hn hnc
    · exact setBits_two b off n cap st len _ _ v β w hT hgb hB rfl rfl (by omega) hi hn hnc
end Go.Proofs.YtameepdbnnaaaaaGreatDoor
/- Numbers by sevens: plain facts. -/
namespace Go.Proofs.YtameepdbnnaaaaaGreatDoor
/-- The number that k bytes from q on hold, seven bits each, the lowest first. -/
def lebV (D : Nat → Nat) (q : Nat) : Nat → Nat
  | 0 => 0
  | k + 1 => lebV D q k + 2 ^ (7 * k) * (D (q + k) % 128)
theorem lebV_lt (D : Nat → Nat) (q : Nat) : ∀ k, lebV D q k < 2 ^ (7 * k)
  | 0 => by simp [lebV]
  | k + 1 => by
    have ih := lebV_lt D q k
    have h2 : D (q + k) % 128 ≤ 127 := by omega
    have h3 : 2 ^ (7 * k) * (D (q + k) % 128) ≤ 2 ^ (7 * k) * 127 := Nat.mul_le_mul_left _ h2
    rw [lebV, show 7 * (k + 1) = 7 * k + 7 by omega, Nat.pow_add]
    omega
structure Leb (D : Nat → Nat) (q k v : Nat) : Prop where
  k1 : 1 ≤ k
  k10 : k ≤ 10
  more : ∀ i, i + 1 < k → 128 ≤ D (q + i)
  last : D (q + k - 1) < 128
  val : lebV D q k = v
  lt : v < 2 ^ 64
theorem Leb.top {D : Nat → Nat} {q v : Nat} (h : Leb D q 10 v) : D (q + 9) ≤ 1 := by
  have h1 := h.val
  have h2 := h.lt
  have h3 := h.last
  rw [lebV] at h1
  rw [show q + 10 - 1 = q + 9 by omega] at h3
  rw [Nat.mod_eq_of_lt h3] at h1
  apply Decidable.byContradiction
  intro h4
  have h5 : 2 ^ (7 * 9) * 2 ≤ 2 ^ (7 * 9) * D (q + 9) := Nat.mul_le_mul_left _ (by omega)
  have h6 : (2 : Nat) ^ 64 = 2 ^ (7 * 9) * 2 := by decide
  omega
end Go.Proofs.YtameepdbnnaaaaaGreatDoor
/- A number by sevens. -/
namespace Go.Proofs.YtameepdbnnaaaaaGreatDoor
open Go Go.RowKit
theorem leb_join (a b s : Nat) (ha : a < 2 ^ s) (hs : s ≤ 63) (hb : 2 ^ s * b < 2 ^ 64) : bits .or .u64 (a : Int) (IntKind.u64.wrap ((b : Nat) * 2 ^ s)) = (a + 2 ^ s * b : Nat) := by
  have h5 : (2 : Nat) ^ s ≤ 2 ^ 64 := Nat.pow_le_pow_right (by decide) (by omega)
  have e5 : ((b : Nat) : Int) * 2 ^ s = ((2 ^ s * b : Nat) : Int) := by rw [Nat.mul_comm]; norm_cast
  rw [e5, wrap64 _ (by omega) (by exact_mod_cast hb)]
  rw [bits_join_low .u64 64 (by decide) wraps_u64 s a _ (by omega) (by exact_mod_cast ha) (by exact_mod_cast Nat.lt_of_lt_of_le ha h5) (by omega) (by exact_mod_cast Nat.mul_mod_right _ _) (by exact_mod_cast hb)]
  omega
theorem nil_ReadByte (a : Addr) (w : World) : (nilAhead 279 53 (.pointer (some a)) "ReadByte").run Tryz.prog w = .ok (some false) w := by kernel_rfl
theorem method_ReadByte (a : Addr) (w : World) : (method 279 53 (.pointer (some a)) "ReadByte").run Tryz.prog w = .ok (134, .pointer (some a)) w := by kernel_rfl
/-- What is known behind i bytes. -/
def Uvs (c : RC) (q : Nat) (w wr : World) (i : Nat) : Prop := Chg (Own c.B) w wr ∧ ∃ o f, o + (f + 7) / 8 = q + i ∧ RS c wr o f
set_option maxRecDepth 100000 in
set_option maxHeartbeats 1000000 in
theorem uvarint_ok (c : RC) (o f k v : Nat) (w : World) (h : RS c w o f) (hk : Leb c.D (o + (f + 7) / 8) k v) (ho : o + (f + 7) / 8 + k ≤ c.L) :
    Calls Tryz.prog 43 #[.iface 53 (.pointer (some ⟨c.B, 0, none⟩))] w fun e w' =>
      e = .returned (.tuple #[.int .u64 v, .nilIface]) ∧ Chg (Own c.B) w w' ∧ NS c w' (o + (f + 7) / 8 + k) 0 := by
  have h0 : Uvs c (o + (f + 7) / 8) w w 0 := ⟨Chg.refl _ _, o, f, rfl, h⟩
  generalize o + (f + 7) / 8 = q at *
  clear h
  have H0 := Lib.hid h0; clear h0
  have Hk := Lib.hid hk; clear hk
  have Hn := nil_ReadByte
  have Hm := method_ReadByte
  go_enter Tryz.func43, Tryz.ntmps43
  go_wp2_with fail
  go_loopw [4, 5, 6] (fun x s i wr => ∃ n : Nat, n < k ∧ x = .int .u64 (lebV c.D q n) ∧ s = .int .u64 (7 * n : Nat) ∧ i = .int .i64 n ∧ Uvs c q w wr n) (fun _ _ i _ => 10 - (intOf i).toNat)
  case atStart => exact ⟨0, by have := Hk.out.k1; omega, rfl, rfl, rfl, H0.out⟩
  case round =>
    obtain ⟨n, hn, rfl, rfl, rfl, hu⟩ := hrel
    obtain ⟨hc, o1, f1, hof, hR⟩ := hu
    have hn10 : n < 10 := by have := Hk.out.k10; omega
    have hcall := readByte_ok c o1 f1 wr hR (by omega)
    rw [hof] at hcall
    have Hcall := Lib.hid hcall; clear hcall
    have Hc := Lib.hid hc; clear hc
    have Hof := Lib.hid hof; clear hof
    have HR := Lib.hid hR; clear hR
    have hb := HR.out.env.data.lt (q + n)
    obtain ⟨b, hbb⟩ : ∃ b, b = c.D (q + n) := ⟨_, rfl⟩
    rw [← hbb] at hb Hcall
    have Hbb := Lib.hid hbb; clear hbb
    obtain ⟨x, hx⟩ : ∃ x, x = lebV c.D q n := ⟨_, rfl⟩
    rw [← hx]
    have Hx := Lib.hid hx; clear hx
    obtain ⟨s, hs⟩ : ∃ s, s = 7 * n := ⟨_, rfl⟩
    rw [← hs]
    have hs63 : s ≤ 63 := by omega
    have Hs := Lib.hid hs; clear hs
    go_wp2_with fail
    refine Hcall.out.mono ?_
    rintro e w1 ⟨rfl, h1, h2⟩
    have H1 := Lib.hid (Hc.out.trans h1); clear h1
    have H2 := Lib.hid h2; clear h2
    clear Hcall
    have Hlt := Lib.hid (lebV_lt c.D q n)
    by_cases hb1 : b < 128
    · have hkn : k = n + 1 := by
        by_cases hh : n + 1 < k
        · have := Hk.out.more n hh; have := Hbb.out; omega
        · omega
      have ej : bits .or .u64 (x : Int) (IntKind.u64.wrap ((b : Nat) * 2 ^ s)) = (v : Nat) := by
        have h5 := Hk.out.val
        have h6 := Hk.out.lt
        have h7 := Hlt.out
        rw [hkn, lebV, ← Hbb.out, Nat.mod_eq_of_lt hb1, ← Hs.out, ← Hx.out] at h5
        rw [← Hs.out, ← Hx.out] at h7
        rw [leb_join x b s h7 hs63 (by omega), h5]
      have Hej := Lib.hid ej; clear ej
      have Hkn := Lib.hid hkn; clear hkn
      by_cases h9 : n = 9
      · have ht : b ≤ 1 := by
          have h8 := Hk.out
          rw [Hkn.out, h9] at h8
          have := h8.top
          have := Hbb.out
          rw [h9] at this
          omega
        subst h9
        go_wp2_with fail
        go_ret2
        exact ⟨ret_two Hej.out, H1.out, by rw [Hkn.out]; exact H2.out⟩
      · have h9' : ¬ (n : Int) = 9 := by omega
        go_wp2_with fail
        go_ret2
        exact ⟨ret_two Hej.out, H1.out, by rw [Hkn.out]; exact H2.out⟩
    · have hkn : n + 1 < k := by
        apply Decidable.byContradiction
        intro hh
        have h3 := Hk.out.last
        have h4 := Hbb.out
        rw [show q + k - 1 = q + n by omega] at h3
        omega
      have ej : bits .or .u64 (x : Int) (IntKind.u64.wrap ((b % 128 : Nat) * 2 ^ s)) = (lebV c.D q (n + 1) : Nat) := by
        have h7 := Hlt.out
        have h8 := Hk.out.k10
        have h10 : 2 ^ s * (b % 128) < 2 ^ 64 := by
          have h11 : (2 : Nat) ^ s * (b % 128) ≤ 2 ^ s * 127 := Nat.mul_le_mul_left _ (by omega)
          have h12 : (2 : Nat) ^ s ≤ 2 ^ 56 := Nat.pow_le_pow_right (by decide) (by have := Hs.out; omega)
          omega
        rw [lebV, ← Hbb.out, ← Hs.out, ← Hx.out]
        rw [← Hs.out, ← Hx.out] at h7
        rw [leb_join x _ s h7 hs63 h10]
      have Hej := Lib.hid ej; clear ej
      go_wp2_with fail
      go_roundw
      case rel =>
        have e1 : bits .and .u8 (b : Int) 127 = (b % 128 : Nat) := by
          have := bits_mask .u8 8 (by decide) wraps_u8 7 (by decide) b (by omega) (by show (b : Int) < 256; omega)
          rw [show ((127 : Int)) = 2 ^ 7 - 1 by decide, this]
          show (b : Int) % 128 = _
          omega
        have e2 : IntKind.u64.wrap ((b % 128 : Nat) : Int) = (b % 128 : Nat) := wrap64 _ (by omega) (by show ((b % 128 : Nat) : Int) < 18446744073709551616; omega)
        refine ⟨n + 1, hkn, ?_, ?_, rfl, H1.out, q + n + 1, 0, by omega, H2.out.rs⟩
        · rw [e1, e2, Hej.out]
        · have := Hs.out
          rw [show (s : Int) + 7 = (7 * (n + 1) : Nat) by omega]
      case measure => simp [intOf]; omega
set_option maxRecDepth 100000 in
set_option maxHeartbeats 1000000 in
theorem getVlq_ok (c : RC) (o f k v : Nat) (w : World) (h : RS c w o f) (hk : Leb c.D (o + (f + 7) / 8) k v) (ho : o + (f + 7) / 8 + k ≤ c.L) :
    Calls Tryz.prog 32 #[.pointer (some ⟨c.B, 0, none⟩)] w fun e w' =>
      e = .returned (.tuple #[.int .u64 v, .bool true]) ∧ Chg (Own c.B) w w' ∧ NS c w' (o + (f + 7) / 8 + k) 0 := by
  have H := Lib.hid (uvarint_ok c o f k v w h hk ho)
  clear h hk ho
  go_enter Tryz.func32, Tryz.ntmps32
  go_wp2_with fail
  refine H.out.mono ?_
  rintro e w1 ⟨rfl, h1, h2⟩
  have H1 := Lib.hid h1; clear h1
  have H2 := Lib.hid h2; clear h2
  go_wp2_with fail
  go_ret2
  exact ⟨rfl, H1.out, H2.out⟩
/-- The number whose zigzag is v. -/
def unzig (v : Nat) : Int := if v % 2 = 0 then ((v / 2 : Nat) : Int) else -((v / 2 : Nat) : Int) - 1
theorem i64_xor_ones (x : Nat) (hx : x < 9223372036854775808) : bits .xor .i64 (x : Int) (-1) = -(x : Int) - 1 := by
  rw [← Lib.i64_not x hx]
  show IntKind.i64.wrap ((BitVec.ofInt 64 (x : Int) ^^^ BitVec.ofInt 64 (-1)).toNat : Int) = _
  rw [BitVec.xor_comm]
  rfl
theorem i64_xor_zero (x : Nat) (hx : x < 9223372036854775808) : bits .xor .i64 (x : Int) 0 = x := by
  show IntKind.i64.wrap ((BitVec.ofInt 64 (x : Int) ^^^ BitVec.ofInt 64 0).toNat : Int) = _
  have h2 : (BitVec.ofInt 64 (x : Int)).toNat = x := by
    rw [BitVec.ofInt_natCast, BitVec.toNat_ofNat]; exact Nat.mod_eq_of_lt (by omega)
  rw [BitVec.toNat_xor, h2, show (BitVec.ofInt 64 0).toNat = 0 by decide, Nat.xor_zero, IntKind.wrap_i64]
  omega
theorem unzig_is (v : Nat) (hv : v < 2 ^ 64) : bits .xor .i64 (RowKit.wrap64 ((v : Int) / 2)) (RowKit.wrap64 (-RowKit.wrap64 (bits .and .u64 (v : Int) 1))) = unzig v := by
  rw [Lib.u64_and1 v (by omega) (by omega)]
  have e1 : RowKit.wrap64 ((v : Int) / 2) = (v / 2 : Nat) := by unfold RowKit.wrap64; omega
  rw [e1]
  unfold unzig
  split
  · rename_i h
    rw [show RowKit.wrap64 (-RowKit.wrap64 ((v : Int) % 2)) = 0 by unfold RowKit.wrap64; omega]
    exact i64_xor_zero _ (by omega)
  · rename_i h
    rw [show RowKit.wrap64 (-RowKit.wrap64 ((v : Int) % 2)) = -1 by unfold RowKit.wrap64; omega]
    exact i64_xor_ones _ (by omega)
set_option maxRecDepth 100000 in
set_option maxHeartbeats 1000000 in
theorem newBits_ok (rb ro : Nat) (w : World) :
    Calls Tryz.prog 19 #[.iface 43 (.pointer (some ⟨rb, ro, none⟩))] w fun e w' => e = .returned (.pointer (some ⟨w.heap.size, 0, none⟩)) ∧ Chg Nix w w' ∧ w.heap.size < w'.heap.size ∧ BR w' w.heap.size rb ro 0 0 0 0 := by
  go_enter Tryz.func19, Tryz.ntmps19
  go_wp2_with fail
  go_ret
  have hz : Tryz.zeroCells81.size = 1037 := by kernel_rfl
  have h1 : Tryz.zeroCells81[1]? = some (.int .u64 0) := by kernel_rfl
  have h2 : Tryz.zeroCells81[2]? = some (.int .i64 0) := by kernel_rfl
  have h3 : Tryz.zeroCells81[3]? = some (.int .u64 0) := by kernel_rfl
  have h4 : Tryz.zeroCells81[4]? = some (.int .u64 0) := by kernel_rfl
  generalize Tryz.zeroCells81 = Z at *
  refine ⟨rfl, Chg.new _ _, by simp, ⟨?_, ?_, ?_, ?_, ?_, ?_, ?_, ?_⟩⟩
  · rw [World.cell?_alloc_new]; simp [hz]
  · rw [World.cell?_alloc_new]; simp [h1]
  · rw [World.cell?_alloc_new]; simp [h2]
  · rw [World.cell?_alloc_new]; simp [h3]
  · rw [World.cell?_alloc_new]; simp [h4]
  · intro j hj
    rw [World.cell?_alloc_new]
    exact ⟨_, Array.getElem?_eq_getElem (by simp [hz]; omega)⟩
  · intro j hj
    rw [World.cell?_alloc_new]
    exact ⟨_, Array.getElem?_eq_getElem (by simp [hz]; omega)⟩
  · intro j hj; simp
end Go.Proofs.YtameepdbnnaaaaaGreatDoor
