/- Part 4 of the proof: the texts BN, BP, F, BQ, joined. What each proves stands ahead of it. -/
import Derived.Test.YtameepdbnnaaaaaGreatDoorKC
import Derived.Outline
set_option linter.unusedVariables false
set_option linter.unusedSimpArgs false
/- Bits of a bitmap: set, cleared, asked. -/
namespace Go.Proofs.YtameepdbnnaaaaaGreatDoor
open Go Go.RowKit
/-- The four tables of bytes. -/
structure Tabs (w : World) : Prop where
  bm : ∀ t, t < 8 → w.cell? ⟨1, t, none⟩ = some (.int .u8 (2 ^ t : Nat))
  fb : ∀ t, t < 8 → w.cell? ⟨7, t, none⟩ = some (.int .u8 (255 - 2 ^ t : Nat))
  pr : ∀ t, t < 8 → w.cell? ⟨4, t, none⟩ = some (.int .u8 (2 ^ t - 1 : Nat))
  tr : ∀ t, t < 8 → w.cell? ⟨5, t, none⟩ = some (.int .u8 (256 - 2 ^ t : Nat))
theorem Tabs.keep {w w' : World} (h : Tabs w) {S : Nat → Nat → Prop} (hc : Chg S w w') (hS : ∀ k x, S k x → 8 < k) : Tabs w' :=
  ⟨fun t ht => hc.keep (h.bm t ht) (fun hh => by have := hS _ _ hh; omega), fun t ht => hc.keep (h.fb t ht) (fun hh => by have := hS _ _ hh; omega), fun t ht => hc.keep (h.pr t ht) (fun hh => by have := hS _ _ hh; omega), fun t ht => hc.keep (h.tr t ht) (fun hh => by have := hS _ _ hh; omega)⟩
theorem Bmp.drew {w : World} {b off n : Nat} {β : Nat → Bool} (h : Bmp w b off n β) : Bmp w.drew b off n β := h.keep (Chg.drew (Chg.refl Nix w)) (fun _ _ h => h)
theorem Tabs.drew {w : World} (h : Tabs w) : Tabs w.drew := h.keep (Chg.drew (Chg.refl Nix w)) (fun _ _ h => h.elim)
/-- Cells of a row. -/
def RowS (b off n : Nat) : Nat → Nat → Prop := fun k x => k = b ∧ off ≤ x ∧ x < off + n
set_option maxRecDepth 100000 in
set_option maxHeartbeats 1000000 in
theorem setBit_ok (b off n cap i : Nat) (β : Nat → Bool) (w : World) (hT : Tabs w) (hB : Bmp w b off n β) (hi : i < 8 * n) (hn : n ≤ 1000000000) (hnc : n ≤ cap) :
    Calls Tryz.prog 54 #[.slice (some ⟨b, off, none⟩) n cap, .int .i64 i] w fun e w' => e = .returned (.tuple #[]) ∧ Chg (RowS b off n) w w' ∧ Bmp w' b off n (upd β i true) := by
  obtain ⟨q, hq⟩ : ∃ q, q = i / 8 := ⟨_, rfl⟩
  obtain ⟨r, hr⟩ : ∃ r, r = i % 8 := ⟨_, rfl⟩
  obtain ⟨x, hx, hx8, hxb⟩ := hB.cell q (by omega)
  have hf := hB.fr q (by omega)
  have ht := hT.bm r (by omega)
  have hp := pow8 r (by omega)
  have hwq : IntKind.u64.wrap (i : Int) = i := IntWalk.u64_in _ (by omega)
  have hq' : (i : Int) / 8 = q := by omega
  have hqn : q < n := by omega
  have hqt : ((q : Nat) : Int).toNat = q := by omega
  have hw8 : (IntKind.u8.wrap (i : Int)).tmod 8 = r := by rw [IntKind.wrap_u8, Int.tmod_eq_emod_of_nonneg (by omega)]; omega
  have hwqq : IntKind.u64.wrap (q : Int) = q := IntWalk.u64_in _ (by omega)
  have hwrr : IntKind.u8.wrap (r : Int) = r := IntWalk.u8_in _ (by omega)
  have hr8 : (r : Int) < 8 := by omega
  have hr0 : 0 ≤ (r : Int) := by omega
  have hrt : ((r : Nat) : Int).toNat = r := by omega
  obtain ⟨P, hP⟩ : ∃ P, P = 2 ^ r := ⟨_, rfl⟩
  have hP8 : P < 256 := by omega
  rw [← hP] at ht
  have hor := u8_or_nat x P hx8 hP8
  have hb2 := hB.put q (x ||| P) (γ := upd β i true) (or_lt x P hx8 hP8) (fun t h8 => by
    rw [Nat.testBit_or, hxb t h8, hP, tb_pow]
    unfold upd
    by_cases e : r = t
    · rw [if_pos (by omega)]; simp [e]
    · rw [if_neg (by omega)]; simp [e]) (fun j hj hne => by unfold upd; rw [if_neg (by intro e; subst e; exact hne hq.symm)])
  have Hb2 := Lib.hid hb2
  clear hT hB hb2 hq hr hxb hP
  go_enter Tryz.func54, Tryz.ntmps54
  go_wp2_with fail
  (refine wp_region_txt [] (by kernel_rfl) (by kernel_rfl) ?_; repeat (first | (refine wpTxt_pure rfl rfl (fun K hK => ?_); go_simp; refine hK _ ?_; clear hK K) | (refine wpTxt_still rfl rfl (fun K hK => ?_); go_simp; refine hK _ ?_; clear hK K)))
  (refine wpTxt_effect rfl rfl (fun K hK => ?_); go_simp; refine hK _ _ ?_; clear hK K)
  refine wpTxt_nil ?_
  go_wp2_with fail
  go_end0
  exact ⟨rfl, ((Chg.refl _ _).setCell _ _ (fun _ => ⟨rfl, by omega, by omega⟩) _).drew, Hb2.out.drew⟩
set_option maxRecDepth 100000 in
set_option maxHeartbeats 1000000 in
theorem clearBit_ok (b off n cap i : Nat) (β : Nat → Bool) (w : World) (hT : Tabs w) (hB : Bmp w b off n β) (hi : i < 8 * n) (hn : n ≤ 1000000000) (hnc : n ≤ cap) :
    Calls Tryz.prog 55 #[.slice (some ⟨b, off, none⟩) n cap, .int .i64 i] w fun e w' => e = .returned (.tuple #[]) ∧ Chg (RowS b off n) w w' ∧ Bmp w' b off n (upd β i false) := by
  obtain ⟨q, hq⟩ : ∃ q, q = i / 8 := ⟨_, rfl⟩
  obtain ⟨r, hr⟩ : ∃ r, r = i % 8 := ⟨_, rfl⟩
  obtain ⟨x, hx, hx8, hxb⟩ := hB.cell q (by omega)
  have hf := hB.fr q (by omega)
  have ht := hT.fb r (by omega)
  have hp := pow8 r (by omega)
  have hwq : IntKind.u64.wrap (i : Int) = i := IntWalk.u64_in _ (by omega)
  have hq' : (i : Int) / 8 = q := by omega
  have hqn : q < n := by omega
  have hqt : ((q : Nat) : Int).toNat = q := by omega
  have hw8 : (IntKind.u8.wrap (i : Int)).tmod 8 = r := by rw [IntKind.wrap_u8, Int.tmod_eq_emod_of_nonneg (by omega)]; omega
  have hwqq : IntKind.u64.wrap (q : Int) = q := IntWalk.u64_in _ (by omega)
  have hwrr : IntKind.u8.wrap (r : Int) = r := IntWalk.u8_in _ (by omega)
  have hr8 : (r : Int) < 8 := by omega
  have hr0 : 0 ≤ (r : Int) := by omega
  have hrt : ((r : Nat) : Int).toNat = r := by omega
  obtain ⟨P, hP⟩ : ∃ P, P = 255 - 2 ^ r := ⟨_, rfl⟩
  have hP8 : P < 256 := by rw [hP]; exact Nat.lt_of_le_of_lt (Nat.sub_le _ _) (by decide)
  rw [← hP] at ht
  have hor := u8_and_nat x P hx8 hP8
  have hb2 := hB.put q (x &&& P) (γ := upd β i false) (and_lt x P hx8) (fun t h8 => by
    rw [Nat.testBit_and, hxb t h8, hP, tb_flip ⟨r, by omega⟩ ⟨t, h8⟩]
    unfold upd
    by_cases e : r = t
    · rw [if_pos (by omega)]; simp [e]
    · rw [if_neg (by omega)]; simp [e]) (fun j hj hne => by unfold upd; rw [if_neg (by intro e; subst e; exact hne hq.symm)])
  have Hb2 := Lib.hid hb2
  clear hT hB hb2 hq hr hxb hP
  go_enter Tryz.func55, Tryz.ntmps55
  go_wp2_with fail
  (refine wp_region_txt [] (by kernel_rfl) (by kernel_rfl) ?_; repeat (first | (refine wpTxt_pure rfl rfl (fun K hK => ?_); go_simp; refine hK _ ?_; clear hK K) | (refine wpTxt_still rfl rfl (fun K hK => ?_); go_simp; refine hK _ ?_; clear hK K)))
  (refine wpTxt_effect rfl rfl (fun K hK => ?_); go_simp; refine hK _ _ ?_; clear hK K)
  refine wpTxt_nil ?_
  go_wp2_with fail
  go_end0
  exact ⟨rfl, ((Chg.refl _ _).setCell _ _ (fun _ => ⟨rfl, by omega, by omega⟩) _).drew, Hb2.out.drew⟩
set_option maxRecDepth 100000 in
set_option maxHeartbeats 1000000 in
theorem setBitTo_ok (b off n cap i : Nat) (v : Bool) (β : Nat → Bool) (w : World) (hT : Tabs w) (hB : Bmp w b off n β) (hi : i < 8 * n) (hn : n ≤ 1000000000) (hnc : n ≤ cap) :
    Calls Tryz.prog 49 #[.slice (some ⟨b, off, none⟩) n cap, .int .i64 i, .bool v] w fun e w' => e = .returned (.tuple #[]) ∧ Chg (RowS b off n) w w' ∧ Bmp w' b off n (upd β i v) := by
  have H1 := Lib.hid (setBit_ok b off n cap i β w hT hB hi hn hnc)
  have H2 := Lib.hid (clearBit_ok b off n cap i β w hT hB hi hn hnc)
  clear hT hB
  go_enter Tryz.func49, Tryz.ntmps49
  cases v
  · go_wp2_with fail
    refine H2.out.mono ?_
    rintro e w1 ⟨rfl, h1, h2⟩
    have K1 := Lib.hid h1; clear h1
    have K2 := Lib.hid h2; clear h2
    go_wp2_with fail
    go_end0
    exact ⟨rfl, K1.out, K2.out⟩
  · go_wp2_with fail
    refine H1.out.mono ?_
    rintro e w1 ⟨rfl, h1, h2⟩
    have K1 := Lib.hid h1; clear h1
    have K2 := Lib.hid h2; clear h2
    go_wp2_with fail
    go_end0
    exact ⟨rfl, K1.out, K2.out⟩
theorem and_pow_ne (x r : Nat) : (((x &&& 2 ^ r : Nat) : Int) != 0) = x.testBit r := by
  cases h : x.testBit r
  · have e : x &&& 2 ^ r = 0 := by
      apply Nat.eq_of_testBit_eq
      intro i
      rw [Nat.testBit_and, tb_pow, Nat.zero_testBit]
      by_cases e : r = i
      · subst e; rw [h]; rfl
      · simp [e]
    rw [e]; rfl
  · have e : x &&& 2 ^ r ≠ 0 := by
      intro e
      have := congrArg (fun y => y.testBit r) e
      simp only [Nat.testBit_and, tb_pow, h, Nat.zero_testBit] at this
      simp at this
    simp only [bne_iff_ne, ne_eq]
    exact_mod_cast e
set_option maxRecDepth 100000 in
set_option maxHeartbeats 1000000 in
theorem bitIsSet_ok (b off n cap i : Nat) (β : Nat → Bool) (w : World) (hT : Tabs w) (hB : Bmp w b off n β) (hi : i < 8 * n) (hn : n ≤ 1000000000) (hnc : n ≤ cap) :
    Calls Tryz.prog 26 #[.slice (some ⟨b, off, none⟩) n cap, .int .i64 i] w fun e w' => e = .returned (.bool (β i)) ∧ Chg Nix w w' := by
  obtain ⟨q, hq⟩ : ∃ q, q = i / 8 := ⟨_, rfl⟩
  obtain ⟨r, hr⟩ : ∃ r, r = i % 8 := ⟨_, rfl⟩
  obtain ⟨x, hx, hx8, hxb⟩ := hB.cell q (by omega)
  have hf := hB.fr q (by omega)
  have ht := hT.bm r (by omega)
  have hp := pow8 r (by omega)
  have hwq : IntKind.u64.wrap (i : Int) = i := IntWalk.u64_in _ (by omega)
  have hq' : (i : Int) / 8 = q := by omega
  have hqn : q < n := by omega
  have hqt : ((q : Nat) : Int).toNat = q := by omega
  have hw8 : (IntKind.u8.wrap (i : Int)).tmod 8 = r := by rw [IntKind.wrap_u8, Int.tmod_eq_emod_of_nonneg (by omega)]; omega
  have hwqq : IntKind.u64.wrap (q : Int) = q := IntWalk.u64_in _ (by omega)
  have hwrr : IntKind.u8.wrap (r : Int) = r := IntWalk.u8_in _ (by omega)
  have hr8 : (r : Int) < 8 := by omega
  have hr0 : 0 ≤ (r : Int) := by omega
  have hrt : ((r : Nat) : Int).toNat = r := by omega
  have hne := and_pow_ne x r
  rw [hxb r (by omega), show 8 * q + r = i by omega] at hne
  obtain ⟨P, hP⟩ : ∃ P, P = 2 ^ r := ⟨_, rfl⟩
  have hP8 : P < 256 := by omega
  rw [← hP] at ht hne
  have hor := u8_and_nat x P hx8 hP8
  clear hT hB hq hr hxb hP
  go_enter Tryz.func26, Tryz.ntmps26
  go_wp2_with fail
  (refine wp_region_txt [] (by kernel_rfl) (by kernel_rfl) ?_; repeat (first | (refine wpTxt_pure rfl rfl (fun K hK => ?_); go_simp; refine hK _ ?_; clear hK K) | (refine wpTxt_still rfl rfl (fun K hK => ?_); go_simp; refine hK _ ?_; clear hK K)))
  refine wpTxt_nil ?_
  go_wp2_with fail
  go_ret
  exact ⟨rfl, (Chg.refl _ _).drew⟩
end Go.Proofs.YtameepdbnnaaaaaGreatDoor
/- Words of 64 bits by their bits. No program in sight. -/
namespace Go.Proofs.YtameepdbnnaaaaaGreatDoor
open Go Go.RowKit
theorem tb_cat (a b t : Nat) (ha : a < 256) : (a + 256 * b).testBit t = if t < 8 then a.testBit t else b.testBit (t - 8) := by
  rw [Nat.add_comm]; exact Nat.testBit_two_pow_mul_add b (i := 8) ha t
theorem leV_tb (D : Nat → Nat) (hD : ∀ j, D j < 256) : ∀ (n p t : Nat), t < 8 * n → (leV D p n).testBit t = (D (p + t / 8)).testBit (t % 8)
  | 0, p, t, h => by omega
  | n + 1, p, t, h => by
    rw [leV, tb_cat _ _ _ (hD p)]
    by_cases ht : t < 8
    · rw [if_pos ht, show t / 8 = 0 by omega, show t % 8 = t by omega, Nat.add_zero]
    · rw [if_neg ht, leV_tb D hD n (p + 1) (t - 8) (by omega)]
      congr 1
      · congr 1; omega
      · omega
theorem byte_tb (v j t : Nat) (ht : t < 8) : (v / 256 ^ j % 256).testBit t = v.testBit (8 * j + t) := by
  rw [show (256 : Nat) = 2 ^ 8 from rfl, ← Nat.pow_mul, Nat.testBit_mod_two_pow, Nat.testBit_div_two_pow]
  simp [ht, Nat.add_comm]
theorem u64_and_nat (x y : Nat) (hx : x < 2 ^ 64) (hy : y < 2 ^ 64) : bits .and .u64 (x : Int) y = ((x &&& y : Nat) : Int) := (bits_nat .u64 64 (by decide) wraps_u64 x y hx hy).1
theorem u64_or_nat (x y : Nat) (hx : x < 2 ^ 64) (hy : y < 2 ^ 64) : bits .or .u64 (x : Int) y = ((x ||| y : Nat) : Int) := (bits_nat .u64 64 (by decide) wraps_u64 x y hx hy).2
theorem u64_andNot_nat (x y : Nat) (hx : x < 2 ^ 64) (hy : y < 2 ^ 64) : bits .andNot .u64 (x : Int) y = ((x &&& (2 ^ 64 - 1 - y) : Nat) : Int) := by
  have e0 : bits .andNot .u64 (x : Int) y = IntKind.u64.wrap ((BitVec.ofNat 64 x &&& ~~~BitVec.ofNat 64 y).toNat : Int) := by
    simp only [bits, BitVec.ofInt_natCast]; rfl
  have e1 : x % 2 ^ 64 = x := Nat.mod_eq_of_lt hx
  have e2 : y % 2 ^ 64 = y := Nat.mod_eq_of_lt hy
  rw [e0, BitVec.toNat_and, BitVec.toNat_not, BitVec.toNat_ofNat, BitVec.toNat_ofNat, e1, e2]
  have := Nat.lt_of_le_of_lt (Nat.and_le_left (n := x) (m := 2 ^ 64 - 1 - y)) hx
  exact wraps_u64 _ (by omega) (by exact_mod_cast this)
theorem tb_not64 (y t : Nat) (hy : y < 2 ^ 64) (ht : t < 64) : (2 ^ 64 - 1 - y).testBit t = !y.testBit t := by
  have := Nat.testBit_two_pow_sub_succ (x := y) (n := 64) hy t
  rw [show (2 : Nat) ^ 64 - (y + 1) = 2 ^ 64 - 1 - y by omega] at this
  rw [this, decide_eq_true ht, Bool.true_and]
def shl64 (x k : Nat) : Nat := x * 2 ^ k % 2 ^ 64
theorem shl64_lt (x k : Nat) : shl64 x k < 2 ^ 64 := Nat.mod_lt _ (by decide)
theorem shl64_is (x k : Nat) : IntKind.u64.wrap ((x : Int) * 2 ^ k) = (shl64 x k : Nat) := by
  rw [IntKind.wrap_u64]; unfold shl64; rw [Int.natCast_emod, Int.natCast_mul, Int.natCast_pow]; rfl
theorem shl64_tb (x k t : Nat) (ht : t < 64) : (shl64 x k).testBit t = (decide (k ≤ t) && x.testBit (t - k)) := by
  unfold shl64
  rw [Nat.testBit_mod_two_pow, Nat.testBit_mul_two_pow, decide_eq_true ht, Bool.true_and]
theorem shr_tb (x k t : Nat) : (x / 2 ^ k).testBit t = x.testBit (t + k) := Nat.testBit_div_two_pow ..
theorem shr_is (x k : Nat) : (x : Int) / 2 ^ k = (x / 2 ^ k : Nat) := by norm_cast
theorem tb_big (x t : Nat) (hx : x < 2 ^ 64) (ht : 64 ≤ t) : x.testBit t = false := Nat.testBit_lt_two_pow (Nat.lt_of_lt_of_le hx (Nat.pow_le_pow_right (by decide) ht))
theorem tb_ones (r t : Nat) : (2 ^ r - 1).testBit t = decide (t < r) := Nat.testBit_two_pow_sub_one ..
theorem or64_lt (x y : Nat) (hx : x < 2 ^ 64) (hy : y < 2 ^ 64) : x ||| y < 2 ^ 64 := Nat.or_lt_two_pow hx hy
theorem and64_lt (x y : Nat) (hx : x < 2 ^ 64) : x &&& y < 2 ^ 64 := Nat.lt_of_le_of_lt Nat.and_le_left hx
/-- The bits of v from place p on, len of them. -/
def paste (β : Nat → Bool) (p len v : Nat) : Nat → Bool := fun i => if p ≤ i ∧ i < p + len then v.testBit (i - p) else β i
/-- A number whose bits are those of a row from bit p on. -/
structure Num64 (β : Nat → Bool) (p v : Nat) : Prop where
  lt : v < 2 ^ 64
  tb : ∀ t, t < 64 → v.testBit t = β (p + t)
/-- The bytes of a bitmap. -/
theorem Bmp.bytes {w : World} {b off n : Nat} {β : Nat → Bool} (h : Bmp w b off n β) : ∃ E : Nat → Nat, (∀ j, E j < 256) ∧ Bytes w b off n E ∧ ∀ j, j < n → ∀ t, t < 8 → (E j).testBit t = β (8 * j + t) := by
  have : ∀ j, ∃ x : Nat, x < 256 ∧ (j < n → w.cell? ⟨b, off + j, none⟩ = some (.int .u8 x) ∧ ∀ t, t < 8 → x.testBit t = β (8 * j + t)) := by
    intro j
    by_cases hj : j < n
    · obtain ⟨x, h1, h2, h3⟩ := h.cell j hj
      exact ⟨x, h2, fun _ => ⟨h1, h3⟩⟩
    · exact ⟨0, by omega, fun h => absurd h hj⟩
  obtain ⟨E, hE⟩ := Classical.axiomOfChoice this
  exact ⟨E, fun j => (hE j).1, fun j hj => ((hE j).2 hj).1, fun j hj => ((hE j).2 hj).2⟩
/-- Eight bytes are laid. -/
theorem Bmp.put64 {w w' : World} {b off n : Nat} {β : Nat → Bool} (h : Bmp w b off n β) (j v : Nat) (hj : j + 8 ≤ n) (hc : Chg (fun k x => k = b ∧ off + j ≤ x ∧ x < off + j + 8) w w') (hb : Bytes w' b (off + j) 8 (fun i => v / 256 ^ i % 256)) : Bmp w' b off n (paste β (8 * j) 64 v) := by
  refine ⟨fun i hi => ?_, fun i hi => let ⟨x, h1, h2⟩ := h.cell i hi; (hc.frozen _ _ (World.block_lt_of_cell? w _ h1)).trans (h.fr i hi)⟩
  by_cases hij : j ≤ i ∧ i < j + 8
  · have := hb (i - j) (by omega)
    rw [show off + j + (i - j) = off + i by omega] at this
    refine ⟨_, this, Nat.mod_lt _ (by decide), fun t ht => ?_⟩
    rw [byte_tb _ _ _ ht]
    unfold paste
    rw [if_pos (by omega)]
    congr 1; omega
  · obtain ⟨x, h1, h2, h3⟩ := h.cell i hi
    refine ⟨x, hc.keep h1 (by rintro ⟨-, h⟩; omega), h2, fun t ht => ?_⟩
    rw [h3 t ht]; unfold paste; rw [if_neg (by omega)]
end Go.Proofs.YtameepdbnnaaaaaGreatDoor
/- The reader of bits: a byte by itself, a number by sevens, where it is. -/
namespace Go.Proofs.YtameepdbnnaaaaaGreatDoor
open Go Go.RowKit
set_option maxRecDepth 100000 in
set_option maxHeartbeats 1000000 in
theorem bytesFor_ok (n : Nat) (w : World) (hn : n ≤ 1000000000000000000) :
    Calls Tryz.prog 30 #[.int .i64 n] w fun e w' => e = .returned (.int .i64 ((n + 7) / 8 : Nat)) ∧ w' = w := by
  go_enter Tryz.func30, Tryz.ntmps30
  go_wp2
  go_ret
  exact ⟨ret_int' (by omega), rfl⟩
/-- What may turn at an aligned read. -/
def OwnT (B tb tj : Nat) : Nat → Nat → Prop := fun k x => k = B ∨ (k = tb ∧ x = tj)
theorem nil_ReadAt (a : Addr) (w : World) : (nilAhead 279 43 (.pointer (some a)) "ReadAt").run Tryz.prog w = .ok (some false) w := by kernel_rfl
theorem method_ReadAt (a : Addr) (w : World) : (method 279 43 (.pointer (some a)) "ReadAt").run Tryz.prog w = .ok (130, .pointer (some a)) w := by kernel_rfl
set_option maxRecDepth 100000 in
set_option maxHeartbeats 1000000 in
theorem aligned8_ok (c : RC) (o f tb tj : Nat) (u : Value) (w : World) (h : RS c w o f) (ho : o + (f + 7) / 8 < c.L) (hu : w.cell? ⟨tb, tj, none⟩ = some u) (huf : w.frozen? ⟨tb, tj, none⟩ = false) (t1 : tb ≠ c.B) (t2 : tb ≠ c.rb) (t3 : tb ≠ c.b) (t4 : 8 < tb) :
    Calls Tryz.prog 36 #[.pointer (some ⟨c.B, 0, none⟩), .int .i64 1, .pointer (some ⟨tb, tj, none⟩)] w fun e w' =>
      e = .returned (.bool true) ∧ Chg (OwnT c.B tb tj) w w' ∧ w'.cell? ⟨tb, tj, none⟩ = some (.int .u8 (c.D (o + (f + 7) / 8))) ∧ NS c w' (o + (f + 7) / 8 + 1) 0 := by
  obtain ⟨buf, vb, hb, -⟩ := h.br
  have hf := h.hf
  have henv := h.env
  have c0 := hb.rd
  have c2 := hb.bo
  have c3 := hb.bi
  have f2 := hb.fr 2 (by omega)
  have f3 := hb.fr 3 (by omega)
  have hlB := hb.lt
  have hlt := World.block_lt_of_cell? w _ hu
  have hL := henv.hL
  have hC := henv.hC
  have hLb := henv.hLb
  have HB := Lib.hid hb; clear hb
  have HE := Lib.hid henv; clear henv h
  have hbc := fun W => bytesFor_ok f W (by omega)
  obtain ⟨g, hg⟩ : ∃ g, g = (f + 7) / 8 := ⟨_, rfl⟩
  obtain ⟨o', ho'⟩ : ∃ o', o' = o + g := ⟨_, rfl⟩
  rw [← hg, ← ho'] at ho ⊢
  rw [← hg] at hbc
  have hoi : (o : Int) + g = o' := by omega
  have Hg := Lib.hid hg; clear hg
  have Ho := Lib.hid ho'; clear ho'
  have hol : o' < 1000000000000000000 := by omega
  obtain ⟨q, hq⟩ : ∃ q, q = o' + 1 := ⟨_, rfl⟩
  rw [← hq]
  have Hq := Lib.hid hq; clear hq
  have Hbc := Lib.hid hbc; clear hbc
  have H0 := nil_ReadAt
  have H1 := method_ReadAt
  go_enter Tryz.func36, Tryz.ntmps36
  go_wp2_with fail
  refine (Hbc.out _).mono ?_
  rintro e w1 ⟨rfl, rfl⟩
  have hB1 := HB.out.off' o'
  have hc1 : Chg (OwnT c.B tb tj) w1 (w1.setCell ⟨c.B, 2, none⟩ (.int .i64 o')) := (Chg.refl _ _).setCell _ _ (fun _ => .inl rfl) _
  have hc1' := (Chg.refl (Own c.B) w1).own 2 (.int .i64 o')
  have he1 := HE.out.keepB hc1' (fun _ _ h => h)
  have hu1 := hc1'.keep hu t1
  have huf1 := (hc1'.frozen tb tj hlt).trans huf
  have hl1 := hc1'.lt hlB
  have hl1t := hc1'.lt hlt
  have HB1 := Lib.hid hB1
  have Hc1 := Lib.hid hc1
  have He1 := Lib.hid he1
  have Hu1 := Lib.hid hu1
  have Huf1 := Lib.hid huf1
  clear hB1 hc1 hc1' he1 hu1 huf1
  go_wp2_with fail
  generalize w1.setCell ⟨c.B, 2, none⟩ (.int .i64 o') = w2 at *
  clear c0 c2 c3 f2 f3 hu huf
  have c0 := HB1.out.rd
  have c2 := HB1.out.bo
  have c3 := HB1.out.bi
  have f2 := HB1.out.fr 2 (by omega)
  have f3 := HB1.out.fr 3 (by omega)
  refine wp_region_txt [] (by kernel_rfl) (by kernel_rfl) ?_
  repeat (first | (refine wpTxt_pure rfl rfl (fun K hK => ?_); go_simp; refine hK _ ?_; clear hK K) | (refine wpTxt_still rfl rfl (fun K hK => ?_); go_simp; refine hK _ ?_; clear hK K))
  refine wpTxt_effect rfl rfl (fun K hK => ?_)
  go_simp
  obtain ⟨ri, rp, hr⟩ := He1.out.rdr
  have Hr := Lib.hid hr; clear hr
  refine (readAt_any c.rb c.ro c.b c.bo c.L c.C c.B 5 1 8 o' c.ee c.eu ri rp c.D _ Hr.out.drew He1.out.data.bytes He1.out.eofs.drew (by have := He1.out.gB; omega) hL (fun j hj => HB1.out.raw j (by omega)) (fun j hj => HB1.out.fr _ (by omega))).mono ?_
  rintro e w3 ⟨hee, hch, hby⟩
  have e1 : min (c.L - o') 1 = 1 := by omega
  rw [e1] at hee hch hby
  have hch' := hch.undrew
  have hx := hby 0 (by omega)
  have hB3 : BR w3 c.B c.rb c.ro o' f buf vb := HB1.out.keep5 hch' (fun x hx h => by omega) (fun j hj h => ⟨_, by have : j = 0 := by omega
                                                                                                                  subst this; exact hx⟩)
  have hc3 : Chg (OwnT c.B tb tj) w1 w3 := Hc1.out.trans (hch'.mono fun _ _ _ h => .inl h.1)
  have he3 := He1.out.keepB hch' (fun _ _ h => h.1)
  have hu3 := hch'.keep Hu1.out (by rintro ⟨h, -⟩; exact t1 h)
  have hl3 := hch'.lt hl1
  have hl3t := hch'.lt hl1t
  have huf3 := (hch'.frozen tb tj hl1t).trans Huf1.out
  simp only [Nat.add_zero] at hx
  have HB3 := Lib.hid hB3
  have Hc3 := Lib.hid hc3
  have He3 := Lib.hid he3
  have Hu3 := Lib.hid hu3
  have Huf3 := Lib.hid huf3
  have heE := he3.eofs.e
  clear hch hby hch' hB3 hc3 he3 e1 hl1 hl1t c0 c2 c3 f2 f3
  obtain ⟨ev, rfl, hev⟩ : ∃ ev, e = .returned (.tuple #[.int .i64 1, ev]) ∧ (ev = .nilIface ∨ ev = .iface 101 (.pointer (some c.ee))) := by
    rcases hee with rfl | rfl
    · exact ⟨_, rfl, .inl rfl⟩
    · exact ⟨_, rfl, .inr rfl⟩
  clear hee
  have Hev := Lib.hid hev; clear hev
  have Hx := Lib.hid hx; clear hx
  clear hu3 huf3
  refine hK _ _ ?_
  clear hK K
  repeat (first | (refine wpTxt_pure rfl rfl (fun K hK => ?_); go_simp; refine hK _ ?_; clear hK K) | (refine wpTxt_still rfl rfl (fun K hK => ?_); go_simp; refine hK _ ?_; clear hK K))
  refine wpTxt_nil ?_
  go_upto_region 6 with fail
  go_cut [51] (fun v wx => v = .bool false ∧ w3 = wx)
  case first =>
    obtain rfl | rfl := Hev.out
    · go_wp2
      go_meet
      exact ⟨rfl, rfl⟩
    · have hq := neq_err_same c.ee w3
      go_wp2
      go_meet
      exact ⟨rfl, rfl⟩
  case rest =>
    obtain ⟨rfl, rfl⟩ := hcut
    have hx := Hx.out
    have hu3 := Hu3.out
    have huf3 := Huf3.out
    have c2 := HB3.out.bo
    have c3 := HB3.out.bi
    have f2 := HB3.out.fr 2 (by omega)
    have f3 := HB3.out.fr 3 (by omega)
    clear heE
    have hoj : (o' : Int) + 1 = q := by have := Hq.out; omega
    have hc4 := (Chg.refl (OwnT c.B tb tj) w3).setCell tb tj (fun _ => .inr ⟨rfl, rfl⟩) (.int .u8 (c.D o'))
    have hv4 : (w3.setCell ⟨tb, tj, none⟩ (.int .u8 (c.D o'))).cell? ⟨tb, tj, none⟩ = some (.int .u8 (c.D o')) := World.cell?_setCell_same _ _ _ hu3
    have hc4' := (Chg.refl (fun k x => k = tb ∧ x = tj) w3).setCell tb tj (fun _ => ⟨rfl, rfl⟩) (.int .u8 (c.D o'))
    have hB4 := HB3.out.keep hc4' (by rintro x ⟨h, -⟩; exact t1 h.symm)
    have he4 := He3.out.keep hc4' (by rintro k x ⟨rfl, -⟩; exact ⟨t3, t2, t4⟩)
    have hB5 := (hB4.off' q).bit' 0
    generalize hw4 : w3.setCell ⟨tb, tj, none⟩ (.int .u8 (c.D o')) = w4 at hc4 hv4 hc4' hB4 he4 hB5
    have hc5 := ((Chg.refl (Own c.B) w4).own 2 (.int .i64 q)).own 3 (.int .u64 (0 : Nat))
    have he5 := he4.keepB hc5 (fun _ _ h => h)
    have hv5 := hc5.keep hv4 t1
    have hcall := fill_ok c q 0 _ _ _ he5 hB5 (by omega)
    have hc6 : Chg (OwnT c.B tb tj) w1 _ := (Hc3.out.trans hc4).trans (hc5.mono fun _ _ _ h => .inl h)
    rw [show ((0 : Nat) : Int) = 0 from rfl, ← hw4] at hcall hc6 hv5
    clear hw4 hc4 hv4 hc4' hB4 he4 hB5 hc5 he5
    have Hcall := Lib.hid hcall; clear hcall
    have Hc6 := Lib.hid hc6; clear hc6
    have Hv5 := Lib.hid hv5; clear hv5
    clear w4
    go_wp2_with fail
    refine Hcall.out.mono ?_
    rintro e w7 ⟨rfl, h1, h2⟩
    have hv7 := h1.keep Hv5.out t1
    have hc7 : Chg (OwnT c.B tb tj) w1 w7 := Hc6.out.trans (h1.mono fun _ _ _ h => .inl h)
    have Hv7 := Lib.hid hv7; clear hv7
    have Hc7 := Lib.hid hc7; clear hc7
    have H2 := Lib.hid h2; clear h2
    clear h1 hx hu3 huf3 c2 c3 f2 f3
    go_wp2_with fail
    go_ret
    exact ⟨rfl, Hc7.out, Hv7.out, H2.out⟩
theorem RS.lt {c : RC} {w : World} {o f : Nat} (h : RS c w o f) : c.B < w.heap.size := by obtain ⟨_, _, hb, _⟩ := h.br; exact hb.lt
theorem RS.blt {c : RC} {w : World} {o f : Nat} (h : RS c w o f) (hL : 0 < c.L) : c.b < w.heap.size := World.block_lt_of_cell? w _ (h.env.data.bytes 0 hL)
theorem RS.rlt {c : RC} {w : World} {o f : Nat} (h : RS c w o f) : c.rb < w.heap.size := by obtain ⟨_, _, hr⟩ := h.env.rdr; exact hr.lt
theorem RS.alloc {c : RC} {w : World} {o f : Nat} (h : RS c w o f) (x : Obj) : RS c (w.alloc x) o f := h.keep (Chg.new w x) (fun _ _ h => h.elim)
set_option maxRecDepth 100000 in
set_option maxHeartbeats 1000000 in
theorem readByte_ok (c : RC) (o f : Nat) (w : World) (h : RS c w o f) (ho : o + (f + 7) / 8 < c.L) :
    Calls Tryz.prog 134 #[.pointer (some ⟨c.B, 0, none⟩)] w fun e w' =>
      e = .returned (.tuple #[.int .u8 (c.D (o + (f + 7) / 8)), .nilIface]) ∧ Chg (Own c.B) w w' ∧ NS c w' (o + (f + 7) / 8 + 1) 0 := by
  have l1 := h.lt
  have l2 := h.rlt
  have l3 := h.blt (by omega)
  have g1 := h.env.gB
  have hcall := aligned8_ok c o f w.heap.size 0 (.int .u8 0) (w.alloc (.cells #[.int .u8 0] 5)) (h.alloc _) ho (by simp) (by simp) (by omega) (by omega) (by omega) (by omega)
  have H := Lib.hid hcall; clear hcall h ho
  go_enter Tryz.func134, Tryz.ntmps134
  go_wp2_with fail
  refine H.out.mono ?_
  rintro e w1 ⟨rfl, h1, h2, h3⟩
  have H1 := Lib.hid (h1.unalloc (T := Own c.B) (by rintro k x hk (h | h); exact h; omega)); clear h1
  have H3 := Lib.hid h3; clear h3
  go_wp2_with fail
  go_ret2
  exact ⟨rfl, H1.out, H3.out⟩
end Go.Proofs.YtameepdbnnaaaaaGreatDoor
/- The reader of a bitmap by words. -/
namespace Go.Proofs.YtameepdbnnaaaaaGreatDoor
open Go Go.RowKit
set_option maxRecDepth 100000 in
set_option maxHeartbeats 1000000 in
theorem toLE_ok (v : Int) (w : World) : Calls Tryz.prog 100 #[.int .u64 v] w fun e w' => e = .returned (.int .u64 v) ∧ w' = w := by
  go_enter Tryz.func100, Tryz.ntmps100
  go_wp2_with fail
  go_ret
  exact ⟨rfl, rfl⟩
set_option maxRecDepth 100000 in
set_option maxHeartbeats 1000000 in
theorem getLSB_ok (v : Nat) (w : World) : Calls Tryz.prog 107 #[.int .u64 v] w fun e w' => e = .returned (.int .u8 (v % 256 : Nat)) ∧ w' = w := by
  have hw : IntKind.u8.wrap (v : Int) = (v % 256 : Nat) := by rw [IntKind.wrap_u8]; omega
  go_enter Tryz.func107, Tryz.ntmps107
  go_wp2_with fail
  go_ret
  exact ⟨rfl, rfl⟩
/-- The lowest byte laid anew. -/
def lsb (v x : Nat) : Nat := (v &&& (2 ^ 64 - 1 - 255)) ||| x
theorem lsb_lt (v x : Nat) (hv : v < 2 ^ 64) (hx : x < 256) : lsb v x < 2 ^ 64 := or64_lt _ _ (and64_lt _ _ hv) (Nat.lt_trans hx (by decide))
theorem tb_255 (t : Nat) : (255 : Nat).testBit t = decide (t < 8) := tb_ones 8 t
theorem lsb_tb (v x t : Nat) (hx : x < 256) (ht : t < 8) : (lsb v x).testBit t = x.testBit t := by
  unfold lsb
  rw [Nat.testBit_or, Nat.testBit_and, tb_not64 255 t (by decide) (by omega), tb_255, decide_eq_true ht]
  simp
set_option maxRecDepth 100000 in
set_option maxHeartbeats 1000000 in
theorem setLSB_ok (b o v x : Nat) (w : World) (hv : v < 2 ^ 64) (hx : x < 256) (hc : w.cell? ⟨b, o, none⟩ = some (.int .u64 v)) (hf : w.frozen? ⟨b, o, none⟩ = false) :
    Calls Tryz.prog 101 #[.pointer (some ⟨b, o, none⟩), .int .u8 x] w fun e w' => e = .returned (.tuple #[]) ∧ w.setCell ⟨b, o, none⟩ (.int .u64 (lsb v x : Nat)) = w' := by
  have h1 : bits .andNot .u64 (v : Int) 255 = ((v &&& (2 ^ 64 - 1 - 255) : Nat) : Int) := u64_andNot_nat v 255 hv (by decide)
  have h2 := u64_or_nat (v &&& (2 ^ 64 - 1 - 255)) x (and64_lt _ _ hv) (Nat.lt_trans hx (by decide))
  have h3 : (v &&& (2 ^ 64 - 1 - 255)) ||| x = lsb v x := rfl
  rw [h3] at h2
  obtain ⟨L, hL⟩ : ∃ L, L = lsb v x := ⟨_, rfl⟩
  obtain ⟨A, hA⟩ : ∃ A, A = v &&& (2 ^ 64 - 1 - 255) := ⟨_, rfl⟩
  rw [← hL] at h2 ⊢
  rw [← hA] at h1 h2
  have hw : IntKind.u64.wrap (x : Int) = x := IntWalk.u64_in _ (by omega)
  clear hv h3 hL hA
  go_enter Tryz.func101, Tryz.ntmps101
  go_wp2_with fail
  go_end0
  exact ⟨rfl, rfl⟩
/-- A word of a bitmap. -/
theorem leBits_ok (b off n j len cap : Nat) (β : Nat → Bool) (w : World) (hB : Bmp w b off n β) (hj : j + 8 ≤ n) (hl : 8 ≤ len) :
    Calls Tryz.prog 42 #[.agg #[], .slice (some ⟨b, off + j, none⟩) len cap] w fun e w' => ∃ V : Nat, e = .returned (.int .u64 V) ∧ Num64 β (8 * j) V ∧ Chg Nix w w' := by
  obtain ⟨E, hE, hby, hbt⟩ := hB.bytes
  refine (le64_any b (off + j) len cap (fun i => E (j + i)) (fun i => hE _) w hl ((hby.sub j 8 hj))).mono ?_
  rintro e w' ⟨rfl, hc⟩
  refine ⟨_, rfl, ⟨leV_lt (fun i => E (j + i)) (fun i => hE _) 0 8, fun t ht => ?_⟩, hc⟩
  rw [leV_tb (fun i => E (j + i)) (fun i => hE _) 8 0 t (by omega), hbt _ (by omega) _ (by omega)]
  congr 1; omega
set_option maxRecDepth 100000 in
set_option maxHeartbeats 1000000 in
theorem put64_ok (b o len cap v : Nat) (w : World) (hv : v < 2 ^ 64) (hl : 8 ≤ len) (hc : ∀ j, j < 8 → ∃ u : Nat, w.cell? ⟨b, o + j, none⟩ = some (.int .u8 u)) (hf : ∀ j, j < 8 → w.frozen? ⟨b, o + j, none⟩ = false) :
    Calls Tryz.prog 102 #[.agg #[], .slice (some ⟨b, o, none⟩) len cap, .int .u64 v] w fun e w' => e = .returned (.tuple #[]) ∧ Chg (fun k x => k = b ∧ o ≤ x ∧ x < o + 8) w w' ∧ Bytes w' b o 8 (fun i => v / 256 ^ i % 256) := by
  obtain ⟨u0, c0⟩ := hc 0 (by omega)
  have f0 := hf 0 (by omega)
  obtain ⟨u1, c1⟩ := hc 1 (by omega)
  have f1 := hf 1 (by omega)
  obtain ⟨u2, c2⟩ := hc 2 (by omega)
  have f2 := hf 2 (by omega)
  obtain ⟨u3, c3⟩ := hc 3 (by omega)
  have f3 := hf 3 (by omega)
  obtain ⟨u4, c4⟩ := hc 4 (by omega)
  have f4 := hf 4 (by omega)
  obtain ⟨u5, c5⟩ := hc 5 (by omega)
  have f5 := hf 5 (by omega)
  obtain ⟨u6, c6⟩ := hc 6 (by omega)
  have f6 := hf 6 (by omega)
  obtain ⟨u7, c7⟩ := hc 7 (by omega)
  have f7 := hf 7 (by omega)
  simp only [Nat.add_zero] at c0 f0
  have hl0 : 0 < len := by omega
  have w0 : IntKind.u8.wrap (v : Int) = (v / 256 ^ 0 % 256 : Nat) := by rw [IntKind.wrap_u8, Nat.pow_zero, Nat.div_one]; omega
  have w1 : IntKind.u8.wrap ((v : Int) / 256) = (v / 256 ^ 1 % 256 : Nat) := by rw [IntKind.wrap_u8, show (256 : Nat) ^ 1 = 256 from rfl]; omega
  have w2 : IntKind.u8.wrap ((v : Int) / 65536) = (v / 256 ^ 2 % 256 : Nat) := by rw [IntKind.wrap_u8, show (256 : Nat) ^ 2 = 65536 from rfl]; omega
  have w3 : IntKind.u8.wrap ((v : Int) / 16777216) = (v / 256 ^ 3 % 256 : Nat) := by rw [IntKind.wrap_u8, show (256 : Nat) ^ 3 = 16777216 from rfl]; omega
  have w4 : IntKind.u8.wrap ((v : Int) / 4294967296) = (v / 256 ^ 4 % 256 : Nat) := by rw [IntKind.wrap_u8, show (256 : Nat) ^ 4 = 4294967296 from rfl]; omega
  have w5 : IntKind.u8.wrap ((v : Int) / 1099511627776) = (v / 256 ^ 5 % 256 : Nat) := by rw [IntKind.wrap_u8, show (256 : Nat) ^ 5 = 1099511627776 from rfl]; omega
  have w6 : IntKind.u8.wrap ((v : Int) / 281474976710656) = (v / 256 ^ 6 % 256 : Nat) := by rw [IntKind.wrap_u8, show (256 : Nat) ^ 6 = 281474976710656 from rfl]; omega
  have w7 : IntKind.u8.wrap ((v : Int) / 72057594037927936) = (v / 256 ^ 7 % 256 : Nat) := by rw [IntKind.wrap_u8, show (256 : Nat) ^ 7 = 72057594037927936 from rfl]; omega
  obtain ⟨x0, hx0⟩ : ∃ x, x = v / 256 ^ 0 % 256 := ⟨_, rfl⟩
  rw [← hx0] at w0
  have X0 := Lib.hid hx0; clear hx0
  obtain ⟨x1, hx1⟩ : ∃ x, x = v / 256 ^ 1 % 256 := ⟨_, rfl⟩
  rw [← hx1] at w1
  have X1 := Lib.hid hx1; clear hx1
  obtain ⟨x2, hx2⟩ : ∃ x, x = v / 256 ^ 2 % 256 := ⟨_, rfl⟩
  rw [← hx2] at w2
  have X2 := Lib.hid hx2; clear hx2
  obtain ⟨x3, hx3⟩ : ∃ x, x = v / 256 ^ 3 % 256 := ⟨_, rfl⟩
  rw [← hx3] at w3
  have X3 := Lib.hid hx3; clear hx3
  obtain ⟨x4, hx4⟩ : ∃ x, x = v / 256 ^ 4 % 256 := ⟨_, rfl⟩
  rw [← hx4] at w4
  have X4 := Lib.hid hx4; clear hx4
  obtain ⟨x5, hx5⟩ : ∃ x, x = v / 256 ^ 5 % 256 := ⟨_, rfl⟩
  rw [← hx5] at w5
  have X5 := Lib.hid hx5; clear hx5
  obtain ⟨x6, hx6⟩ : ∃ x, x = v / 256 ^ 6 % 256 := ⟨_, rfl⟩
  rw [← hx6] at w6
  have X6 := Lib.hid hx6; clear hx6
  obtain ⟨x7, hx7⟩ : ∃ x, x = v / 256 ^ 7 % 256 := ⟨_, rfl⟩
  rw [← hx7] at w7
  have X7 := Lib.hid hx7; clear hx7
  have hb := World.block_lt_of_cell? w _ c0
  clear hv hc hf
  go_enter Tryz.func102, Tryz.ntmps102
  go_wp2_with fail
  go_end0
  refine ⟨rfl, (((((((((Chg.refl _ _).setCell b (o) (fun _ => ⟨rfl, by omega, by omega⟩) _).setCell b (o + 1) (fun _ => ⟨rfl, by omega, by omega⟩) _).setCell b (o + 2) (fun _ => ⟨rfl, by omega, by omega⟩) _).setCell b (o + 3) (fun _ => ⟨rfl, by omega, by omega⟩) _).setCell b (o + 4) (fun _ => ⟨rfl, by omega, by omega⟩) _).setCell b (o + 5) (fun _ => ⟨rfl, by omega, by omega⟩) _).setCell b (o + 6) (fun _ => ⟨rfl, by omega, by omega⟩) _).setCell b (o + 7) (fun _ => ⟨rfl, by omega, by omega⟩) _).alloc _, fun j hj => cell_alloc _ ?_⟩
  have hj8 : j = 0 ∨ j = 1 ∨ j = 2 ∨ j = 3 ∨ j = 4 ∨ j = 5 ∨ j = 6 ∨ j = 7 := by omega
  rcases hj8 with rfl | rfl | rfl | rfl | rfl | rfl | rfl | rfl
  · show _ = some (Value.int .u8 ((v / 256 ^ 0 % 256 : Nat) : Int))
    rw [← X0.out]; go_cell
  · show _ = some (Value.int .u8 ((v / 256 ^ 1 % 256 : Nat) : Int))
    rw [← X1.out]; go_cell
  · show _ = some (Value.int .u8 ((v / 256 ^ 2 % 256 : Nat) : Int))
    rw [← X2.out]; go_cell
  · show _ = some (Value.int .u8 ((v / 256 ^ 3 % 256 : Nat) : Int))
    rw [← X3.out]; go_cell
  · show _ = some (Value.int .u8 ((v / 256 ^ 4 % 256 : Nat) : Int))
    rw [← X4.out]; go_cell
  · show _ = some (Value.int .u8 ((v / 256 ^ 5 % 256 : Nat) : Int))
    rw [← X5.out]; go_cell
  · show _ = some (Value.int .u8 ((v / 256 ^ 6 % 256 : Nat) : Int))
    rw [← X6.out]; go_cell
  · show _ = some (Value.int .u8 ((v / 256 ^ 7 % 256 : Nat) : Int))
    rw [← X7.out]; go_cell
end Go.Proofs.YtameepdbnnaaaaaGreatDoor
