/- Part 5 of the proof: the texts BP, P1, P2, PE, PF, joined. What each proves stands ahead of it. -/
import Derived.Test.YtflgbndhahcdnaaGreatDoorKD
import Derived.Test.YtflgbndhahcdnaaGreatDoorKC
set_option linter.unusedVariables false
set_option linter.unusedSimpArgs false
/- Words of 64 bits by their bits. No program in sight. -/
namespace Go.Proofs.YtflgbndhahcdnaaGreatDoor
open Go Go.RowKit
theorem tb_cat (a b t : Nat) (ha : a < 256) : (a + 256 * b).testBit t = if t < 8 then a.testBit t else b.testBit (t - 8) := by
  rw [Nat.add_comm]; exact Nat.testBit_two_pow_mul_add b (i := 8) ha t
theorem leV_tb (D : Nat → Nat) (hD : ∀ j, D j < 256) : ∀ (n p t : Nat), t < 8 * n → (leV D p n).testBit t = (D (p + t / 8)).testBit (t % 8)
  | 0, p, t, h => by omega
  | n + 1, p, t, h => by
    rw [leV, tb_cat _ _ _ (hD p)]
    by_cases ht : t < 8
    · rw [if_pos ht, show t / 8 = 0 by omega, show t % 8 = t by omega, Nat.add_zero]
    · rw [if_neg ht, leV_tb D hD n (p + 1) (t - 8) (by omega)]
      congr 1
      · congr 1; omega
      · omega
theorem byte_tb (v j t : Nat) (ht : t < 8) : (v / 256 ^ j % 256).testBit t = v.testBit (8 * j + t) := by
  rw [show (256 : Nat) = 2 ^ 8 from rfl, ← Nat.pow_mul, Nat.testBit_mod_two_pow, Nat.testBit_div_two_pow]
  simp [ht, Nat.add_comm]
theorem u64_and_nat (x y : Nat) (hx : x < 2 ^ 64) (hy : y < 2 ^ 64) : bits .and .u64 (x : Int) y = ((x &&& y : Nat) : Int) := (bits_nat .u64 64 (by decide) wraps_u64 x y hx hy).1
theorem u64_or_nat (x y : Nat) (hx : x < 2 ^ 64) (hy : y < 2 ^ 64) : bits .or .u64 (x : Int) y = ((x ||| y : Nat) : Int) := (bits_nat .u64 64 (by decide) wraps_u64 x y hx hy).2
theorem u64_andNot_nat (x y : Nat) (hx : x < 2 ^ 64) (hy : y < 2 ^ 64) : bits .andNot .u64 (x : Int) y = ((x &&& (2 ^ 64 - 1 - y) : Nat) : Int) := by
  have e0 : bits .andNot .u64 (x : Int) y = IntKind.u64.wrap ((BitVec.ofNat 64 x &&& ~~~BitVec.ofNat 64 y).toNat : Int) := by
    simp only [bits, BitVec.ofInt_natCast]; rfl
  have e1 : x % 2 ^ 64 = x := Nat.mod_eq_of_lt hx
  have e2 : y % 2 ^ 64 = y := Nat.mod_eq_of_lt hy
  rw [e0, BitVec.toNat_and, BitVec.toNat_not, BitVec.toNat_ofNat, BitVec.toNat_ofNat, e1, e2]
  have := Nat.lt_of_le_of_lt (Nat.and_le_left (n := x) (m := 2 ^ 64 - 1 - y)) hx
  exact wraps_u64 _ (by omega) (by exact_mod_cast this)
theorem tb_not64 (y t : Nat) (hy : y < 2 ^ 64) (ht : t < 64) : (2 ^ 64 - 1 - y).testBit t = !y.testBit t := by
  have := Nat.testBit_two_pow_sub_succ (x := y) (n := 64) hy t
  rw [show (2 : Nat) ^ 64 - (y + 1) = 2 ^ 64 - 1 - y by omega] at this
  rw [this, decide_eq_true ht, Bool.true_and]
def shl64 (x k : Nat) : Nat := x * 2 ^ k % 2 ^ 64
theorem shl64_lt (x k : Nat) : shl64 x k < 2 ^ 64 := Nat.mod_lt _ (by decide)
theorem shl64_is (x k : Nat) : IntKind.u64.wrap ((x : Int) * 2 ^ k) = (shl64 x k : Nat) := by
  rw [IntKind.wrap_u64]; unfold shl64; rw [Int.natCast_emod, Int.natCast_mul, Int.natCast_pow]; rfl
theorem shl64_tb (x k t : Nat) (ht : t < 64) : (shl64 x k).testBit t = (decide (k ≤ t) && x.testBit (t - k)) := by
  unfold shl64
  rw [Nat.testBit_mod_two_pow, Nat.testBit_mul_two_pow, decide_eq_true ht, Bool.true_and]
theorem shr_tb (x k t : Nat) : (x / 2 ^ k).testBit t = x.testBit (t + k) := Nat.testBit_div_two_pow ..
theorem shr_is (x k : Nat) : (x : Int) / 2 ^ k = (x / 2 ^ k : Nat) := by norm_cast
theorem tb_big (x t : Nat) (hx : x < 2 ^ 64) (ht : 64 ≤ t) : x.testBit t = false := Nat.testBit_lt_two_pow (Nat.lt_of_lt_of_le hx (Nat.pow_le_pow_right (by decide) ht))
theorem tb_ones (r t : Nat) : (2 ^ r - 1).testBit t = decide (t < r) := Nat.testBit_two_pow_sub_one ..
theorem or64_lt (x y : Nat) (hx : x < 2 ^ 64) (hy : y < 2 ^ 64) : x ||| y < 2 ^ 64 := Nat.or_lt_two_pow hx hy
theorem and64_lt (x y : Nat) (hx : x < 2 ^ 64) : x &&& y < 2 ^ 64 := Nat.lt_of_le_of_lt Nat.and_le_left hx
/-- The bits of v from place p on, len of them. -/
def paste (β : Nat → Bool) (p len v : Nat) : Nat → Bool := fun i => if p ≤ i ∧ i < p + len then v.testBit (i - p) else β i
/-- A number whose bits are those of a row from bit p on. -/
structure Num64 (β : Nat → Bool) (p v : Nat) : Prop where
  lt : v < 2 ^ 64
  tb : ∀ t, t < 64 → v.testBit t = β (p + t)
/-- The bytes of a bitmap. -/
theorem Bmp.bytes {w : World} {b off n : Nat} {β : Nat → Bool} (h : Bmp w b off n β) : ∃ E : Nat → Nat, (∀ j, E j < 256) ∧ Bytes w b off n E ∧ ∀ j, j < n → ∀ t, t < 8 → (E j).testBit t = β (8 * j + t) := by
  have : ∀ j, ∃ x : Nat, x < 256 ∧ (j < n → w.cell? ⟨b, off + j, none⟩ = some (.int .u8 x) ∧ ∀ t, t < 8 → x.testBit t = β (8 * j + t)) := by
    intro j
    by_cases hj : j < n
    · obtain ⟨x, h1, h2, h3⟩ := h.cell j hj
      exact ⟨x, h2, fun _ => ⟨h1, h3⟩⟩
    · exact ⟨0, by omega, fun h => absurd h hj⟩
  obtain ⟨E, hE⟩ := Classical.axiomOfChoice this
  exact ⟨E, fun j => (hE j).1, fun j hj => ((hE j).2 hj).1, fun j hj => ((hE j).2 hj).2⟩
/-- Eight bytes are laid. -/
theorem Bmp.put64 {w w' : World} {b off n : Nat} {β : Nat → Bool} (h : Bmp w b off n β) (j v : Nat) (hj : j + 8 ≤ n) (hc : Chg (fun k x => k = b ∧ off + j ≤ x ∧ x < off + j + 8) w w') (hb : Bytes w' b (off + j) 8 (fun i => v / 256 ^ i % 256)) : Bmp w' b off n (paste β (8 * j) 64 v) := by
  refine ⟨fun i hi => ?_, fun i hi => let ⟨x, h1, h2⟩ := h.cell i hi; (hc.frozen _ _ (World.block_lt_of_cell? w _ h1)).trans (h.fr i hi)⟩
  by_cases hij : j ≤ i ∧ i < j + 8
  · have := hb (i - j) (by omega)
    rw [show off + j + (i - j) = off + i by omega] at this
    refine ⟨_, this, Nat.mod_lt _ (by decide), fun t ht => ?_⟩
    rw [byte_tb _ _ _ ht]
    unfold paste
    rw [if_pos (by omega)]
    congr 1; omega
  · obtain ⟨x, h1, h2, h3⟩ := h.cell i hi
    refine ⟨x, hc.keep h1 (by rintro ⟨-, h⟩; omega), h2, fun t ht => ?_⟩
    rw [h3 t ht]; unfold paste; rw [if_neg (by omega)]
end Go.Proofs.YtflgbndhahcdnaaGreatDoor
/- Runs and groups of a hybrid of runs and packed numbers: what bytes hold. No program in sight. -/
namespace Go.Proofs.YtflgbndhahcdnaaGreatDoor
/-- m numbers of W bits from bit p on. -/
def bitsL (D : Nat → Nat) (p W : Nat) : Nat → List Nat
  | 0 => []
  | m + 1 => bitsV D p W :: bitsL D (p + W) W m
theorem bitsL_length (D : Nat → Nat) (W : Nat) : ∀ (m p : Nat), (bitsL D p W m).length = m
  | 0, p => rfl
  | m + 1, p => by rw [bitsL, List.length_cons, bitsL_length D W m]
theorem bitsL_get (D : Nat → Nat) (W : Nat) : ∀ (m p j : Nat), j < m → (bitsL D p W m)[j]? = some (bitsV D (p + j * W) W)
  | 0, p, j, h => absurd h (Nat.not_lt_zero _)
  | m + 1, p, 0, h => by rw [bitsL, Nat.zero_mul, Nat.add_zero]; rfl
  | m + 1, p, j + 1, h => by
    rw [bitsL, List.getElem?_cons_succ, bitsL_get D W m (p + W) j (by omega), Nat.succ_mul]
    congr 2; omega
theorem bitsL_drop (D : Nat → Nat) (W : Nat) : ∀ (k m p : Nat), k ≤ m → (bitsL D p W m).drop k = bitsL D (p + k * W) W (m - k)
  | 0, m, p, h => by rw [Nat.zero_mul]; rfl
  | k + 1, 0, p, h => by omega
  | k + 1, m + 1, p, h => by
    rw [bitsL, List.drop_succ_cons, bitsL_drop D W k m (p + W) (by omega), Nat.succ_mul, show m + 1 - (k + 1) = m - k by omega]
    congr 1; omega
/-- Bytes from q on, below L, are runs and groups of numbers of W bits, of which vs are the first ones. -/
inductive Runs (D : Nat → Nat) (L W : Nat) : Nat → List Nat → Prop
  | nil (q : Nat) : Runs D L W q []
  | rep (q k n : Nat) (vs : List Nat) : Leb D q k (2 * n) → 1 ≤ n → n ≤ 2147483647 → q + k + (W + 7) / 8 ≤ L → Runs D L W (q + k + (W + 7) / 8) vs → Runs D L W q (List.replicate n (leV D (q + k) ((W + 7) / 8)) ++ vs)
  | lit (q k n : Nat) (vs : List Nat) : Leb D q k (2 * n + 1) → 1 ≤ n → n ≤ 268435455 → q + k + n * W ≤ L → Runs D L W (q + k + n * W) vs → Runs D L W q (bitsL D (8 * (q + k)) W (8 * n) ++ vs)
/-- Where a reader of runs stands: vs are the next numbers. -/
inductive Pos (D : Nat → Nat) (L W : Nat) : Nat → Nat → Nat → Nat → Nat → List Nat → Prop
  | rep (n cur o f : Nat) (us : List Nat) : 1 ≤ n → n ≤ 2147483647 → Runs D L W (o + (f + 7) / 8) us → Pos D L W n 0 cur o f (List.replicate n cur ++ us)
  | lit (n cur o f q : Nat) (us : List Nat) : 1 ≤ n → n ≤ 2147483647 → 8 * q = 8 * o + f + n * W → q ≤ L → Runs D L W q us → Pos D L W 0 n cur o f (bitsL D (8 * o + f) W n ++ us)
  | idle (cur o f : Nat) (vs : List Nat) : Runs D L W (o + (f + 7) / 8) vs → Pos D L W 0 0 cur o f vs
theorem drop_rep (n m v : Nat) (us : List Nat) (h : m ≤ n) : (List.replicate n v ++ us).drop m = List.replicate (n - m) v ++ us := by
  rw [List.drop_append_of_le_length (by simpa using h), List.drop_replicate]
theorem drop_lit (D : Nat → Nat) (p W n m : Nat) (us : List Nat) (h : m ≤ n) : (bitsL D p W n ++ us).drop m = bitsL D (p + m * W) W (n - m) ++ us := by
  rw [List.drop_append_of_le_length (by rw [bitsL_length]; exact h), bitsL_drop D W m n p h]
/-- m of a run are taken. -/
theorem Pos.took_rep {D : Nat → Nat} {L W n cur o f m : Nat} {vs : List Nat} (h : Pos D L W n 0 cur o f vs) (hn : 1 ≤ n) (hm : m ≤ n) : Pos D L W (n - m) 0 cur o f (vs.drop m) ∧ ∀ j, j < m → vs[j]? = some cur := by
  cases h with
  | rep _ _ _ _ us h1 h2 hr =>
    rw [drop_rep _ _ _ _ hm]
    refine ⟨?_, fun j hj => ?_⟩
    · by_cases e : m = n
      · subst e; rw [Nat.sub_self]; exact .idle _ _ _ _ hr
      · exact .rep _ _ _ _ _ (by omega) (by omega) hr
    · rw [List.getElem?_append_left (by simp; omega), List.getElem?_replicate, if_pos (by omega)]
  | lit _ _ _ _ q us h1 h2 hq hL hr => omega
  | idle => omega
/-- m of a group are taken. -/
theorem Pos.took_lit {D : Nat → Nat} {L W n cur o f o' f' m : Nat} {vs : List Nat} (h : Pos D L W 0 n cur o f vs) (hn : 1 ≤ n) (hm : m ≤ n) (hp : 8 * o' + f' = 8 * o + f + m * W) : Pos D L W 0 (n - m) cur o' f' (vs.drop m) ∧ (∀ j, j < m → vs[j]? = some (bitsV D (8 * o + f + j * W) W)) ∧ 8 * o + f + n * W ≤ 8 * L := by
  cases h with
  | lit _ _ _ _ q us h1 h2 hq hL hr =>
    rw [drop_lit _ _ _ _ _ _ hm]
    have e1 : n * W = m * W + (n - m) * W := by rw [← Nat.add_mul]; congr 1; omega
    refine ⟨?_, fun j hj => ?_, by omega⟩
    · rw [← hp]
      by_cases e : m = n
      · subst e
        rw [Nat.sub_self, bitsL, List.nil_append]
        rw [Nat.sub_self, Nat.zero_mul] at e1
        have : o' + (f' + 7) / 8 = q := by omega
        exact .idle _ _ _ _ (by rw [this]; exact hr)
      · exact .lit _ _ _ _ q us (by omega) (by omega) (by omega) hL hr
    · rw [List.getElem?_append_left (by rw [bitsL_length]; omega), bitsL_get _ _ _ _ _ (by omega)]
  | rep _ _ _ _ us h1 h2 hr => omega
  | idle => omega
/-- There are n numbers at least. -/
theorem Pos.many_lit {D : Nat → Nat} {L W n cur o f : Nat} {vs : List Nat} (h : Pos D L W 0 n cur o f vs) (hn : 1 ≤ n) : n ≤ vs.length := by
  cases h with
  | lit _ _ _ _ q us h1 h2 hq hL hr => rw [List.length_append, bitsL_length]; omega
  | rep _ _ _ _ us h1 h2 hr => omega
  | idle => omega
theorem Pos.many_rep {D : Nat → Nat} {L W n cur o f : Nat} {vs : List Nat} (h : Pos D L W n 0 cur o f vs) (hn : 1 ≤ n) : n ≤ vs.length := by
  cases h with
  | rep _ _ _ _ us h1 h2 hr => rw [List.length_append, List.length_replicate]; omega
  | lit _ _ _ _ q us h1 h2 hq hL hr => omega
  | idle => omega
theorem Pos.cases {D : Nat → Nat} {L W r n cur o f : Nat} {vs : List Nat} (h : Pos D L W r n cur o f vs) : (1 ≤ r ∧ n = 0) ∨ (r = 0 ∧ 1 ≤ n) ∨ (r = 0 ∧ n = 0 ∧ Runs D L W (o + (f + 7) / 8) vs) := by
  cases h with
  | rep _ _ _ _ us h1 h2 hr => exact .inl ⟨h1, rfl⟩
  | lit _ _ _ _ q us h1 h2 hq hL hr => exact .inr (.inl ⟨rfl, h1⟩)
  | idle _ _ _ _ hr => exact .inr (.inr ⟨rfl, rfl, hr⟩)
theorem Pos.bounds {D : Nat → Nat} {L W r n cur o f : Nat} {vs : List Nat} (h : Pos D L W r n cur o f vs) : r ≤ 2147483647 ∧ n ≤ 2147483647 := by
  cases h with
  | rep _ _ _ _ us h1 h2 hr => exact ⟨h2, by omega⟩
  | lit _ _ _ _ q us h1 h2 hq hL hr => exact ⟨by omega, h2⟩
  | idle _ _ _ _ hr => exact ⟨by omega, by omega⟩
end Go.Proofs.YtflgbndhahcdnaaGreatDoor
/- Numbers by sevens, by bytes and by bits as they are written. No program in sight. -/
namespace Go.Proofs.YtflgbndhahcdnaaGreatDoor
/-- Bytes that stand from q on. -/
def StandB (D : Nat → Nat) (q : Nat) (bs : List Nat) : Prop := ∀ j v, bs[j]? = some v → D (q + j) = v
theorem StandB.app {D : Nat → Nat} {q : Nat} {xs ys : List Nat} (h : StandB D q (xs ++ ys)) : StandB D q xs ∧ StandB D (q + xs.length) ys := by
  refine ⟨fun j v hv => h j v ?_, fun j v hv => ?_⟩
  · have := (List.getElem?_eq_some_iff.1 hv).1
    rw [List.getElem?_append_left this]; exact hv
  · rw [Nat.add_assoc]
    refine h _ _ ?_
    rw [List.getElem?_append_right (by omega), Nat.add_sub_cancel_left]; exact hv
theorem StandB.cons {D : Nat → Nat} {q x : Nat} {xs : List Nat} (h : StandB D q (x :: xs)) : D q = x ∧ StandB D (q + 1) xs :=
  ⟨h 0 x rfl, fun j v hv => by have := h (j + 1) v (by simpa using hv); rwa [show q + (j + 1) = q + 1 + j by omega] at this⟩
/-- A number by sevens. -/
def vlq (u : Nat) : List Nat := if h : u < 128 then [u] else (u % 128 + 128) :: vlq (u / 128)
termination_by u
decreasing_by omega
theorem vlq_lo (u : Nat) (h : u < 128) : vlq u = [u] := by rw [vlq, dif_pos h]
theorem vlq_hi (u : Nat) (h : ¬ u < 128) : vlq u = (u % 128 + 128) :: vlq (u / 128) := by rw [vlq, dif_neg h]
theorem lebV_front (D : Nat → Nat) (q : Nat) : ∀ k, lebV D q (k + 1) = D q % 128 + 128 * lebV D (q + 1) k
  | 0 => by simp [lebV]
  | k + 1 => by
    have e1 : 2 ^ (7 * (k + 1)) = 128 * 2 ^ (7 * k) := by rw [show 7 * (k + 1) = 7 + 7 * k by omega, Nat.pow_add]
    rw [lebV, lebV_front D q k, lebV, e1, Nat.mul_add, show q + (k + 1) = q + 1 + k by omega, Nat.mul_assoc]
    omega
theorem vlq_len (n : Nat) : ∀ u, u < 2 ^ (7 * (n + 1)) → 1 ≤ (vlq u).length ∧ (vlq u).length ≤ n + 1 := by
  induction n with
  | zero => intro u hu; rw [vlq_lo u (by simpa using hu)]; exact ⟨Nat.le_refl _, Nat.le_refl _⟩
  | succ n ih =>
    intro u hu
    by_cases h : u < 128
    · rw [vlq_lo u h]; simp
    · have e1 : 2 ^ (7 * (n + 1 + 1)) = 128 * 2 ^ (7 * (n + 1)) := by rw [show 7 * (n + 1 + 1) = 7 + 7 * (n + 1) by omega, Nat.pow_add]
      have := ih (u / 128) (by omega)
      rw [vlq_hi u h, List.length_cons]; omega
theorem vlq_pos (u : Nat) : 1 ≤ (vlq u).length := by
  by_cases h : u < 128
  · rw [vlq_lo u h]; simp
  · rw [vlq_hi u h]; simp
theorem vlq_is (D : Nat → Nat) (n : Nat) : ∀ u q, u < 2 ^ (7 * (n + 1)) → StandB D q (vlq u) →
    lebV D q (vlq u).length = u ∧ (∀ i, i + 1 < (vlq u).length → 128 ≤ D (q + i)) ∧ D (q + (vlq u).length - 1) < 128 := by
  induction n with
  | zero =>
    intro u q hu hs
    have hu' : u < 128 := by simpa using hu
    rw [vlq_lo u hu'] at hs ⊢
    have h0 := hs.cons.1
    refine ⟨by simp [lebV, h0]; omega, fun i hi => by simp at hi, ?_⟩
    simp [h0]; exact hu'
  | succ n ih =>
    intro u q hu hs
    by_cases h : u < 128
    · rw [vlq_lo u h] at hs ⊢
      have h0 := hs.cons.1
      refine ⟨by simp [lebV, h0]; omega, fun i hi => by simp at hi, ?_⟩
      simp [h0]; exact h
    · have e1 : 2 ^ (7 * (n + 1 + 1)) = 128 * 2 ^ (7 * (n + 1)) := by rw [show 7 * (n + 1 + 1) = 7 + 7 * (n + 1) by omega, Nat.pow_add]
      rw [vlq_hi u h] at hs ⊢
      obtain ⟨h0, hs1⟩ := hs.cons
      obtain ⟨i1, i2, i3⟩ := ih (u / 128) (q + 1) (by omega) hs1
      have hp := vlq_pos (u / 128)
      rw [List.length_cons]
      refine ⟨?_, fun i hi => ?_, ?_⟩
      · rw [lebV_front, i1, h0]; omega
      · cases i with
        | zero => rw [Nat.add_zero, h0]; omega
        | succ i => have := i2 i (by omega); rwa [show q + (i + 1) = q + 1 + i by omega]
      · rwa [show q + ((vlq (u / 128)).length + 1) - 1 = q + 1 + (vlq (u / 128)).length - 1 by omega]
theorem vlq_leb (D : Nat → Nat) (u q : Nat) (hu : u < 2 ^ 64) (hs : StandB D q (vlq u)) : Leb D q (vlq u).length u := by
  have h70 : u < 2 ^ (7 * (9 + 1)) := Nat.lt_of_lt_of_le hu (Nat.pow_le_pow_right (by decide) (by decide))
  obtain ⟨h1, h2⟩ := vlq_len 9 u h70
  obtain ⟨i1, i2, i3⟩ := vlq_is D 9 u q h70 hs
  exact ⟨h1, h2, i2, i3, i1, hu⟩
theorem vlq_byte (n : Nat) : ∀ u, u < 2 ^ (7 * (n + 1)) → ∀ x ∈ vlq u, x < 256 := by
  induction n with
  | zero => intro u hu x hx; rw [vlq_lo u (by simpa using hu)] at hx; simp at hx; have : u < 128 := by simpa using hu
            omega
  | succ n ih =>
    intro u hu x hx
    by_cases h : u < 128
    · rw [vlq_lo u h] at hx; simp at hx; omega
    · have e1 : 2 ^ (7 * (n + 1 + 1)) = 128 * 2 ^ (7 * (n + 1)) := by rw [show 7 * (n + 1 + 1) = 7 + 7 * (n + 1) by omega, Nat.pow_add]
      rw [vlq_hi u h] at hx
      rcases List.mem_cons.1 hx with rfl | hx
      · omega
      · exact ih (u / 128) (by omega) x hx
/-- n bytes of a number, the lowest first. -/
def leB (v : Nat) : Nat → List Nat
  | 0 => []
  | n + 1 => v % 256 :: leB (v / 256) n
theorem leB_length : ∀ (n v : Nat), (leB v n).length = n
  | 0, v => rfl
  | n + 1, v => by rw [leB, List.length_cons, leB_length n]
theorem leB_get : ∀ (n v j : Nat), j < n → (leB v n)[j]? = some (v / 256 ^ j % 256)
  | 0, v, j, h => absurd h (Nat.not_lt_zero _)
  | n + 1, v, 0, h => by simp [leB]
  | n + 1, v, j + 1, h => by rw [leB, List.getElem?_cons_succ, leB_get n (v / 256) j (by omega), Nat.div_div_eq_div_mul, Nat.pow_succ, Nat.mul_comm 256]
theorem leB_stand {D : Nat → Nat} : ∀ (n v q : Nat), v < 256 ^ n → StandB D q (leB v n) → leV D q n = v
  | 0, v, q, hv, _ => by simp at hv; simp [leV, hv]
  | n + 1, v, q, hv, hs => by
    obtain ⟨h0, h1⟩ := hs.cons
    rw [leV, leB_stand n (v / 256) (q + 1) (by rw [Nat.pow_succ] at hv; omega) h1, h0]; omega
/-- A number by its bits. -/
theorem bitsV_of (D : Nat → Nat) : ∀ (W p v : Nat), v < 2 ^ W → (∀ t, t < W → bitB D (p + t) = v / 2 ^ t % 2) → bitsV D p W = v
  | 0, p, v, hv, _ => by simp at hv; simp [bitsV, hv]
  | W + 1, p, v, hv, hb => by
    have h0 := hb 0 (by omega)
    rw [Nat.add_zero, Nat.pow_zero, Nat.div_one] at h0
    rw [bitsV, bitsV_of D W (p + 1) (v / 2) (by rw [Nat.pow_succ] at hv; omega) (fun t ht => ?_), h0]
    · omega
    · have := hb (t + 1) (by omega)
      rw [show p + 1 + t = p + (t + 1) by omega, this, Nat.pow_succ, Nat.mul_comm (2 ^ t) 2, ← Nat.div_div_eq_div_mul]
/-- Numbers by their bits. -/
theorem bitsL_of (D : Nat → Nat) (W : Nat) : ∀ (l : List Nat) (p : Nat), (∀ v ∈ l, v < 2 ^ W) → (∀ j v t, l[j]? = some v → t < W → bitB D (p + j * W + t) = v / 2 ^ t % 2) → bitsL D p W l.length = l
  | [], p, _, _ => rfl
  | x :: l, p, hl, hb => by
    rw [List.length_cons, bitsL, bitsV_of D W p x (hl x (by simp)) (fun t ht => by have := hb 0 x t rfl ht; rwa [Nat.zero_mul, Nat.add_zero] at this)]
    rw [bitsL_of D W l (p + W) (fun v hv => hl v (by simp [hv])) (fun j v t hv ht => by have := hb (j + 1) v t (by simpa using hv) ht; rwa [Nat.succ_mul, show p + (j * W + W) + t = p + W + j * W + t by omega] at this)]
/-- A run of one number. -/
theorem Runs.put_rep {D : Nat → Nat} {L W q n v : Nat} {vs : List Nat} (h1 : 1 ≤ n) (h2 : n ≤ 2147483647) (hv : v < 256 ^ ((W + 7) / 8)) (hs : StandB D q (vlq (2 * n) ++ leB v ((W + 7) / 8))) (hq : q + (vlq (2 * n)).length + (W + 7) / 8 ≤ L) (hr : Runs D L W (q + (vlq (2 * n)).length + (W + 7) / 8) vs) : Runs D L W q (List.replicate n v ++ vs) := by
  have := Runs.rep q (vlq (2 * n)).length n vs (vlq_leb D (2 * n) q (by omega) hs.app.1) h1 h2 hq hr
  rwa [leB_stand _ _ _ hv hs.app.2] at this
/-- A group of numbers. -/
theorem Runs.put_lit {D : Nat → Nat} {L W q n : Nat} {l vs : List Nat} (h1 : 1 ≤ n) (h2 : n ≤ 268435455) (hl : l.length = 8 * n) (hv : ∀ v ∈ l, v < 2 ^ W) (hs : StandB D q (vlq (2 * n + 1))) (hb : ∀ j v t, l[j]? = some v → t < W → bitB D (8 * (q + (vlq (2 * n + 1)).length) + j * W + t) = v / 2 ^ t % 2) (hq : q + (vlq (2 * n + 1)).length + n * W ≤ L) (hr : Runs D L W (q + (vlq (2 * n + 1)).length + n * W) vs) : Runs D L W q (l ++ vs) := by
  have := Runs.lit q (vlq (2 * n + 1)).length n vs (vlq_leb D (2 * n + 1) q (by omega) hs) h1 h2 hq hr
  rwa [← hl, bitsL_of D W l _ hv hb] at this
end Go.Proofs.YtflgbndhahcdnaaGreatDoor
/- The plain law: a number of variable length; bits packed. -/
namespace Go.Proofs.YtflgbndhahcdnaaGreatDoor
open Go Go.RowKit Go.Proofs.YtflgbndhahcdnaaGreatDoor.PFnBoolsRead Go.Proofs.YtflgbndhahcdnaaGreatDoorW.PrintWords Go.Proofs.YtflgbndhahcdnaaGreatDoorW.PrintMore
set_option maxRecDepth 100000 in
theorem or128 : ∀ a : Fin 256, a.val ||| 128 = a.val % 128 + 128 := by decide
theorem putVlq_l0 : ∀ (n u : Nat) (done : List Nat), u < 2 ^ (7 * (n + 1)) → done.length + n ≤ 1000000 → Ev (fun k => spec_PutVLQ.l0 k (u : Int) (ints done)) (ints (done ++ vlq u)) := by
  intro n
  induction n with
  | zero =>
    intro u done hu hd
    have h : u < 128 := by simpa using hu
    refine .now fun k => ?_
    rw [spec_PutVLQ.l0, if_neg (by omega), if_pos (by rw [ints_len]; omega), vlq_lo u h, ints_app, show (u : Int) % 256 = u by omega]
    rfl
  | succ n ih =>
    intro u done hu hd
    by_cases h : u < 128
    · refine .now fun k => ?_
      rw [spec_PutVLQ.l0, if_neg (by omega), if_pos (by rw [ints_len]; omega), vlq_lo u h, ints_app, show (u : Int) % 256 = u by omega]
      rfl
    · have h1 := ih (u / 128) (done ++ [u % 128 + 128]) (by
        have e : (2 : Nat) ^ (7 * (n + 1 + 1)) = 128 * 2 ^ (7 * (n + 1)) := by rw [show 7 * (n + 1 + 1) = 7 * (n + 1) + 7 by omega, Nat.pow_add, Nat.mul_comm]
        rw [e] at hu
        exact Nat.div_lt_of_lt_mul hu) (by rw [List.length_append, List.length_singleton]; omega)
      rw [List.append_assoc] at h1
      rw [vlq_hi u h]
      refine .step (fun k => ?_) h1
      have e1 : ((u : Int) % 256) = ((u % 256 : Nat) : Int) := by omega
      have e2 : ((u : Int) / 128) = ((u / 128 : Nat) : Int) := by omega
      have e3 : (u % 256) ||| 128 = u % 128 + 128 := by
        have := or128 ⟨u % 256, Nat.mod_lt _ (by decide)⟩
        simp only at this
        omega
      rw [spec_PutVLQ.l0, if_pos (by omega), if_pos (by rw [ints_len]; omega), e1, e2, show (128 : Int) = ((128 : Nat) : Int) from rfl, u8_or_nat _ _ (by omega) (by decide), e3, ints_app]
      rfl
theorem putVlq_ev (u : Nat) (hu : u < 2 ^ 63) : Ev (fun k => spec_PutVLQ.f k (u : Int)) (ints (vlq u)) := putVlq_l0 8 u [] (by omega) (by simp)
/-- A bit of a list of numbers of W bits; of a list of bytes. -/
def inBit (vs : List Nat) (W p : Nat) : Bool := (vs.getD (p / W) 0).testBit (p % W)
structure Packed (vs bs : List Nat) (W M i : Nat) : Prop where
  len : bs.length = M
  lt : ∀ x ∈ bs, x < 256
  bit : ∀ p, p < 8 * M → (bs.getD (p / 8) 0).testBit (p % 8) = (decide (p < i) && inBit vs W p)
theorem getD_lt {bs : List Nat} (h : ∀ x ∈ bs, x < 256) (j : Nat) : bs.getD j 0 < 256 := by
  rw [List.getD_eq_getElem?_getD]
  by_cases hj : j < bs.length
  · rw [List.getElem?_eq_getElem hj]; exact h _ (List.getElem_mem _)
  · rw [List.getElem?_eq_none (by omega)]; decide
theorem Packed.step0 {vs bs : List Nat} {W M i : Nat} (h : Packed vs bs W M i) (hb : inBit vs W i = false) : Packed vs bs W M (i + 1) := by
  refine ⟨h.len, h.lt, fun p hp => ?_⟩
  rw [h.bit p hp]
  by_cases hpi : p = i
  · subst hpi; rw [hb]; simp
  · have : decide (p < i) = decide (p < i + 1) := by
      by_cases h1 : p < i
      · rw [decide_eq_true h1, decide_eq_true (by omega)]
      · rw [decide_eq_false h1, decide_eq_false (by omega)]
    rw [this]
theorem Packed.step1 {vs bs : List Nat} {W M i : Nat} (h : Packed vs bs W M i) (hi : i < 8 * M) (hb : inBit vs W i = true) : Packed vs (bs.set (i / 8) (bs.getD (i / 8) 0 ||| 2 ^ (i % 8))) W M (i + 1) := by
  have h2 : (2 : Nat) ^ (i % 8) < 2 ^ 8 := Nat.pow_lt_pow_right (by decide) (Nat.mod_lt _ (by decide))
  have hl := h.len
  refine ⟨by rw [List.length_set]; exact h.len, fun x hx => ?_, fun p hp => ?_⟩
  · rcases List.mem_or_eq_of_mem_set hx with hx | rfl
    · exact h.lt x hx
    · exact Nat.or_lt_two_pow (n := 8) (getD_lt h.lt _) h2
  · rw [List.getD_eq_getElem?_getD, List.getElem?_set]
    have hbit := h.bit p hp
    by_cases hq : i / 8 = p / 8
    · rw [if_pos hq, if_pos (by omega), Option.getD_some, Nat.testBit_or, hq, hbit, Nat.testBit_two_pow]
      by_cases hpi : p = i
      · subst hpi; rw [hb]; simp
      · have h3 : ¬ (i % 8 = p % 8) := by omega
        rw [decide_eq_false h3, Bool.or_false]
        have : decide (p < i) = decide (p < i + 1) := by
          by_cases h1 : p < i
          · rw [decide_eq_true h1, decide_eq_true (by omega)]
          · rw [decide_eq_false h1, decide_eq_false (by omega)]
        rw [this]
    · rw [if_neg hq, ← List.getD_eq_getElem?_getD, hbit]
      have : decide (p < i) = decide (p < i + 1) := by
        by_cases h1 : p < i
        · rw [decide_eq_true h1, decide_eq_true (by omega)]
        · rw [decide_eq_false h1, decide_eq_false (by omega)]
      rw [this]
theorem rd_ints (vs : List Nat) (j : Nat) : rd (ints vs) (j : Int) = (vs.getD j 0 : Nat) := by
  unfold rd ints
  rw [Int.toNat_natCast, List.getD_eq_getElem?_getD, List.getElem?_map, List.getD_eq_getElem?_getD]
  cases vs[j]? <;> rfl
theorem set_ints (bs : List Nat) (j x : Nat) : (ints bs).set j (x : Int) = ints (bs.set j x) := by
  unfold ints; rw [List.map_set]
theorem and_bit (v t : Nat) (hv : v < 2 ^ 64) (ht : t < 64) : (Go.bits .and .u64 (shr .u64 (v : Int) (t : Int)) 1 = 1) ↔ v.testBit t = true := by
  unfold shr
  rw [Int.toNat_natCast, show min t IntKind.u64.bits = t by show min t 64 = t; omega, show ((2 : Int) ^ t) = ((2 ^ t : Nat) : Int) by push_cast; rfl, ← Int.natCast_ediv, show (1 : Int) = ((1 : Nat) : Int) from rfl, u64_and_nat _ _ (Nat.lt_of_le_of_lt (Nat.div_le_self _ _) hv) (by decide), Nat.and_one_is_mod, Nat.testBit_eq_decide_div_mod_eq, decide_eq_true_iff]
  omega
theorem packBits_l0 (vs : List Nat) (W : Nat) (hW1 : 1 ≤ W) (hW2 : W ≤ 64) (hv : ∀ v ∈ vs, v < 2 ^ 64) (hn : vs.length ≤ 10000) (M : Nat) (hM : vs.length * W ≤ 8 * M) : ∀ (n i : Nat) (bs : List Nat), i + n = vs.length * W → Packed vs bs W M i →
    ∃ bs', Ev (fun k => spec_PackBits.l0 k (ints vs) (W : Int) (ints bs) (i : Int)) (ints bs') ∧ Packed vs bs' W M (vs.length * W) := by
  have hT : vs.length * W ≤ 640000 := Nat.le_trans (Nat.mul_le_mul hn hW2) (by decide)
  have hTi : ((ints vs).length : Int) * (W : Int) = (vs.length * W : Nat) := by rw [ints_len]; push_cast; rfl
  have hvs : ∀ j, vs.getD j 0 < 2 ^ 64 := fun j => by
    rw [List.getD_eq_getElem?_getD]
    by_cases hj : j < vs.length
    · rw [List.getElem?_eq_getElem hj]; exact hv _ (List.getElem_mem _)
    · rw [List.getElem?_eq_none (by omega)]; decide
  intro n
  induction n with
  | zero =>
    intro i bs h hp
    refine ⟨bs, .now fun k => ?_, by rw [← h]; exact hp⟩
    rw [spec_PackBits.l0, hTi, w64 _ (by omega), if_neg (by omega)]
  | succ n ih =>
    intro i bs h hp
    have hiW : i / W < vs.length := Nat.div_lt_of_lt_mul (by rw [Nat.mul_comm]; omega)
    have hmW : i % W < W := Nat.mod_lt _ (by omega)
    have hdW : i / W ≤ i := Nat.div_le_self _ _
    have e1 : Int.tdiv (i : Int) (W : Int) = ((i / W : Nat) : Int) := rfl
    have e2 : Int.tmod (i : Int) (W : Int) = ((i % W : Nat) : Int) := rfl
    have e3 : Int.tdiv (i : Int) 8 = ((i / 8 : Nat) : Int) := rfl
    have e4 : Int.tmod (i : Int) 8 = ((i % 8 : Nat) : Int) := rfl
    have hstart : ∀ k, spec_PackBits.l0 (k + 1) (ints vs) (W : Int) (ints bs) (i : Int) = _ := fun k => by
      rw [spec_PackBits.l0, hTi, w64 _ (by omega), if_pos (by omega), if_neg (by omega), e1, e2, e3, e4, w64 (i / W) (by omega), w64 (i / 8) (by omega), if_pos (Int.natCast_nonneg _), if_pos (by rw [ints_len]; exact Int.ofNat_lt.2 hiW), if_pos (Int.natCast_nonneg _), rd_ints vs (i / W), show (i : Int) + 1 = (i + 1 : Nat) by push_cast; rfl, w64 (i + 1) (by omega)]
    by_cases hb : inBit vs W i = true
    · obtain ⟨bs', hr, hr2⟩ := ih (i + 1) _ (by omega) (hp.step1 (by omega) hb)
      refine ⟨bs', .step (fun k => ?_) hr, hr2⟩
      have h2 : (2 : Nat) ^ (i % 8) < 2 ^ 8 := Nat.pow_lt_pow_right (by decide) (Nat.mod_lt _ (by decide))
      have hsh : shl .u8 1 ((i % 8 : Nat) : Int) = ((2 ^ (i % 8) : Nat) : Int) := by
        unfold shl
        rw [Int.toNat_natCast, show min (i % 8) IntKind.u8.bits = i % 8 by show min (i % 8) 8 = i % 8; omega, Int.one_mul, show ((2 : Int) ^ (i % 8)) = ((2 ^ (i % 8) : Nat) : Int) by push_cast; rfl]
        exact IntWalk.u8_in _ ⟨Int.natCast_nonneg _, (by show ((2 ^ (i % 8) : Nat) : Int) ≤ ((255 : Nat) : Int); exact Int.ofNat_le.2 (Nat.le_of_lt_succ h2))⟩
      rw [hstart k, if_pos ((and_bit _ _ (hvs _) (by omega)).2 hb), if_pos (Int.natCast_nonneg _), if_pos (by rw [ints_len, hp.len]; omega), if_pos (Int.natCast_nonneg _), rd_ints bs (i / 8), hsh, u8_or_nat _ _ (getD_lt hp.lt _) h2, Int.toNat_natCast, set_ints]
    · obtain ⟨bs', hr, hr2⟩ := ih (i + 1) bs (by omega) (hp.step0 (by simpa using hb))
      refine ⟨bs', .step (fun k => ?_) hr, hr2⟩
      rw [hstart k, if_neg (fun hh => hb ((and_bit _ _ (hvs _) (by omega)).1 hh))]
theorem packBits_ev (vs : List Nat) (W c : Nat) (hW1 : 1 ≤ W) (hW2 : W ≤ 64) (hv : ∀ v ∈ vs, v < 2 ^ 64) (hc : vs.length = 8 * c) (hcb : c ≤ 1000) :
    ∃ bs, Ev (fun k => spec_PackBits.f k (ints vs) (W : Int)) (ints bs) ∧ Packed vs bs W (c * W) (8 * (c * W)) := by
  have hT : vs.length * W = 8 * (c * W) := by rw [hc, Nat.mul_assoc]
  have hcW : c * W ≤ 64000 := Nat.le_trans (Nat.mul_le_mul hcb hW2) (by decide)
  have hTi : ((ints vs).length : Int) * (W : Int) = (8 * (c * W) : Nat) := by rw [ints_len, ← hT]; push_cast; rfl
  obtain ⟨bs, h1, h2⟩ := packBits_l0 vs W hW1 hW2 hv (by omega) (c * W) (by omega) (vs.length * W) 0 (List.replicate (c * W) 0) (by omega) ⟨List.length_replicate, fun x hx => by rw [List.eq_of_mem_replicate hx]; decide, fun p hp => by
    rw [List.getD_eq_getElem?_getD, List.getElem?_replicate, if_pos (by omega)]; simp⟩
  rw [hT] at h2
  refine ⟨bs, .congr (fun k => ?_) h1, h2⟩
  have e : Int.tdiv ((8 * (c * W) : Nat) + 7 : Int) 8 = ((c * W : Nat) : Int) := by
    rw [show ((8 * (c * W) : Nat) : Int) + 7 = ((8 * (c * W) + 7 : Nat) : Int) by push_cast; rfl]
    show (((8 * (c * W) + 7) / 8 : Nat) : Int) = _
    congr 1; omega
  unfold spec_PackBits.f
  rw [hTi, w64 _ (by omega), show ((8 * (c * W) : Nat) : Int) + 7 = ((8 * (c * W) + 7 : Nat) : Int) by push_cast; rfl, w64 _ (by omega), show Int.tdiv ((8 * (c * W) + 7 : Nat) : Int) 8 = ((c * W : Nat) : Int) from e, w64 _ (by omega), if_pos (by omega), if_pos (by omega), Int.toNat_natCast, show ints (List.replicate (c * W) 0) = List.replicate (c * W) 0 by unfold ints; rw [List.map_replicate]; rfl]
  rfl
end Go.Proofs.YtflgbndhahcdnaaGreatDoor
/- The plain law: runs as they are written stand as runs. -/
namespace Go.Proofs.YtflgbndhahcdnaaGreatDoor
open Go Go.RowKit Go.Proofs.YtflgbndhahcdnaaGreatDoor.PFnBoolsRead Go.Proofs.YtflgbndhahcdnaaGreatDoorW.PrintWords Go.Proofs.YtflgbndhahcdnaaGreatDoorW.PrintMore
theorem packed_bit {vs bs : List Nat} {W M : Nat} {D : Nat → Nat} {q : Nat} (hW : 1 ≤ W) (h : Packed vs bs W M (8 * M)) (hT : vs.length * W = 8 * M) (hs : StandB D q bs) (j v t : Nat) (hj : vs[j]? = some v) (ht : t < W) : bitB D (8 * q + j * W + t) = v / 2 ^ t % 2 := by
  have hjl : j < vs.length := (List.getElem?_eq_some_iff.1 hj).1
  have hp : j * W + t < 8 * M := by
    rw [← hT]
    calc j * W + t < j * W + W := by omega
      _ = (j + 1) * W := by rw [Nat.succ_mul]
      _ ≤ vs.length * W := Nat.mul_le_mul_right _ hjl
  obtain ⟨p, hpe⟩ : ∃ p, p = j * W + t := ⟨_, rfl⟩
  rw [← hpe] at hp
  rw [show 8 * q + j * W + t = 8 * q + p by omega]
  have hb := h.bit p hp
  rw [decide_eq_true hp, Bool.true_and] at hb
  have e1 : p / W = j := by rw [hpe, Nat.mul_comm, Nat.mul_add_div (by omega), Nat.div_eq_of_lt ht, Nat.add_zero]
  have e2 : p % W = t := by rw [hpe, Nat.mul_comm, Nat.mul_add_mod, Nat.mod_eq_of_lt ht]
  unfold inBit at hb
  have hvj : vs.getD j 0 = v := by rw [List.getD_eq_getElem?_getD, hj]; rfl
  rw [e1, e2, hvj] at hb
  have hbl : p / 8 < bs.length := by rw [h.len]; omega
  have hD : D (q + p / 8) = bs.getD (p / 8) 0 := by
    rw [List.getD_eq_getElem?_getD, List.getElem?_eq_getElem hbl]
    exact hs _ _ (List.getElem?_eq_getElem hbl)
  unfold bitB
  rw [show (8 * q + p) / 8 = q + p / 8 by omega, show (8 * q + p) % 8 = p % 8 by omega, hD]
  rw [Nat.testBit_eq_decide_div_mod_eq, Nat.testBit_eq_decide_div_mod_eq] at hb
  have hb2 := decide_eq_decide.1 hb
  omega
theorem put_l2 (W : Nat) (hW2 : W ≤ 64) (l : List S35) (i : Nat) (hi : i ≤ 1000000) (r : S35) (v : Nat) (hv : r.f2 = [(v : Int)]) (res : List Int) : ∀ (m j : Nat) (done : List Nat), j + m = (W + 7) / 8 → done.length ≤ 1000000 + j →
    Ev (fun k => spec_PutRuns.l0 k (W : Int) (ints (done ++ leB (v / 256 ^ j) m)) l (l.length : Int) (i + 1 : Nat)) res →
    Ev (fun k => spec_PutRuns.l2 k (W : Int) (ints done) (j : Int) l (l.length : Int) (i : Int) r.f0 r.f1 r.f2) res := by
  have eW : Int.tdiv (RowKit.wrap64 ((W : Int) + 7)) 8 = (((W + 7) / 8 : Nat) : Int) := by
    rw [show (W : Int) + 7 = (W + 7 : Nat) by push_cast; rfl, w64 _ (by omega)]; rfl
  intro m
  induction m with
  | zero =>
    intro j done h hd hg
    rw [leB, List.append_nil] at hg
    refine .step (fun k => ?_) hg
    rw [spec_PutRuns.l2, eW, w64 _ (by omega), if_neg (by omega), show (i : Int) + 1 = (i + 1 : Nat) by push_cast; rfl, w64 (i + 1) (by omega)]
  | succ m ih =>
    intro j done h hd hg
    have e : leB (v / 256 ^ j) (m + 1) = (v / 256 ^ j % 256) :: leB (v / 256 ^ (j + 1)) m := by
      rw [leB, Nat.pow_succ, ← Nat.div_div_eq_div_mul]
    rw [e] at hg
    refine .step (fun k => ?_) (ih (j + 1) (done ++ [v / 256 ^ j % 256]) (by omega) (by rw [List.length_append, List.length_singleton]; omega) (by rw [List.append_assoc]; exact hg))
    have hsh : (shr .u64 (v : Int) ((8 * j : Nat) : Int)) % 256 = ((v / 256 ^ j % 256 : Nat) : Int) := by
      unfold shr
      rw [Int.toNat_natCast, show min (8 * j) IntKind.u64.bits = 8 * j by show min (8 * j) 64 = 8 * j; omega, show ((2 : Int) ^ (8 * j)) = ((2 ^ (8 * j) : Nat) : Int) by push_cast; rfl, ← Int.natCast_ediv, show (2 : Nat) ^ (8 * j) = 256 ^ j by rw [Nat.pow_mul]]
      rfl
    rw [spec_PutRuns.l2, eW, w64 _ (by omega), if_pos (by omega), hv, if_pos (by simp), show (8 : Int) * j = (8 * j : Nat) by push_cast; rfl, w64 (8 * j) (by omega), if_pos (Int.natCast_nonneg _), if_pos (by rw [ints_len]; omega), show rd [(v : Int)] 0 = v from rfl, hsh, show (j : Int) + 1 = (j + 1 : Nat) by push_cast; rfl, w64 (j + 1) (by omega), ints_app]
    rfl
theorem put_l1 (W c : Nat) (hW1 : 1 ≤ W) (hW2 : W ≤ 64) (l : List S35) (i : Nat) (hi : i ≤ 1000000) (r : S35) (hc : r.f1 = (c : Int)) (hcb : c ≤ 1000) (done : List Nat) (hd : done.length ≤ 10000000) (res : List Int) (vs bs : List Nat) (hp : Ev (fun k => spec_PackBits.f k (ints vs) (W : Int)) (ints bs)) (hbs : bs.length ≤ 10000000) (hvs : vs.length = 8 * c)
    (hg : Ev (fun k => spec_PutRuns.l0 k (W : Int) (ints (done ++ bs)) l (l.length : Int) (i + 1 : Nat)) res) : ∀ (m : Nat) (x8 : List Nat), x8 ++ List.replicate m 0 = vs →
    Ev (fun k => spec_PutRuns.l1 k (W : Int) (ints done) (ints x8) l (l.length : Int) (i : Int) r.f0 r.f1 r.f2) res := by
  intro m
  induction m with
  | zero =>
    intro x8 h
    rw [List.replicate_zero, List.append_nil] at h
    subst h
    refine .step (fun k => ?_) (.bind (G := fun k t => if (ints done).length + t.length < 140737488355328 then spec_PutRuns.l0 k (W : Int) (ints done ++ t) l (l.length : Int) (RowKit.wrap64 ((i : Int) + 1)) else none) hp (.congr (fun k => ?_) hg))
    · rw [spec_PutRuns.l1, hc, show (8 : Int) * c = (8 * c : Nat) by push_cast; rfl, w64 _ (by omega), if_neg (by rw [ints_len]; omega)]
    · rw [if_pos (by rw [ints_len, ints_len]; omega), ints_app, show (i : Int) + 1 = (i + 1 : Nat) by push_cast; rfl, w64 (i + 1) (by omega)]
  | succ m ih =>
    intro x8 h
    have hl : x8.length + (m + 1) = 8 * c := by rw [← hvs, ← h, List.length_append, List.length_replicate]
    refine .step (fun k => ?_) (ih (x8 ++ [0]) (by rw [List.append_assoc]; exact h))
    rw [spec_PutRuns.l1, hc, show (8 : Int) * c = (8 * c : Nat) by push_cast; rfl, w64 _ (by omega), if_pos (by rw [ints_len]; omega), if_pos (by rw [ints_len]; omega), ints_app]
    rfl
end Go.Proofs.YtflgbndhahcdnaaGreatDoor
