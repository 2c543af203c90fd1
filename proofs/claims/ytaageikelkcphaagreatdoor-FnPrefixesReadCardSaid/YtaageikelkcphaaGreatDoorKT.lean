/- Part 20 of the proof: the texts SC, LT, LU, joined. What each proves stands ahead of it. -/
import Derived.Test.YtaageikelkcphaaGreatDoorKD
import Derived.Test.YtaageikelkcphaaGreatDoorKS
import Derived.Test.YtaageikelkcphaaGreatDoorKN
import Derived.Lib.Zigzag
import Derived.Test.YtaageikelkcphaaGreatDoorKR
import Derived.Deep.RegionHeld3
set_option linter.unusedVariables false
set_option linter.unusedSimpArgs false
/- The words of the reference that the writer of deltas calls: what they answer, in memory. -/
namespace Go.Proofs.YtaageikelkcphaaGreatDoor
open Go Go.RowKit Go.Proofs.YtaageikelkcphaaGreatDoor.PFnPrefixesRead Go.Proofs.YtaageikelkcphaaGreatDoorW.PrintWords Go.Proofs.YtaageikelkcphaaGreatDoorW.PrintMore
def ints (l : List Nat) : List Int := l.map fun (n : Nat) => (n : Int)
theorem ints_len (l : List Nat) : (ints l).length = l.length := by unfold ints; exact List.length_map ..
theorem ints_app (l : List Nat) (x : Nat) : ints l ++ [(x : Int)] = ints (l ++ [x]) := by unfold ints; rw [List.map_append]; rfl
def ksOf (k : IntKind) (l : List Int) : List Value := l.map fun x => .int k x
theorem ksOf_len (k : IntKind) (l : List Int) : (ksOf k l).length = l.length := by unfold ksOf; exact List.length_map ..
theorem ksOf_app (k : IntKind) (l m : List Int) : ksOf k (l ++ m) = ksOf k l ++ ksOf k m := by unfold ksOf; rw [List.map_append]
theorem ksOf_one (k : IntKind) (l : List Int) : ∀ u ∈ ksOf k l, u.oneCell' = true := by
  intro u hu
  obtain ⟨x, -, rfl⟩ := List.mem_map.1 hu
  rfl
def u8s (l : List Nat) : List Value := ksOf .u8 (ints l)
theorem u8s_len (l : List Nat) : (u8s l).length = l.length := by unfold u8s; rw [ksOf_len, ints_len]
theorem u8s_app (l m : List Nat) : u8s (l ++ m) = u8s l ++ u8s m := by unfold u8s ints; rw [List.map_append, ksOf_app]
theorem u8s_one (l : List Nat) : ∀ u ∈ u8s l, u.oneCell' = true := ksOf_one _ _
def blsOf (l : List Bool) : List Value := l.map Value.bool
theorem blsOf_len (l : List Bool) : (blsOf l).length = l.length := by unfold blsOf; exact List.length_map ..
theorem blsOf_app (l m : List Bool) : blsOf (l ++ m) = blsOf l ++ blsOf m := by unfold blsOf; rw [List.map_append]
theorem spot_none {w : World} {ad : Addr} {v : Value} (h : w.cell? ad = some v) : ad = ⟨ad.block, ad.off, none⟩ := by
  obtain ⟨g, o, s⟩ := ad
  cases s with
  | none => rfl
  | some x =>
    unfold World.cell? at h
    split at h
    · simp at h
    · cases h
theorem C_addr {k : IntKind} {w : World} {A : Option Addr} {xs : List Int} (h : Kd.C (Kd.int k) w A xs.length xs) (j : Nat) (hj : j < xs.length) : ∃ g o, A = some ⟨g, o, none⟩ ∧ w.cell? ⟨g, o + j, none⟩ = some (.int k xs[j]) := by
  obtain ⟨ad, e, hc⟩ := h.2.2 (by omega)
  have hat : ∀ i (hi : i < xs.length), w.cell? (ad.add i) = some (.int k xs[i]) := fun i hi => by
    obtain ⟨c, hl, hr, hcell⟩ := hc i xs[i] (List.getElem?_eq_getElem hi)
    have hr' : c = [.int k xs[i]] := hr
    subst hr'
    have := hcell 0 _ rfl
    rw [show (Kd.int k).sz = 1 from rfl, Nat.mul_one, Nat.add_zero] at this
    exact this
  have h0 := hat 0 (by omega)
  have hz : ad.add 0 = ad := rfl
  rw [hz] at h0
  have hs := spot_none h0
  refine ⟨ad.block, ad.off, by rw [e, ← hs], ?_⟩
  have := hat j hj
  rw [hs] at this
  rwa [addr_add] at this
/-- A row of numbers, as the print gives it back, is a row of one's own. -/
theorem R_own1 {k : IntKind} {e : Nat} {w : World} {base : Nat} {ok : Nat → Prop} {v : Value} {xs : List Int} (h : Kd.R (Kd.int k) e w base ok v xs) : Own1 w base e v (ksOf k xs) := by
  obtain ⟨A, c, rfl, hc, hK⟩ := Kd.R_reads h
  obtain ⟨inner, ho⟩ := Kd.R_own h
  have hsz : (Kd.int k).sz = 1 := rfl
  rw [hsz] at ho
  have hil : inner.length = xs.length := by have := ho.1; omega
  have heq : inner = ksOf k xs := by
    refine List.ext_getElem? fun j => ?_
    by_cases hj : j < xs.length
    · obtain ⟨g, o, e1, hcj⟩ := C_addr hK j hj
      rcases ho.2 with ⟨hv, hn⟩ | ⟨g', cap, cur, hv, rest⟩
      · omega
      · have e2 := hv
        injection hv with h1 h2 h3
        rw [e1] at h1
        injection h1 with h1
        injection h1 with h1 h1'
        subst h1; subst h1'
        obtain ⟨u, hu⟩ : ∃ u, inner[j]? = some u := ⟨_, List.getElem?_eq_getElem (by omega)⟩
        have := World.ownsRow.cells ho (g := g) (by rw [e1]; rfl) j u hu
        rw [addr_add, Nat.zero_add, ← Nat.zero_add j, hcj] at this
        rw [hu]
        unfold ksOf
        rw [List.getElem?_map, List.getElem?_eq_getElem hj]
        exact this.symm
    · rw [List.getElem?_eq_none (by omega), List.getElem?_eq_none (by rw [ksOf_len]; omega)]
  rw [heq] at ho
  unfold Own1
  rw [ksOf_len]
  exact ho
theorem own1_C {w : World} {base e : Nat} {v : Value} {xs : List Bool} (h : Own1 w base e v (blsOf xs)) (hb : xs.length ≤ 1000000000) : ∃ p c, v = .slice p xs.length c ∧ xs.length ≤ c ∧ Kd.C Kd.bool w p xs.length xs := by
  have h1 := h
  rcases h.2 with ⟨rfl, hn⟩ | ⟨g, cap, cur, rfl, hbg, hg, hnc, hcm, rest⟩
  · rw [blsOf_len] at hn
    have : xs = [] := List.eq_nil_of_length_eq_zero hn
    subst this
    exact ⟨none, 0, rfl, Nat.le_refl _, rfl, by simp, fun hh => absurd hh (by simp)⟩
  · rw [blsOf_len] at hnc ⊢
    refine ⟨_, cap, rfl, hnc, rfl, by omega, fun hn => ⟨_, rfl, fun j q hq => ⟨[.bool q], rfl, rfl, fun i u hu => ?_⟩⟩⟩
    cases i with
    | succ i => simp at hu
    | zero =>
      have hu' : u = .bool q := by simpa using hu.symm
      subst hu'
      rw [show Kd.bool.sz = 1 from rfl, Nat.mul_one, Nat.add_zero]
      exact World.ownsRow.cells h1 (g := g) (by rw [blsOf_len]; rfl) j _ (by unfold blsOf; rw [List.getElem?_map, hq]; rfl)
theorem own1_Cint {k : IntKind} {w : World} {base e : Nat} {v : Value} {xs : List Int} (h : Own1 w base e v (ksOf k xs)) (hb : xs.length ≤ 1000000000) : ∃ p c, v = .slice p xs.length c ∧ xs.length ≤ c ∧ Kd.C (Kd.int k) w p xs.length xs := by
  have h1 := h
  rcases h.2 with ⟨rfl, hn⟩ | ⟨g, cap, cur, rfl, hbg, hg, hnc, hcm, rest⟩
  · rw [ksOf_len] at hn
    have : xs = [] := List.eq_nil_of_length_eq_zero hn
    subst this
    exact ⟨none, 0, rfl, Nat.le_refl _, rfl, by simp, fun hh => absurd hh (by simp)⟩
  · rw [ksOf_len] at hnc ⊢
    refine ⟨_, cap, rfl, hnc, rfl, by omega, fun hn => ⟨_, rfl, fun j q hq => ⟨[.int k q], rfl, rfl, fun i u hu => ?_⟩⟩⟩
    cases i with
    | succ i => simp at hu
    | zero =>
      have hu' : u = .int k q := by simpa using hu.symm
      subst hu'
      rw [show (Kd.int k).sz = 1 from rfl, Nat.mul_one, Nat.add_zero]
      exact World.ownsRow.cells h1 (g := g) (by rw [ksOf_len]; rfl) j _ (by unfold ksOf; rw [List.getElem?_map, hq]; rfl)
set_option maxRecDepth 100000 in
theorem or128 : ∀ a : Fin 256, a.val ||| 128 = a.val % 128 + 128 := by decide
theorem putLeb_l0 : ∀ (n u : Nat) (done : List Nat), u < 2 ^ (7 * (n + 1)) → done.length + n ≤ 1000000 → Ev (fun k => spec_putLeb.l0 k (u : Int) (ints done)) (ints (done ++ vlq u)) := by
  intro n
  induction n with
  | zero =>
    intro u done hu hd
    have h : u < 128 := by simpa using hu
    refine .now fun k => ?_
    rw [spec_putLeb.l0, if_neg (by omega), if_pos (by rw [ints_len]; omega), vlq_lo u h, show (u : Int) % 256 = u by omega, ints_app]
  | succ n ih =>
    intro u done hu hd
    by_cases h : u < 128
    · refine .now fun k => ?_
      rw [spec_putLeb.l0, if_neg (by omega), if_pos (by rw [ints_len]; omega), vlq_lo u h, show (u : Int) % 256 = u by omega, ints_app]
    · have h1 := ih (u / 128) (done ++ [u % 128 + 128]) (by
        have e : (2 : Nat) ^ (7 * (n + 1 + 1)) = 128 * 2 ^ (7 * (n + 1)) := by rw [show 7 * (n + 1 + 1) = 7 * (n + 1) + 7 by omega, Nat.pow_add, Nat.mul_comm]
        rw [e] at hu
        exact Nat.div_lt_of_lt_mul hu) (by rw [List.length_append, List.length_singleton]; omega)
      rw [List.append_assoc] at h1
      rw [vlq_hi u h]
      refine .step (fun k => ?_) h1
      have e1 : ((u : Int) % 256) = ((u % 256 : Nat) : Int) := by omega
      have e2 : ((u : Int) / 128) = ((u / 128 : Nat) : Int) := by omega
      have e3 : (u % 256) ||| 128 = u % 128 + 128 := by
        have := or128 ⟨u % 256, Nat.mod_lt _ (by decide)⟩
        simp only at this
        omega
      rw [spec_putLeb.l0, if_pos (by omega), if_pos (by rw [ints_len]; omega), e1, e2, show (128 : Int) = ((128 : Nat) : Int) from rfl, u8_or_nat _ _ (by omega) (by decide), e3, ints_app]
theorem putLeb_ok (u : Nat) (hu : u < 2 ^ 64) (w : World) : Calls Tryz.prog 33 #[.int .u64 u] w fun e w' => ∃ v, e = .returned v ∧ Own1 w' w.heap.size 5 v (u8s (vlq u)) ∧ Chg Nix w w' := by
  obtain ⟨k, hk⟩ := (putLeb_l0 9 u [] (Nat.lt_of_lt_of_le hu (by decide)) (by simp)).get
  refine Calls.mono (spec_putLeb.calls k (u : Int) (ints (vlq u)) w hk) ?_
  rintro e w' ⟨v, rfl, hR, hB⟩
  exact ⟨v, rfl, R_own1 hR, Chg.ofBelow hB⟩
/-- Numbers with a sign, turned to such without. -/
def zigN (x : Int) : Nat := if 0 ≤ x then (2 * x).toNat else (-2 * x - 1).toNat
theorem zigN_unzig (x : Int) : unzig (zigN x) = x := by
  unfold unzig zigN
  split <;> split <;> omega
theorem zigN_lt (x : Int) (h : -2147483648 ≤ x ∧ x ≤ 2147483647) : zigN x < 2 ^ 64 := by
  unfold zigN
  have : (2 : Nat) ^ 64 = 18446744073709551616 := by decide
  split <;> omega
theorem zig_f (x : Int) (h : -2147483648 ≤ x ∧ x ≤ 2147483647) : spec_zig.f x = some (zigN x : Int) := by
  unfold spec_zig.f zigN
  by_cases h0 : 0 ≤ x
  · rw [if_pos h0]
    have e1 : IntKind.u64.wrap (x / 9223372036854775808) = ((0 : Nat) : Int) := by rw [IntKind.wrap_u64]; omega
    have e2 : IntKind.u64.wrap (IntKind.u64.wrap x * 2) = (((2 * x).toNat : Nat) : Int) := by rw [IntKind.wrap_u64, IntKind.wrap_u64]; omega
    rw [e1, e2, bits_xor_u64_nat _ _ (by have : (2 : Nat) ^ 64 = 18446744073709551616 := by decide
                                         omega) (by decide), Nat.xor_zero]
  · rw [if_neg h0]
    have e1 : IntKind.u64.wrap (x / 9223372036854775808) = ((2 ^ 64 - 1 : Nat) : Int) := by rw [IntKind.wrap_u64]; omega
    have e2 : IntKind.u64.wrap (IntKind.u64.wrap x * 2) = (((18446744073709551616 + 2 * x).toNat : Nat) : Int) := by rw [IntKind.wrap_u64, IntKind.wrap_u64]; omega
    have hlt : (18446744073709551616 + 2 * x).toNat < 2 ^ 64 := by
      have : (2 : Nat) ^ 64 = 18446744073709551616 := by decide
      omega
    rw [e1, e2, bits_xor_u64_nat _ _ hlt (by decide), Nat.xor_comm, Lib.xor_ones64 _ hlt]
    have : (2 : Nat) ^ 64 = 18446744073709551616 := by decide
    congr 2
    omega
theorem zig_ok (x : Int) (h : -2147483648 ≤ x ∧ x ≤ 2147483647) (w : World) : Calls Tryz.prog 34 #[.int .i64 x] w fun e w' => e = .returned (.int .u64 (zigN x)) ∧ Chg Nix w w' := by
  refine Calls.mono (spec_zig.calls x _ w (zig_f x h)) ?_
  rintro e w' ⟨rfl, hd⟩
  exact ⟨rfl, Chg.ofBelow hd.below⟩
theorem bitsFor_l0 : ∀ (n v acc : Nat), v < 2 ^ n → acc + n ≤ 1000 → ∃ m, m ≤ n ∧ v < 2 ^ m ∧ Ev (fun k => spec_bitsFor.l0 k (v : Int) (acc : Int)) ((acc + m : Nat) : Int)
  | 0, v, acc, hv, _ => by
    have h0 : v = 0 := by simpa using hv
    subst h0
    exact ⟨0, Nat.le_refl _, by decide, .now fun k => by rw [spec_bitsFor.l0, if_neg (by decide)]; rfl⟩
  | n + 1, v, acc, hv, ha => by
    by_cases h0 : v = 0
    · subst h0
      exact ⟨0, Nat.zero_le _, by decide, .now fun k => by rw [spec_bitsFor.l0, if_neg (by decide)]; rfl⟩
    · obtain ⟨m, h1, h2, h3⟩ := bitsFor_l0 n (v / 2) (acc + 1) (by rw [Nat.pow_succ] at hv; omega) (by omega)
      refine ⟨m + 1, by omega, by rw [Nat.pow_succ]; omega, ?_⟩
      rw [show acc + (m + 1) = acc + 1 + m by omega]
      refine .step (fun k => ?_) h3
      rw [spec_bitsFor.l0, if_pos (by omega), show (v : Int) / 2 = ((v / 2 : Nat) : Int) by omega, show (acc : Int) + 1 = ((acc + 1 : Nat) : Int) by push_cast; rfl, w64 _ (by omega)]
theorem bitsFor_ok (n v : Nat) (hv : v < 2 ^ n) (hn : n ≤ 64) (w : World) : Calls Tryz.prog 37 #[.int .u64 v] w fun e w' => ∃ m : Nat, m ≤ n ∧ v < 2 ^ m ∧ e = .returned (.int .i64 m) ∧ Chg Nix w w' := by
  obtain ⟨m, h1, h2, h3⟩ := bitsFor_l0 n v 0 hv (by omega)
  obtain ⟨k, hk⟩ := h3.get
  refine Calls.mono (spec_bitsFor.calls k (v : Int) _ w hk) ?_
  rintro e w' ⟨rfl, hd⟩
  exact ⟨m, h1, h2, by rw [Nat.zero_add], Chg.ofBelow hd.below⟩
theorem mask_ok (w : World) : Calls Tryz.prog 38 #[.int .i64 32] w fun e w' => e = .returned (.int .u64 4294967295) ∧ Chg Nix w w' := by
  refine Calls.mono (spec_mask.calls 32 4294967295 w (by rfl)) ?_
  rintro e w' ⟨rfl, hd⟩
  exact ⟨rfl, Chg.ofBelow hd.below⟩
theorem wrapTo_f (d : Int) (h : -2147483648 ≤ d ∧ d ≤ 2147483647) : spec_wrapTo.f d 32 = some d := by
  unfold spec_wrapTo.f spec_signed.f
  have e0 : RowKit.wrap64 (64 - 32) = 32 := IntWalk.wrap64_in _ (by omega)
  rw [e0, if_pos (by decide), Option.bind_some]
  congr 1
  have e1 : shl .u64 (IntKind.u64.wrap d) 32 = IntKind.u64.wrap (IntKind.u64.wrap d * 4294967296) := rfl
  have e2 : ∀ x : Int, shr .i64 x 32 = x / 4294967296 := fun x => rfl
  rw [e1, e2, IntKind.wrap_u64, IntKind.wrap_u64]
  unfold RowKit.wrap64
  omega
theorem wrapTo_ok (d : Int) (h : -2147483648 ≤ d ∧ d ≤ 2147483647) (w : World) : Calls Tryz.prog 35 #[.int .i64 d, .int .i64 32] w fun e w' => e = .returned (.int .i64 d) ∧ Chg Nix w w' := by
  refine Calls.mono (spec_wrapTo.calls d 32 d w (wrapTo_f d h)) ?_
  rintro e w' ⟨rfl, hd⟩
  exact ⟨rfl, Chg.ofBelow hd.below⟩
theorem truth_ok (b : Bool) (w : World) : Calls Tryz.prog 36 #[.bool b] w fun e w' => e = .returned (.int .u64 (b.toNat : Nat)) ∧ Chg Nix w w' := by
  refine Calls.mono (spec_truth.calls b (b.toNat : Nat) w (by cases b <;> rfl)) ?_
  rintro e w' ⟨rfl, hd⟩
  exact ⟨rfl, Chg.ofBelow hd.below⟩
/-- Bytes of bits, i of which are laid. -/
structure PackedB (bl : List Bool) (bs : List Nat) (M i : Nat) : Prop where
  len : bs.length = M
  lt : ∀ x ∈ bs, x < 256
  bit : ∀ p, p < 8 * M → (bs.getD (p / 8) 0).testBit (p % 8) = (decide (p < i) && bl.getD p false)
theorem getD_lt {bs : List Nat} (h : ∀ x ∈ bs, x < 256) (j : Nat) : bs.getD j 0 < 256 := by
  rw [List.getD_eq_getElem?_getD]
  by_cases hj : j < bs.length
  · rw [List.getElem?_eq_getElem hj]; exact h _ (List.getElem_mem _)
  · rw [List.getElem?_eq_none (by omega)]; decide
theorem dec_succ {p i : Nat} (h : p ≠ i) : decide (p < i) = decide (p < i + 1) := by
  by_cases h1 : p < i
  · rw [decide_eq_true h1, decide_eq_true (by omega)]
  · rw [decide_eq_false h1, decide_eq_false (by omega)]
theorem PackedB.step0 {bl : List Bool} {bs : List Nat} {M i : Nat} (h : PackedB bl bs M i) (hb : bl.getD i false = false) : PackedB bl bs M (i + 1) := by
  refine ⟨h.len, h.lt, fun p hp => ?_⟩
  rw [h.bit p hp]
  by_cases hpi : p = i
  · subst hpi; rw [hb]; simp
  · rw [dec_succ hpi]
theorem PackedB.step1 {bl : List Bool} {bs : List Nat} {M i : Nat} (h : PackedB bl bs M i) (hi : i < 8 * M) (hb : bl.getD i false = true) : PackedB bl (bs.set (i / 8) (bs.getD (i / 8) 0 ||| 2 ^ (i % 8))) M (i + 1) := by
  have h2 : (2 : Nat) ^ (i % 8) < 2 ^ 8 := Nat.pow_lt_pow_right (by decide) (Nat.mod_lt _ (by decide))
  have hl := h.len
  refine ⟨by rw [List.length_set]; exact h.len, fun x hx => ?_, fun p hp => ?_⟩
  · rcases List.mem_or_eq_of_mem_set hx with hx | rfl
    · exact h.lt x hx
    · exact Nat.or_lt_two_pow (n := 8) (getD_lt h.lt _) h2
  · rw [List.getD_eq_getElem?_getD, List.getElem?_set]
    have hbit := h.bit p hp
    by_cases hq : i / 8 = p / 8
    · rw [if_pos hq, if_pos (by omega), Option.getD_some, Nat.testBit_or, hq, hbit, Nat.testBit_two_pow]
      by_cases hpi : p = i
      · subst hpi; rw [hb]; simp
      · have h3 : ¬ (i % 8 = p % 8) := by omega
        rw [decide_eq_false h3, Bool.or_false, dec_succ hpi]
    · rw [if_neg hq, ← List.getD_eq_getElem?_getD, hbit, dec_succ (by rintro rfl; exact hq rfl)]
theorem rd_ints (vs : List Nat) (j : Nat) : rd (ints vs) (j : Int) = (vs.getD j 0 : Nat) := by
  unfold rd ints
  rw [Int.toNat_natCast, List.getD_eq_getElem?_getD, List.getElem?_map, List.getD_eq_getElem?_getD]
  cases vs[j]? <;> rfl
theorem set_ints (bs : List Nat) (j x : Nat) : (ints bs).set j (x : Int) = ints (bs.set j x) := by
  unfold ints; rw [List.map_set]
theorem rdOf_nat (bl : List Bool) (i : Nat) : rdOf false bl (i : Int) = bl.getD i false := by
  unfold rdOf
  rw [Int.toNat_natCast]
theorem packed_l0 (bl : List Bool) (M : Nat) (hM : bl.length ≤ 8 * M) (hn : bl.length ≤ 1000000) : ∀ (n i : Nat) (bs : List Nat), i + n = bl.length → PackedB bl bs M i →
    ∃ bs', Ev (fun k => spec_Packed.l0 k 0 (ints bs) bl (bl.length : Int) (i : Int)) (ints bs') ∧ PackedB bl bs' M bl.length := by
  intro n
  induction n with
  | zero =>
    intro i bs h hp
    refine ⟨bs, .now fun k => ?_, by rw [← h]; exact hp⟩
    rw [spec_Packed.l0, if_neg (by omega)]
  | succ n ih =>
    intro i bs h hp
    have e3 : Int.tdiv (i : Int) 8 = ((i / 8 : Nat) : Int) := rfl
    have e4 : Int.tmod (i : Int) 8 = ((i % 8 : Nat) : Int) := rfl
    have hw0 : RowKit.wrap64 (0 + (i : Int)) = (i : Int) := by rw [Int.zero_add, w64 _ (by omega)]
    have hw1 : RowKit.wrap64 ((i : Int) + 1) = ((i + 1 : Nat) : Int) := by rw [show (i : Int) + 1 = ((i + 1 : Nat) : Int) by push_cast; rfl, w64 _ (by omega)]
    by_cases hb : bl.getD i false = true
    · obtain ⟨bs', hr, hr2⟩ := ih (i + 1) _ (by omega) (hp.step1 (by omega) hb)
      refine ⟨bs', .step (fun k => ?_) hr, hr2⟩
      have h2 : (2 : Nat) ^ (i % 8) < 2 ^ 8 := Nat.pow_lt_pow_right (by decide) (Nat.mod_lt _ (by decide))
      have hsh : shl .u8 1 ((i % 8 : Nat) : Int) = ((2 ^ (i % 8) : Nat) : Int) := by
        unfold shl
        rw [Int.toNat_natCast, show min (i % 8) IntKind.u8.bits = i % 8 by show min (i % 8) 8 = i % 8; omega, Int.one_mul, show ((2 : Int) ^ (i % 8)) = ((2 ^ (i % 8) : Nat) : Int) by push_cast; rfl]
        exact IntWalk.u8_in _ ⟨Int.natCast_nonneg _, (by show ((2 ^ (i % 8) : Nat) : Int) ≤ ((255 : Nat) : Int); exact Int.ofNat_le.2 (Nat.le_of_lt_succ h2))⟩
      rw [spec_Packed.l0, if_pos (by omega), if_pos (by omega), if_pos (by omega), rdOf_nat, if_pos hb, hw0, e3, e4, w64 (i / 8) (by omega), if_pos (by omega), if_pos (by rw [ints_len, hp.len]; omega), if_pos (by omega), rd_ints bs (i / 8), hsh, u8_or_nat _ _ (getD_lt hp.lt _) h2, Int.toNat_natCast, set_ints, hw1]
    · obtain ⟨bs', hr, hr2⟩ := ih (i + 1) bs (by omega) (hp.step0 (by simpa using hb))
      refine ⟨bs', .step (fun k => ?_) hr, hr2⟩
      rw [spec_Packed.l0, if_pos (by omega), if_pos (by omega), if_pos (by omega), rdOf_nat, if_neg hb, hw1]
theorem packed_ev (bl : List Bool) (M : Nat) (hM : M = (bl.length + 7) / 8) (hn : bl.length ≤ 1000000) :
    ∃ bs, Ev (fun k => spec_Packed.f k bl 0) (ints bs) ∧ PackedB bl bs M bl.length := by
  obtain ⟨bs, h1, h2⟩ := packed_l0 bl M (by omega) hn bl.length 0 (List.replicate M 0) (by omega) ⟨List.length_replicate, fun x hx => by rw [List.eq_of_mem_replicate hx]; decide, fun p hp => by
    rw [List.getD_eq_getElem?_getD, List.getElem?_replicate, if_pos (by omega)]; simp⟩
  refine ⟨bs, .congr (fun k => ?_) h1, h2⟩
  have e0 : RowKit.wrap64 (0 + (bl.length : Int)) = (bl.length : Int) := by rw [Int.zero_add, w64 _ (by omega)]
  have e1 : RowKit.wrap64 ((bl.length : Int) + 7) = ((bl.length + 7 : Nat) : Int) := by rw [show (bl.length : Int) + 7 = ((bl.length + 7 : Nat) : Int) by push_cast; rfl, w64 _ (by omega)]
  have e2 : Int.tdiv ((bl.length + 7 : Nat) : Int) 8 = ((M : Nat) : Int) := by rw [hM]; rfl
  unfold spec_Packed.f
  rw [e0, e1, e2, w64 _ (by omega), if_pos (by omega), Int.toNat_natCast, if_pos (by omega), show ints (List.replicate M 0) = List.replicate M 0 by unfold ints; rw [List.map_replicate]; rfl]
  rfl
theorem packed_ok (bl : List Bool) (M : Nat) (hM : M = (bl.length + 7) / 8) (hn : bl.length ≤ 1000000) (p : Option Addr) (c : Nat) (w : World) (hc : bl.length ≤ c) (hK : Kd.C Kd.bool w p bl.length bl) :
    Calls Tryz.prog 39 #[.slice p bl.length c, .int .i64 0] w fun e w' => ∃ v bs, e = .returned v ∧ PackedB bl bs M bl.length ∧ Own1 w' w.heap.size 5 v (u8s bs) ∧ Chg Nix w w' := by
  obtain ⟨bs, h1, h2⟩ := packed_ev bl M hM hn
  obtain ⟨k, hk⟩ := h1.get
  refine Calls.mono (spec_Packed.calls k p c bl 0 (ints bs) w hK hc hk) ?_
  rintro e w' ⟨v, rfl, hR, hB⟩
  exact ⟨v, bs, rfl, h2, R_own1 hR, Chg.ofBelow hB⟩
end Go.Proofs.YtaageikelkcphaaGreatDoor
/- impl.texts, impl.copied, as impl.PrefixesRead uses them. -/
namespace Go.Proofs.YtaageikelkcphaaGreatDoor
open Go Go.RowKit Go.Proofs.YtaageikelkcphaaGreatDoor.PFnPrefixesRead Go.Proofs.YtaageikelkcphaaGreatDoorW.PrintWords Go.Proofs.YtaageikelkcphaaGreatDoorW.PrintMore
/-- Byte arrays in memory, as the print reads them. -/
theorem bas_C {V : Nat → Prop} {w : World} {base : Nat} {v : Value} {us : List Value} {ls : List (List Nat)} (ho : Own1 w base 51 v us) (hb : BAs V w us ls) (hl : ls.length ≤ 1000000) (hs : ∀ l ∈ ls, l.length ≤ 1000000) : ∃ p c, v = .slice p (ls.map ints).length c ∧ (ls.map ints).length ≤ c ∧ Kd.C (Kd.slice 5 (Kd.int .u8)) w p (ls.map ints).length (ls.map ints) := by
  have h1 := ho
  have hml : (ls.map ints).length = ls.length := List.length_map ..
  have hul := hb.1
  rcases ho.2 with ⟨rfl, hn⟩ | ⟨g, cap, cur, rfl, hbg, hg, hnc, hcm, rest⟩
  · have : ls = [] := List.eq_nil_of_length_eq_zero (by omega)
    subst this
    exact ⟨none, 0, rfl, Nat.le_refl _, rfl, by simp, fun hh => absurd hh (by simp)⟩
  · rw [hml]
    refine ⟨_, cap, by rw [hul], by omega, by rw [hml], by omega, fun hn => ⟨_, rfl, fun j q hq => ?_⟩⟩
    rw [List.getElem?_map] at hq
    obtain ⟨l, hlj, rfl⟩ := Option.map_eq_some_iff.1 hq
    have hj : j < us.length := by rw [hul]; exact (List.getElem?_eq_some_iff.1 hlj).1
    obtain ⟨gg, oo, c, hu, hlc, hcc, hcells⟩ := hb.2 j us[j] l (List.getElem?_eq_getElem hj) hlj
    have hcell := World.ownsRow.cells h1 (g := g) rfl j us[j] (List.getElem?_eq_getElem hj)
    have hil : (ints l).length = l.length := ints_len l
    refine ⟨[us[j]], rfl, ?_, fun i u hi => ?_⟩
    · refine ⟨some ⟨gg, oo, none⟩, c, by rw [hu, hil], by omega, by rw [hil], by have := hs l (List.mem_of_getElem? hlj); omega, fun hne => ⟨_, rfl, fun t x ht => ⟨[.int .u8 x], rfl, rfl, fun s u hsu => ?_⟩⟩⟩
      cases s with
      | succ s => simp at hsu
      | zero =>
        have hu' : u = .int .u8 x := by simpa using hsu.symm
        subst hu'
        rw [show (Kd.int .u8).sz = 1 from rfl, Nat.mul_one, Nat.add_zero, addr_add]
        unfold ints at ht
        rw [List.getElem?_map] at ht
        obtain ⟨y, hy, rfl⟩ := Option.map_eq_some_iff.1 ht
        exact (hcells t y hy).2
    · cases i with
      | succ i => simp at hi
      | zero =>
        have hu' : u = us[j] := by simpa using hi.symm
        subst hu'
        rw [show (Kd.slice 5 (Kd.int .u8)).sz = 1 from rfl, Nat.mul_one, Nat.add_zero]
        exact hcell
/-- A text of bytes. -/
def strOf (l : List Nat) : ByteArray := strOfNums (ints l)
theorem texts_l0 (b : Bool) (l : List (List Int)) (hb : l.length ≤ 1000000) : ∀ (suf pre : List (List Int)) (done : List ByteArray), pre ++ suf = l → done.length = pre.length → Ev (fun k => impl_texts.l0 k b done l (l.length : Int) (pre.length : Int)) (done ++ suf.map strOfNums, b) := by
  intro suf
  induction suf with
  | nil =>
    intro pre done h hd
    rw [List.append_nil] at h
    subst h
    exact .now fun k => by rw [impl_texts.l0, if_neg (by omega)]; simp
  | cons x suf ih =>
    intro pre done h hd
    have hl : pre.length + suf.length + 1 = l.length := by rw [← h, List.length_append, List.length_cons]; omega
    have h1 := ih (pre ++ [x]) (done ++ [strOfNums x]) (by rw [List.append_assoc]; exact h) (by rw [List.length_append, List.length_append, hd]; rfl)
    rw [List.length_append, List.length_singleton] at h1
    have hr : rd_L3 l (pre.length : Int) = x := by
      unfold rd_L3
      rw [Int.toNat_natCast, List.getD_eq_getElem?_getD, ← h, List.getElem?_append_right (Nat.le_refl _), Nat.sub_self]; rfl
    refine .step (fun k => ?_) (by rw [List.append_assoc] at h1; exact h1)
    rw [impl_texts.l0, if_pos (by omega), if_pos (by omega), if_pos (by omega), if_pos (by omega), hr, show (pre.length : Int) + 1 = ((pre.length + 1 : Nat) : Int) by push_cast; rfl, w64 _ (by omega)]
theorem texts_ok {V : Nat → Prop} {w : World} {base : Nat} {v : Value} {us : List Value} {ls : List (List Nat)} (ho : Own1 w base 51 v us) (hb : BAs V w us ls) (hl : ls.length ≤ 1000000) (hs : ∀ l ∈ ls, l.length ≤ 1000000) :
    Calls Tryz.prog 16 #[v, .bool true] w fun e w' => ∃ p c, e = .returned (.tuple #[.slice p (ls.map strOf).length c, .bool true]) ∧ (ls.map strOf).length ≤ c ∧ Kd.C Kd.string w' p (ls.map strOf).length (ls.map strOf) ∧ (∀ g o, p = some ⟨g, o, none⟩ → w.heap.size ≤ g) ∧ Chg Nix w w' := by
  obtain ⟨p, c, rfl, hc, hK⟩ := bas_C ho hb hl hs
  have h := texts_l0 true (ls.map ints) (by rw [List.length_map]; exact hl) (ls.map ints) [] [] rfl rfl
  rw [List.nil_append, List.map_map] at h
  obtain ⟨k, hk⟩ := h.get
  refine Calls.mono (impl_texts.calls k p c (ls.map ints) true (ls.map (strOfNums ∘ ints)) true w hK hc hk) ?_
  rintro e w' ⟨v0, rfl, hR, hB⟩
  obtain ⟨inner, ho⟩ := Kd.R_own hR
  obtain ⟨p2, c2, rfl, hc2, hK2⟩ := Kd.R_reads hR
  refine ⟨p2, c2, rfl, hc2, hK2, fun g o e => ?_, Chg.ofBelow hB⟩
  rcases ho.2 with ⟨hv, -⟩ | ⟨g', cap, cur, hv, hb', -⟩
  · injection hv with h1
    rw [h1] at e
    cases e
  · injection hv with h1
    rw [h1] at e
    injection e with e
    injection e with e
    omega
theorem own_form' {k : IntKind} {w : World} {base : Nat} {e : TypeId} {v : Value} {xs : List Int} (h : Own1 w base e v (ksOf k xs)) (hne : xs ≠ []) : ∃ g cap, v = .slice (some ⟨g, 0, none⟩) xs.length cap ∧ xs.length ≤ cap ∧ cap ≤ 9223372036854775807 ∧ ∀ (j : Nat) x, xs[j]? = some x → w.cell? ⟨g, j, none⟩ = some (.int k x) := by
  have h1 := h
  rcases h.2 with ⟨rfl, hn⟩ | ⟨g, cap, cur, rfl, hbg, hg, hnc, hcm, rest⟩
  · rw [ksOf_len] at hn
    exact absurd (List.eq_nil_of_length_eq_zero hn) hne
  · rw [ksOf_len] at hnc ⊢
    refine ⟨g, cap, rfl, hnc, by unfold maxLen at hcm; omega, fun j x hx => ?_⟩
    have := World.ownsRow.cells h1 (g := g) (by rw [ksOf_len]; rfl) j _ (show (ksOf k xs)[j]? = some (.int k x) by unfold ksOf; rw [List.getElem?_map, hx]; rfl)
    rwa [addr_add, Nat.zero_add] at this
/-- A copy of bytes. -/
theorem copied_ok (A0 : Option Addr) (c0 : Nat) (bs : List Nat) (w : World) (hK : Kd.C (Kd.int .u8) w A0 (ints bs).length (ints bs)) (hc0 : (ints bs).length ≤ c0) (hne : bs ≠ []) (hbl : bs.length ≤ 10000000) (hlt : ∀ x ∈ bs, x < 256) :
    Calls Tryz.prog 15 #[.slice A0 (ints bs).length c0] w fun e w' => ∃ g c, e = .returned (.slice (some ⟨g, 0, none⟩) bs.length c) ∧ bs.length ≤ c ∧ c ≤ 9223372036854775807 ∧ w.heap.size ≤ g ∧ g < w'.heap.size ∧ Data w' g 0 bs.length (fun j => bs.getD j 0) ∧ Chg Nix w w' := by
  have hf : impl_copied.f (ints bs) = some (ints bs) := by
    unfold impl_copied.f
    show (if ([] : List Int).length + (ints bs).length < 140737488355328 then _ else _) = _
    rw [if_pos (by rw [ints_len]; simp; omega)]; rfl
  refine Calls.mono (impl_copied.calls A0 c0 (ints bs) (ints bs) w hK hc0 hf) ?_
  rintro e w' ⟨v, rfl, hR, hB⟩
  have ho := R_own1 hR
  obtain ⟨g, cap, rfl, h1, h2, h3⟩ := own_form' ho (by intro e; exact hne (by cases bs with | nil => rfl | cons x xs => simp [ints] at e))
  have hil := ints_len bs
  have hgl : g < w'.heap.size ∧ w.heap.size ≤ g := by have := ho.lt g rfl; omega
  refine ⟨g, cap, by rw [hil], by omega, h2, hgl.2, hgl.1, ⟨fun j hj => ?_, fun j => getD_lt hlt j, fun j hj => ?_⟩, Chg.ofBelow hB⟩
  · rw [Nat.zero_add]
    refine h3 j _ ?_
    unfold ints
    rw [List.getElem?_map, List.getElem?_eq_getElem hj, List.getD_eq_getElem?_getD, List.getElem?_eq_getElem hj]
    rfl
  · show bs.getD j 0 = 0
    rw [List.getD_eq_getElem?_getD, List.getElem?_eq_none (by omega)]; rfl
end Go.Proofs.YtaageikelkcphaaGreatDoor
/- impl.PrefixesRead. -/
namespace Go.Proofs.YtaageikelkcphaaGreatDoor
open Go Go.RowKit Go.Proofs.YtaageikelkcphaaGreatDoor.PFnPrefixesRead Go.Proofs.YtaageikelkcphaaGreatDoorW.PrintWords Go.Proofs.YtaageikelkcphaaGreatDoorW.PrintMore
/-- The results as they are laid, behind the reading. -/
theorem endT {w w1 w6 : World} {R : List ByteArray} {p : Option Addr} {u1 u2 : Value} (hs : w1.heap.size = w.heap.size + 2) (hc1 : Chg Nix w w1) (h16 : Chg (fun a _ => w1.heap.size ≤ a) w1 w6) (hK : Kd.C Kd.string w6 p R.length R) (hp : ∀ g o, p = some ⟨g, o, none⟩ → 0 < R.length → w1.heap.size ≤ g) (c1 : w6.cell? ⟨w.heap.size, 0, none⟩ = some u1) (c2 : w6.cell? ⟨w.heap.size + 1, 0, none⟩ = some u2) (v : Value) :
    ((w6.setCell ⟨w.heap.size, 0, none⟩ v).setCell ⟨w.heap.size + 1, 0, none⟩ (.bool true)).cell? ⟨w.heap.size, 0, none⟩ = some v ∧ ((w6.setCell ⟨w.heap.size, 0, none⟩ v).setCell ⟨w.heap.size + 1, 0, none⟩ (.bool true)).cell? ⟨w.heap.size + 1, 0, none⟩ = some (.bool true) ∧ Kd.C Kd.string ((w6.setCell ⟨w.heap.size, 0, none⟩ v).setCell ⟨w.heap.size + 1, 0, none⟩ (.bool true)) p R.length R ∧ Chg Nix w ((w6.setCell ⟨w.heap.size, 0, none⟩ v).setCell ⟨w.heap.size + 1, 0, none⟩ (.bool true)) := by
  have hcz : Chg (fun a _ => a = w.heap.size ∨ a = w.heap.size + 1) w6 ((w6.setCell ⟨w.heap.size, 0, none⟩ v).setCell ⟨w.heap.size + 1, 0, none⟩ (.bool true)) := ((Chg.refl _ _).setCell _ _ (fun _ => .inl rfl) _).setCell _ _ (fun _ => .inr rfl) _
  refine ⟨cell_ne _ (World.cell?_setCell_same _ _ _ c1) (by rintro ⟨hh, -⟩; omega), World.cell?_setCell_same _ _ _ (cell_ne _ c2 (by rintro ⟨hh, -⟩; omega)), ⟨hK.1, hK.2.1, fun hn => ?_⟩, (hc1.comp h16 (fun _ _ _ h => h) (by intro a x ha hh; omega)).comp hcz (fun _ _ _ h => h) (by rintro a x ha (hh | hh) <;> omega)⟩
  obtain ⟨ad, e, hcells⟩ := hK.2.2 hn
  have hl : 0 < R.length := Nat.pos_of_ne_zero (by omega)
  refine ⟨ad, e, fun j q hq => ?_⟩
  obtain ⟨cs, h1, h2, h3⟩ := hcells j q hq
  have h0 : w6.cell? ad = some (.string R[0]) := by
    obtain ⟨cs0, h10, h20, h30⟩ := hcells 0 R[0] (List.getElem?_eq_getElem hl)
    have h20' : cs0 = [.string R[0]] := h20
    subst h20'
    have := h30 0 _ rfl
    rw [show Kd.string.sz = 1 from rfl] at this
    exact this
  have hsp := spot_none h0
  have hg := hp ad.block ad.off (by rw [e, ← hsp]) hl
  refine ⟨cs, h1, h2, fun i u hu => ?_⟩
  have h4 := h3 i u hu
  rw [hsp, addr_add] at h4 ⊢
  exact hcz.keep h4 (by rintro (hh | hh) <;> omega)
theorem takesV_le {α : Type} : ∀ (ns : List Int) (l : List α), (takesV ns l).length ≤ l.length
  | [], l => Nat.zero_le _
  | n :: ns, l => by
    have := takesV_le ns (l.drop n.natAbs)
    rw [List.length_drop] at this
    rw [takesV, List.length_append]
    split
    · simp only [List.length_nil]; omega
    · rw [List.length_take]; omega
theorem takesV_mem {α : Type} : ∀ {ns : List Int} {l : List α} {x : α}, x ∈ takesV ns l → x ∈ l
  | [], l, x, h => by simp [takesV] at h
  | n :: ns, l, x, h => by
    rw [takesV] at h
    rcases List.mem_append.1 h with h | h
    · split at h
      · simp at h
      · exact List.mem_of_mem_take h
    · exact List.mem_of_mem_drop (takesV_mem h)
set_option maxRecDepth 100000 in
set_option maxHeartbeats 1000000 in
theorem prefixesRead_ok (bc c0 S M : Nat) (A0 bp : Option Addr) (ee eu : Addr) (bs1 bs2 : List Nat) (ns : List Nat) (rs ls : List (List Nat)) (nb : List Int) (w : World) (hE : Eofs w ee eu) (hg : 4 < w.heap.size) (hK : Kd.C (Kd.int .u8) w A0 (ints (bs1 ++ (bs2 ++ rs.flatten))).length (ints (bs1 ++ (bs2 ++ rs.flatten)))) (hc0 : (ints (bs1 ++ (bs2 ++ rs.flatten))).length ≤ c0) (hb : ∀ x ∈ bs1 ++ (bs2 ++ rs.flatten), x < 256) (hbl : (bs1 ++ (bs2 ++ rs.flatten)).length ≤ 10000000)
    (henc : DeltaEnc RowKit.wrap32 32 S M (natI ns) bs1) (henc2 : DeltaEnc RowKit.wrap32 32 S M (lenI rs) bs2) (hf : BlkFit S M) (hpre : Prefs [] ns rs ls) (hl0 : ls ≠ []) (hll : ls.length ≤ 2000) (hns4 : ∀ n ∈ ns, n ≤ 4096) (hrs4 : ∀ r ∈ rs, r.length ≤ 4096) (hls4 : ∀ l ∈ ls, l.length ≤ 4096) (hasz : asz rs ls ≤ 1000000)
    (hnb : Kd.C (Kd.int .i64) w bp nb.length nb) (hnc : nb.length ≤ 1000000) (hfb : ∀ n ∈ nb, n ≠ 0 ∧ -5000 ≤ n ∧ n ≤ 5000) (R : List ByteArray) (hR : R = (takesV nb ls).map strOf) :
    Calls Tryz.prog 8 #[.slice A0 (ints (bs1 ++ (bs2 ++ rs.flatten))).length c0, .int .i64 ls.length, .slice bp nb.length bc] w fun e w' =>
      ∃ p c, e = .returned (.tuple #[.slice p R.length c, .bool true]) ∧ R.length ≤ c ∧ Kd.C Kd.string w' p R.length R ∧ Chg Nix w w' := by
  have HR := Lib.hid hR
  clear hR
  have he : ∀ f, (∃ fn c, Tryz.prog.funcs[f]? = some fn ∧ (fn.name == "runtime.NumGoroutine") = false ∧ fn.body = some c) → ∀ (args : Array Value) (w : World), (callFunc f args).run Tryz.prog w = .ok (.enter f args) w := fun f ⟨_, _, h1, h2, h3⟩ => enters_of h1 h2 h3
  have e18 := he 18 ⟨_, _, Tryz.func18, (by kernel_rfl), rfl⟩
  have e19 := he 19 ⟨_, _, Tryz.func19, (by kernel_rfl), rfl⟩
  have E18 := Lib.hid e18
  have E19 := Lib.hid e19
  clear he e18 e19
  have hmf : ∀ (fn : Fn) (first cap : Array Value) (w : World), (Instr.makeFunc fn first cap).run Tryz.prog w = .ok (.func fn first cap) w := fun _ _ _ _ => rfl
  have hN : ∀ j (hj : j < nb.length), ∃ g o, bp = some ⟨g, o, none⟩ ∧ w.cell? ⟨g, o + j, none⟩ = some (.int .i64 nb[j]) := fun j hj => C_addr hnb j hj
  obtain ⟨w1, hw1⟩ : ∃ w1, w1 = (w.alloc (.cells #[.slice none 0 0] 22)).alloc (.cells #[.bool false] 4) := ⟨_, rfl⟩
  have hc1 : Chg Nix w w1 := by rw [hw1]; exact ((Chg.refl _ _).alloc _).alloc _
  have a1 : w1.cell? ⟨w.heap.size, 0, none⟩ = some (.slice none 0 0) := by rw [hw1]; exact cell_alloc _ (by rw [World.cell?_alloc_new]; rfl)
  have a2 : w1.cell? ⟨w.heap.size + 1, 0, none⟩ = some (.bool false) := by
    rw [hw1, show w.heap.size + 1 = (w.alloc (.cells #[.slice none 0 0] 22)).heap.size by simp, World.cell?_alloc_new]; rfl
  have b1 : w1.frozen? ⟨w.heap.size, 0, none⟩ = false := by rw [hw1]; exact frozen_alloc _ (by simp) (fresh_frozenL rfl 0)
  have b2 : w1.frozen? ⟨w.heap.size + 1, 0, none⟩ = false := by rw [hw1]; exact fresh_frozenL (by simp) 0
  have hs1 : w1.heap.size = w.heap.size + 2 := by rw [hw1]; simp
  have hbne : bs1 ++ (bs2 ++ rs.flatten) ≠ [] := by
    obtain ⟨x0, ys, z, bl, -, e, -⟩ := henc
    intro h
    have := congrArg List.length h
    rw [e] at this
    simp only [List.length_append, List.length_nil] at this
    have := vlq_pos S
    omega
  obtain ⟨bs, hbs⟩ : ∃ bs, bs = bs1 ++ (bs2 ++ rs.flatten) := ⟨_, rfl⟩
  rw [← hbs] at hK hc0 hb hbl hbne ⊢
  have hcopy := fun W (hW : Chg Nix w W) => copied_ok A0 c0 bs W (Kd.C_below hK hW.toBelow) hc0 hbne hbl hb
  obtain ⟨N, hNl⟩ : ∃ N, N = ls.length := ⟨_, rfl⟩
  rw [← hNl]
  have hN0 : 0 < N := by rw [hNl]; exact List.length_pos_iff.2 hl0
  have Hcopy := Lib.hid hcopy
  have Hbs := Lib.hid hbs
  have HNl := Lib.hid hNl
  have Henc := Lib.hid henc
  have Henc2 := Lib.hid henc2
  have Hf := Lib.hid hf
  have Hpre := Lib.hid hpre
  have Hns4 := Lib.hid hns4
  have Hrs4 := Lib.hid hrs4
  have Hls4 := Lib.hid hls4
  have Hfb := Lib.hid hfb
  have Hc1 := Lib.hid hc1
  have HN := Lib.hid hN
  have HE := Lib.hid hE
  have Hb := Lib.hid hb
  rw [hNl.symm] at hll
  clear hc1 hN hE hb hnb hK hcopy hbs hNl henc henc2 hf hpre hns4 hrs4 hls4 hfb hl0
  go_enter_defers Tryz.func8, Tryz.ntmps8
  go_wp2_with fail
  rw [← hw1]
  have Hw1 := Lib.hid hw1
  clear hw1
  refine (newPrefixes_ok w1).mono ?_
  rintro e w2 ⟨d, d2, rfl, hd1, hd2, hd3, hd4, hdne, hc2, hr2, hr22⟩
  have Hcp := Lib.hid (Hcopy.out w2 (Hc1.out.trans hc2))
  have Hr2 := Lib.hid hr2
  have Hr22 := Lib.hid hr22
  have Hc2 := Lib.hid hc2
  clear hr2 hr22 hc2
  go_wp2_with fail
  refine Hcp.out.mono ?_
  rintro e w3 ⟨g, c, rfl, g1, g2, g3, g4, hD, hc3⟩
  have hsz2 := Hc2.out.size
  have hsz3 := hc3.size
  have hst : StandB (fun j => bs.getD j 0) 0 (bs1 ++ (bs2 ++ rs.flatten)) := by
    rw [← Hbs.out]
    intro j v hv
    show bs.getD (0 + j) 0 = v
    rw [Nat.zero_add, List.getD_eq_getElem?_getD, hv]; rfl
  have hrl : rs.length = N := by rw [HNl.out]; exact Hpre.out.len.2
  have hnl : ns.length = N := by rw [HNl.out]; exact Hpre.out.len.1
  have hset := prefSet_ok w3 d d2 g 0 bs.length c ee eu S M ns rs bs1 bs2 (fun j => bs.getD j 0) (.slice none 0 0) (.slice none 0 0) 0 (.slice none 0 0) (.slice none 0 0) (Hr2.out.keep hd2 hc3 (fun _ e => e)) (by omega) (Hr22.out.keep hd4 hc3 (fun _ e => e)) (by omega) hdne hD (HE.out.keep ((Hc1.out.trans Hc2.out).trans hc3) (fun h => h) (fun h => h)) g1 g2 (by omega) (by omega) (by omega) (by omega) (by omega) Henc.out Henc2.out Hf.out hst (by rw [Hbs.out]; simp only [List.length_append]; omega) (by omega) (by omega) (fun r hr => by have := Hrs4.out r hr; omega) (fun n hn => by have := Hns4.out n hn; omega)
  rw [hnl] at hset
  have Hset := Lib.hid hset
  have Hc3 := Lib.hid hc3
  clear hset hc3 hD hst
  go_wp2_with fail
  refine Hset.out.mono ?_
  rintro e w4 ⟨rfl, hc4, pb, lb, po, R0, C', p1, p2, l1, l2, hpl, hrow, hpr, hLS⟩
  have hsz4 := hc4.size
  have hps : PS (fun a _ => a = g) w4 d d2 g lb pb [] (.slice none 0 0) ns rs ls 0 N po R0 C' 0 rs.length := by
    refine ⟨by rw [hnl]; exact hrow, by omega, by omega, by omega, fun t n hn => by rw [Nat.zero_add]; exact hpr t n hn, hLS, Hpre.out, .inl ⟨rfl, rfl⟩, fun l hl => by have := Hls4.out l hl; omega, by simp, by omega, by have := HNl.out; omega, hdne, by omega, by omega, by omega, by omega⟩
  have hst : StT d d2 g lb pb ns rs ls (fun a => a = g) 0 w4 := ⟨Nat.zero_le _, rfl, l2, p2, fun a (ha : a = g) => by subst ha; exact ⟨by omega, by omega, by omega, by omega, by omega⟩, [], .slice none 0 0, 0, N, po, R0, C', 0, rs.length, hps⟩
  have h14 : Chg (fun a _ => w1.heap.size ≤ a) w1 w4 := ((Hc2.out.trans Hc3.out).mono (fun _ _ _ h => h.elim)).trans (hc4.mono (fun a x _ hh => by rcases hh with hh | hh <;> omega))
  have hnb4 : ∀ j (hj : j < nb.length), ∃ g' o, bp = some ⟨g', o, none⟩ ∧ w4.cell? ⟨g', o + j, none⟩ = some (.int .i64 nb[j]) ∧ ¬ OwnPT d d2 lb pb g' := by
    intro j hj
    obtain ⟨g', o, h1, h2⟩ := HN.out j hj
    have hgl : g' < w.heap.size := World.block_lt_of_cell? _ _ h2
    have hws := Hc1.out.size
    exact ⟨g', o, h1, h14.keep (Hc1.out.keep h2 (fun h => h)) (by intro hh; omega), by rintro (hh | hh | hh | hh) <;> omega⟩
  have hdec := decodedT_ok (OwnPT d d2 lb pb) (StT d d2 g lb pb ns rs ls) ls _ _ d bc bp nb (fun a => a = g) w4 hst (decT d d2 g lb pb ns rs ls hasz) (by have := HNl.out; omega) E18.out E19.out hnb4 hnc Hfb.out
  have Hdec := Lib.hid hdec
  have H14 := Lib.hid h14
  have hO4 : ∀ a, OwnPT d d2 lb pb a → w1.heap.size ≤ a := by rintro a (hh | hh | hh | hh) <;> omega
  have HO4 := Lib.hid hO4
  clear hdec h14 hnb4 hst hps hLS hpr hrow hc4 hO4
  go_wp2_with fail
  refine Hdec.out.mono ?_
  rintro e w5 ⟨v, us, V, rfl, hO, hBA, hc5⟩
  have h15 : Chg (fun a _ => w1.heap.size ≤ a) w1 w5 := H14.out.trans (hc5.mono (fun a x _ hh => HO4.out a hh))
  have htx := texts_ok hO hBA (by have := takesV_le nb ls; have := HNl.out; omega) (fun l hl => by have := Hls4.out l (takesV_mem hl); omega)
  rw [← HR.out] at htx
  have Htx := Lib.hid htx
  have H15 := Lib.hid h15
  clear htx h15 hO hBA hc5 Hdec
  go_wp2_with fail
  refine Htx.out.mono ?_
  rintro e w6 ⟨p, cc, rfl, hcc, hK6, hpg, hc6⟩
  have h16 := H15.out.trans (hc6.mono (fun _ _ _ h => h.elim))
  have n8 : ¬ w1.heap.size ≤ w.heap.size := by omega
  have n9 : ¬ w1.heap.size ≤ w.heap.size + 1 := by omega
  have q8 := h16.keep a1 n8
  have q9 := h16.keep a2 n9
  have f8 := (h16.frozen _ _ (World.block_lt_of_cell? _ _ a1)).trans b1
  have f9 := (h16.frozen _ _ (World.block_lt_of_cell? _ _ a2)).trans b2
  have hs15 := H15.out.size
  obtain ⟨z1, z2, z3, z4⟩ := endT hs1 Hc1.out h16 hK6 (fun g' o' e _ => by have := hpg g' o' e; omega) q8 q9 (.slice p R.length cc)
  have Hz1 := Lib.hid z1
  have Hz2 := Lib.hid z2
  have Hz3 := Lib.hid z3
  have Hz4 := Lib.hid z4
  have Hcc := Lib.hid hcc
  clear z1 z2 z3 z4 hK6 hc6 h16 n8 n9 hcc hpg
  go_wp2_with fail
  refine leaves_cons (f := 12) (args := #[.pointer (some ⟨w.heap.size, 0, none⟩), .pointer (some ⟨w.heap.size + 1, 0, none⟩)]) (by simp) (by simp [go_sem]) ?_
  refine (noStrings_idle ⟨w.heap.size, 0, none⟩ ⟨w.heap.size + 1, 0, none⟩ _).mono ?_
  rintro e u' w'' ⟨rfl, rfl, rfl⟩
  have z1 := Hz1.out
  have z2 := Hz2.out
  simp [Leaves, settle, results, Tryz.results8, go_sem, z1, z2]
  exact ⟨p, cc, ⟨rfl, rfl⟩, Hcc.out, Hz3.out, Hz4.out⟩
end Go.Proofs.YtaageikelkcphaaGreatDoor
