/- Part 8 of the proof: the texts PD, BM, BP, P1, P2, PE, joined. What each proves stands ahead of it. -/
import Derived.Test.YtmcjpnijldhelaaGreatDoorKG
import Derived.Test.YtmcjpnijldhelaaGreatDoorKB
import Derived.Laws.BitsLemmas
import Derived.Lib.EndianBits
import Derived.Test.YtmcjpnijldhelaaGreatDoorKC
import Derived.Test.YtmcjpnijldhelaaGreatDoorPFnDictionaryFloat64Readx3
set_option linter.unusedVariables false
set_option linter.unusedSimpArgs false
/- The plain law: which runs are asked; what they hold. -/
namespace Go.Proofs.YtmcjpnijldhelaaGreatDoor
open Go Go.RowKit Go.Proofs.YtmcjpnijldhelaaGreatDoor.PFnDictionaryFloat64Read Go.Proofs.YtmcjpnijldhelaaGreatDoorW.PrintWords Go.Proofs.YtmcjpnijldhelaaGreatDoorW.PrintMore
theorem numsOf_len {W : Nat} {r : S53} (h : FitR W r) : (numsOf r).length ≤ 300 := by
  unfold numsOf
  split
  · rename_i hp
    have := h.p hp
    rw [List.length_append, List.length_replicate, vals_len]; omega
  · rename_i hp
    have := h.q (by simpa using hp)
    rw [List.length_replicate]; omega
/-- The head of a round. -/
theorem fit_head (k : Nat) (W : Nat) (x6 : List Int) (l : List S53) (i : Nat) (r : S53) (hi : i < l.length) (hr : IsRun r) (hrd : rd_T53 l (i : Int) = r) :
    ∃ b, (∀ k, spec_RunsFit.l0 (k + 1) (W : Int) x6 l (l.length : Int) (i : Int) = spec_RunsFit.j2 k (W : Int) x6 l (l.length : Int) (i : Int) b r.f0 r.f1 r.f2) ∧ (b = false → 1 ≤ r.f1 ∧ (r.f0 = true → r.f1 ≤ 20 ∧ (r.f2.length : Int) ≤ 8 * r.f1) ∧ (r.f0 = false → r.f1 ≤ 300 ∧ r.f2.length = 1)) := by
  have key : ∀ k, spec_RunsFit.l0 (k + 1) (W : Int) x6 l (l.length : Int) (i : Int) = _ := fun k => by rw [spec_RunsFit.l0, if_pos (show (i : Int) < l.length by omega), if_pos (show (0 : Int) ≤ i by omega), if_pos (show (i : Int) < l.length by omega), hrd]
  by_cases h1 : r.f1 < 1
  · exact ⟨true, fun k => by rw [key k, if_pos h1], fun h => by cases h⟩
  · by_cases h0 : r.f0 = true
    · by_cases h2 : r.f1 > 20
      · exact ⟨true, fun k => by rw [key k, if_neg h1, if_pos h0, if_pos h2], fun h => by cases h⟩
      · have hw : RowKit.wrap64 (8 * r.f1) = 8 * r.f1 := IntWalk.wrap64_in _ (by omega)
        by_cases h3 : (r.f2.length : Int) > RowKit.wrap64 (8 * r.f1)
        · exact ⟨true, fun k => by rw [key k, if_neg h1, if_pos h0, if_neg h2, if_pos h3], fun h => by cases h⟩
        · exact ⟨false, fun k => by rw [key k, if_neg h1, if_pos h0, if_neg h2, if_neg h3, if_pos h0], fun _ => ⟨by omega, fun _ => ⟨by omega, by omega⟩, fun h => by rw [h0] at h; cases h⟩⟩
    · by_cases h2 : r.f1 > 300
      · exact ⟨true, fun k => by rw [key k, if_neg h1, if_neg h0, if_neg h0, if_pos h2], fun h => by cases h⟩
      · refine ⟨((r.f2.length : Int) != 1), fun k => by rw [key k, if_neg h1, if_neg h0, if_neg h0, if_neg h2], fun h => ⟨by omega, fun h => absurd h h0, fun _ => ⟨by omega, ?_⟩⟩⟩
        simp at h; omega
theorem fit_l0 (W : Nat) (hW : W ≤ 64) (l : List S53) (hL : l.length ≤ 40) (hI : ∀ r ∈ l, IsRun r) : ∀ (suf pre : List S53) (done : List Nat), pre ++ suf = l → done.length ≤ 300 * pre.length →
    ∃ res : List Int × Bool, Ev (fun k => spec_RunsFit.l0 k (W : Int) (ints done) l (l.length : Int) (pre.length : Int)) res ∧ (res.2 = true → (∀ r ∈ suf, FitR W r) ∧ res.1 = ints (done ++ allOf suf)) := by
  intro suf
  induction suf with
  | nil =>
    intro pre done h hd
    rw [List.append_nil] at h
    subst h
    exact ⟨(ints done, true), .now fun k => by rw [spec_RunsFit.l0, if_neg (by omega)], fun _ => ⟨fun r hr => (by cases hr), by rw [show allOf [] = [] from rfl, List.append_nil]⟩⟩
  | cons r suf ih =>
    intro pre done h hd
    have hl : pre.length + suf.length + 1 = l.length := by rw [← h, List.length_append, List.length_cons]; omega
    have hrd : rd_T53 l (pre.length : Int) = r := by rw [← h]; exact rdT_app pre suf r
    have hI1 := hI r (by rw [← h]; simp)
    obtain ⟨b, hb, hb2⟩ := fit_head 0 W (ints done) l pre.length r (by omega) hI1 hrd
    cases b with
    | true => exact ⟨([], false), .step hb (.now fun k => by rw [spec_RunsFit.j2, if_pos rfl]), fun h => by cases h⟩
    | false =>
      obtain ⟨g1, gp, gq⟩ := hb2 rfl
      have hcnt : r.f1 = (r.f1.toNat : Nat) := by omega
      have hf2 : r.f2.length ≤ 160 := by
        cases h0 : r.f0 with
        | true => have := gp h0; omega
        | false => have := gq h0; omega
      -- what the round leaves
      have hnum : (numsOf r).length ≤ 300 := by
        unfold numsOf
        split
        · rename_i hp
          have := gp hp
          rw [List.length_append, List.length_replicate, vals_len]; omega
        · rename_i hp
          have := gq (by simpa using hp)
          rw [List.length_replicate]; omega
      obtain ⟨res, hres, hres2⟩ := ih (pre ++ [r]) (done ++ numsOf r) (by rw [List.append_assoc]; exact h) (by rw [List.length_append, List.length_append, List.length_singleton]; omega)
      rw [List.length_append, List.length_singleton] at hres
      have hg : Ev (fun k => if r.f0 = true then (if (ints done).length + r.f2.length < 17592186044416 then spec_RunsFit.l2 k (W : Int) (ints done ++ r.f2) (r.f2.length : Int) l (l.length : Int) (pre.length : Int) r.f0 r.f1 r.f2 else none) else spec_RunsFit.l3 k (W : Int) (ints done) 0 l (l.length : Int) (pre.length : Int) r.f0 r.f1 r.f2) res := by
        by_cases h0 : r.f0 = true
        · have hp := gp h0
          have h2 := fit_l2 (W : Int) l pre.length r r.f1.toNat hcnt (by omega) (by omega) res (8 * r.f1.toNat - r.f2.length) r.f2.length (done ++ vals r) (by omega) (by rw [List.length_append, vals_len]; omega) (by
            have hh := hres
            unfold numsOf at hh
            rw [if_pos h0, vals_len, ← List.append_assoc] at hh
            exact hh)
          refine .congr (fun k => ?_) h2
          rw [if_pos h0, if_pos (by rw [ints_len]; omega), ints_app, ← hI1.ints]
        · have h0' : r.f0 = false := by simpa using h0
          have hq := gq h0'
          obtain ⟨v0, hv0⟩ : ∃ v0, vals r = [v0] := List.length_eq_one_iff.1 (by rw [vals_len]; exact hq.2)
          have h3 := fit_l3 (W : Int) l pre.length r r.f1.toNat v0 hcnt (by omega) (by omega) (by rw [hI1.ints, hv0]; rfl) res r.f1.toNat 0 done (by omega) (by omega) (by
            have hh := hres
            unfold numsOf at hh
            rw [if_neg h0, hv0] at hh
            exact hh)
          refine .congr (fun k => ?_) h3
          rw [if_neg h0]; rfl
      obtain ⟨res', h1, h2⟩ := fit_l1 W hW l pre.length r hI1 (by omega) done res hg r.f2 [] rfl
      refine ⟨res', .step hb (.step (fun k => by rw [spec_RunsFit.j2, if_neg (by decide)]; rfl) h1), fun hh => ?_⟩
      obtain ⟨e1, rfl⟩ := h2 hh
      obtain ⟨e2, e3⟩ := hres2 hh
      refine ⟨fun x hx => ?_, ?_⟩
      · rcases List.mem_cons.1 hx with rfl | hx
        · refine ⟨g1, gp, gq, fun v hv => ?_⟩
          obtain ⟨u, hu, rfl⟩ := List.mem_map.1 hv
          exact e1 u hu
        · exact e2 x hx
      · rw [e3, List.append_assoc]; rfl
theorem runsFit_ev (l : List S53) (a1 : Int) (hI : ∀ r ∈ l, IsRun r) :
    ∃ res : List Int × Bool, Ev (fun k => spec_RunsFit.f k l a1) res ∧ (res.2 = true → ∃ W : Nat, a1 = W ∧ 1 ≤ W ∧ W ≤ 64 ∧ l.length ≤ 40 ∧ (∀ r ∈ l, FitR W r) ∧ res.1 = ints (allOf l)) := by
  have hbad : ∀ b : Bool, b = true → Ev (fun k => spec_RunsFit.j0 k l a1 ([] : List Int) b) ([], false) := fun b hb => .now fun k => by rw [spec_RunsFit.j0, if_pos hb]
  by_cases h1 : (l.length : Int) > 40
  · exact ⟨([], false), .congr (fun k => by unfold spec_RunsFit.f; rw [if_pos h1]) (hbad true rfl), fun h => by cases h⟩
  · by_cases h2 : a1 < 1
    · exact ⟨([], false), .congr (fun k => by unfold spec_RunsFit.f; rw [if_neg h1, if_pos h2]) (hbad true rfl), fun h => by cases h⟩
    · by_cases h3 : a1 > 64
      · exact ⟨([], false), .congr (fun k => by unfold spec_RunsFit.f; rw [if_neg h1, if_neg h2]) (hbad _ (decide_eq_true h3)), fun h => by cases h⟩
      · obtain ⟨W, rfl⟩ : ∃ W : Nat, a1 = W := ⟨a1.toNat, by omega⟩
        obtain ⟨res, hr, hr2⟩ := fit_l0 W (by omega) l (by omega) hI l [] [] rfl (Nat.le_refl _)
        refine ⟨res, .congr (fun k => by unfold spec_RunsFit.f; rw [if_neg h1, if_neg h2]) (.step (fun k => by rw [spec_RunsFit.j0, if_neg (by simpa using h3)]; rfl) hr), fun hh => ⟨W, rfl, by omega, by omega, by omega, (hr2 hh).1, (hr2 hh).2⟩⟩
end Go.Proofs.YtmcjpnijldhelaaGreatDoor
/- Bytes and their bits: plain facts, and rows of bytes that are read as bits. No program in sight. -/
namespace Go.Proofs.YtmcjpnijldhelaaGreatDoor
open Go Go.RowKit
theorem u8_or_nat (x y : Nat) (hx : x < 256) (hy : y < 256) : bits .or .u8 (x : Int) y = ((x ||| y : Nat) : Int) := (bits_nat .u8 8 (by decide) wraps_u8 x y hx hy).2
/-- n bytes from (b, off) on hold the bits β. -/
structure Bmp (w : World) (b off n : Nat) (β : Nat → Bool) : Prop where
  cell : ∀ j, j < n → ∃ x : Nat, w.cell? ⟨b, off + j, none⟩ = some (.int .u8 x) ∧ x < 256 ∧ ∀ t, t < 8 → x.testBit t = β (8 * j + t)
  fr : ∀ j, j < n → w.frozen? ⟨b, off + j, none⟩ = false
theorem Bmp.keep {w w' : World} {b off n : Nat} {β : Nat → Bool} (h : Bmp w b off n β) {S : Nat → Nat → Prop} (hc : Chg S w w') (hS : ∀ j, j < n → ¬ S b (off + j)) : Bmp w' b off n β :=
  ⟨fun j hj => let ⟨x, h1, h2⟩ := h.cell j hj; ⟨x, hc.keep h1 (hS j hj), h2⟩, fun j hj => let ⟨x, h1, h2⟩ := h.cell j hj; (hc.frozen _ _ (World.block_lt_of_cell? w _ h1)).trans (h.fr j hj)⟩
theorem Bmp.congr {w : World} {b off n : Nat} {β γ : Nat → Bool} (h : Bmp w b off n β) (hβ : ∀ i, i < 8 * n → β i = γ i) : Bmp w b off n γ :=
  ⟨fun j hj => let ⟨x, h1, h2, h3⟩ := h.cell j hj; ⟨x, h1, h2, fun t ht => by rw [h3 t ht]; exact hβ _ (by omega)⟩, h.fr⟩
/-- One byte is laid. -/
theorem Bmp.put {w : World} {b off n : Nat} {β γ : Nat → Bool} (h : Bmp w b off n β) (j x : Nat) (hx : x < 256) (hb : ∀ t, t < 8 → x.testBit t = γ (8 * j + t)) (hg : ∀ i, i < 8 * n → i / 8 ≠ j → γ i = β i) : Bmp (w.setCell ⟨b, off + j, none⟩ (.int .u8 x)) b off n γ := by
  refine ⟨fun i hi => ?_, fun i hi => by rw [World.frozen?_setCell]; exact h.fr i hi⟩
  obtain ⟨y, h1, h2, h3⟩ := h.cell i hi
  by_cases hij : i = j
  · subst hij
    exact ⟨x, World.cell?_setCell_same _ _ _ h1, hx, hb⟩
  · refine ⟨y, ?_, h2, fun t ht => ?_⟩
    · rw [World.cell?_setCell_other _ ⟨b, off + j, none⟩ ⟨b, off + i, none⟩ _ (by intro e; injection e; omega)]; exact h1
    · rw [h3 t ht]; exact (hg _ (by omega) (by omega)).symm
/-- Byte q is x. -/
def byt (β : Nat → Bool) (q x : Nat) : Nat → Bool := fun i => if i / 8 = q then x.testBit (i % 8) else β i
theorem Bmp.byte {w : World} {b off n : Nat} {β : Nat → Bool} (h : Bmp w b off n β) (q x : Nat) (hx : x < 256) : Bmp (w.setCell ⟨b, off + q, none⟩ (.int .u8 x)) b off n (byt β q x) :=
  h.put q x hx (fun t ht => by unfold byt; rw [if_pos (by omega)]; congr 1; omega) (fun i _ hi => by unfold byt; rw [if_neg hi])
end Go.Proofs.YtmcjpnijldhelaaGreatDoor
/- Words of 64 bits by their bits. No program in sight. -/
namespace Go.Proofs.YtmcjpnijldhelaaGreatDoor
open Go Go.RowKit
theorem u64_and_nat (x y : Nat) (hx : x < 2 ^ 64) (hy : y < 2 ^ 64) : bits .and .u64 (x : Int) y = ((x &&& y : Nat) : Int) := (bits_nat .u64 64 (by decide) wraps_u64 x y hx hy).1
theorem u64_or_nat (x y : Nat) (hx : x < 2 ^ 64) (hy : y < 2 ^ 64) : bits .or .u64 (x : Int) y = ((x ||| y : Nat) : Int) := (bits_nat .u64 64 (by decide) wraps_u64 x y hx hy).2
/-- The bytes of a bitmap. -/
theorem Bmp.bytes {w : World} {b off n : Nat} {β : Nat → Bool} (h : Bmp w b off n β) : ∃ E : Nat → Nat, (∀ j, E j < 256) ∧ Bytes w b off n E ∧ ∀ j, j < n → ∀ t, t < 8 → (E j).testBit t = β (8 * j + t) := by
  have : ∀ j, ∃ x : Nat, x < 256 ∧ (j < n → w.cell? ⟨b, off + j, none⟩ = some (.int .u8 x) ∧ ∀ t, t < 8 → x.testBit t = β (8 * j + t)) := by
    intro j
    by_cases hj : j < n
    · obtain ⟨x, h1, h2, h3⟩ := h.cell j hj
      exact ⟨x, h2, fun _ => ⟨h1, h3⟩⟩
    · exact ⟨0, by omega, fun h => absurd h hj⟩
  obtain ⟨E, hE⟩ := Classical.axiomOfChoice this
  exact ⟨E, fun j => (hE j).1, fun j hj => ((hE j).2 hj).1, fun j hj => ((hE j).2 hj).2⟩
end Go.Proofs.YtmcjpnijldhelaaGreatDoor
/- Runs and groups of a hybrid of runs and packed numbers: what bytes hold. No program in sight. -/
namespace Go.Proofs.YtmcjpnijldhelaaGreatDoor
/-- m numbers of W bits from bit p on. -/
def bitsL (D : Nat → Nat) (p W : Nat) : Nat → List Nat
  | 0 => []
  | m + 1 => bitsV D p W :: bitsL D (p + W) W m
theorem bitsL_length (D : Nat → Nat) (W : Nat) : ∀ (m p : Nat), (bitsL D p W m).length = m
  | 0, p => rfl
  | m + 1, p => by rw [bitsL, List.length_cons, bitsL_length D W m]
theorem bitsL_get (D : Nat → Nat) (W : Nat) : ∀ (m p j : Nat), j < m → (bitsL D p W m)[j]? = some (bitsV D (p + j * W) W)
  | 0, p, j, h => absurd h (Nat.not_lt_zero _)
  | m + 1, p, 0, h => by rw [bitsL, Nat.zero_mul, Nat.add_zero]; rfl
  | m + 1, p, j + 1, h => by
    rw [bitsL, List.getElem?_cons_succ, bitsL_get D W m (p + W) j (by omega), Nat.succ_mul]
    congr 2; omega
theorem bitsL_drop (D : Nat → Nat) (W : Nat) : ∀ (k m p : Nat), k ≤ m → (bitsL D p W m).drop k = bitsL D (p + k * W) W (m - k)
  | 0, m, p, h => by rw [Nat.zero_mul]; rfl
  | k + 1, 0, p, h => by omega
  | k + 1, m + 1, p, h => by
    rw [bitsL, List.drop_succ_cons, bitsL_drop D W k m (p + W) (by omega), Nat.succ_mul, show m + 1 - (k + 1) = m - k by omega]
    congr 1; omega
/-- Bytes from q on, below L, are runs and groups of numbers of W bits, of which vs are the first ones. -/
inductive Runs (D : Nat → Nat) (L W : Nat) : Nat → List Nat → Prop
  | nil (q : Nat) : Runs D L W q []
  | rep (q k n : Nat) (vs : List Nat) : Leb D q k (2 * n) → 1 ≤ n → n ≤ 2147483647 → q + k + (W + 7) / 8 ≤ L → Runs D L W (q + k + (W + 7) / 8) vs → Runs D L W q (List.replicate n (leV D (q + k) ((W + 7) / 8)) ++ vs)
  | lit (q k n : Nat) (vs : List Nat) : Leb D q k (2 * n + 1) → 1 ≤ n → n ≤ 268435455 → q + k + n * W ≤ L → Runs D L W (q + k + n * W) vs → Runs D L W q (bitsL D (8 * (q + k)) W (8 * n) ++ vs)
/-- Where a reader of runs stands: vs are the next numbers. -/
inductive Pos (D : Nat → Nat) (L W : Nat) : Nat → Nat → Nat → Nat → Nat → List Nat → Prop
  | rep (n cur o f : Nat) (us : List Nat) : 1 ≤ n → n ≤ 2147483647 → Runs D L W (o + (f + 7) / 8) us → Pos D L W n 0 cur o f (List.replicate n cur ++ us)
  | lit (n cur o f q : Nat) (us : List Nat) : 1 ≤ n → n ≤ 2147483647 → 8 * q = 8 * o + f + n * W → q ≤ L → Runs D L W q us → Pos D L W 0 n cur o f (bitsL D (8 * o + f) W n ++ us)
  | idle (cur o f : Nat) (vs : List Nat) : Runs D L W (o + (f + 7) / 8) vs → Pos D L W 0 0 cur o f vs
theorem drop_rep (n m v : Nat) (us : List Nat) (h : m ≤ n) : (List.replicate n v ++ us).drop m = List.replicate (n - m) v ++ us := by
  rw [List.drop_append_of_le_length (by simpa using h), List.drop_replicate]
theorem drop_lit (D : Nat → Nat) (p W n m : Nat) (us : List Nat) (h : m ≤ n) : (bitsL D p W n ++ us).drop m = bitsL D (p + m * W) W (n - m) ++ us := by
  rw [List.drop_append_of_le_length (by rw [bitsL_length]; exact h), bitsL_drop D W m n p h]
/-- m of a run are taken. -/
theorem Pos.took_rep {D : Nat → Nat} {L W n cur o f m : Nat} {vs : List Nat} (h : Pos D L W n 0 cur o f vs) (hn : 1 ≤ n) (hm : m ≤ n) : Pos D L W (n - m) 0 cur o f (vs.drop m) ∧ ∀ j, j < m → vs[j]? = some cur := by
  cases h with
  | rep _ _ _ _ us h1 h2 hr =>
    rw [drop_rep _ _ _ _ hm]
    refine ⟨?_, fun j hj => ?_⟩
    · by_cases e : m = n
      · subst e; rw [Nat.sub_self]; exact .idle _ _ _ _ hr
      · exact .rep _ _ _ _ _ (by omega) (by omega) hr
    · rw [List.getElem?_append_left (by simp; omega), List.getElem?_replicate, if_pos (by omega)]
  | lit _ _ _ _ q us h1 h2 hq hL hr => omega
  | idle => omega
/-- m of a group are taken. -/
theorem Pos.took_lit {D : Nat → Nat} {L W n cur o f o' f' m : Nat} {vs : List Nat} (h : Pos D L W 0 n cur o f vs) (hn : 1 ≤ n) (hm : m ≤ n) (hp : 8 * o' + f' = 8 * o + f + m * W) : Pos D L W 0 (n - m) cur o' f' (vs.drop m) ∧ (∀ j, j < m → vs[j]? = some (bitsV D (8 * o + f + j * W) W)) ∧ 8 * o + f + n * W ≤ 8 * L := by
  cases h with
  | lit _ _ _ _ q us h1 h2 hq hL hr =>
    rw [drop_lit _ _ _ _ _ _ hm]
    have e1 : n * W = m * W + (n - m) * W := by rw [← Nat.add_mul]; congr 1; omega
    refine ⟨?_, fun j hj => ?_, by omega⟩
    · rw [← hp]
      by_cases e : m = n
      · subst e
        rw [Nat.sub_self, bitsL, List.nil_append]
        rw [Nat.sub_self, Nat.zero_mul] at e1
        have : o' + (f' + 7) / 8 = q := by omega
        exact .idle _ _ _ _ (by rw [this]; exact hr)
      · exact .lit _ _ _ _ q us (by omega) (by omega) (by omega) hL hr
    · rw [List.getElem?_append_left (by rw [bitsL_length]; omega), bitsL_get _ _ _ _ _ (by omega)]
  | rep _ _ _ _ us h1 h2 hr => omega
  | idle => omega
theorem Pos.cases {D : Nat → Nat} {L W r n cur o f : Nat} {vs : List Nat} (h : Pos D L W r n cur o f vs) : (1 ≤ r ∧ n = 0) ∨ (r = 0 ∧ 1 ≤ n) ∨ (r = 0 ∧ n = 0 ∧ Runs D L W (o + (f + 7) / 8) vs) := by
  cases h with
  | rep _ _ _ _ us h1 h2 hr => exact .inl ⟨h1, rfl⟩
  | lit _ _ _ _ q us h1 h2 hq hL hr => exact .inr (.inl ⟨rfl, h1⟩)
  | idle _ _ _ _ hr => exact .inr (.inr ⟨rfl, rfl, hr⟩)
theorem Pos.bounds {D : Nat → Nat} {L W r n cur o f : Nat} {vs : List Nat} (h : Pos D L W r n cur o f vs) : r ≤ 2147483647 ∧ n ≤ 2147483647 := by
  cases h with
  | rep _ _ _ _ us h1 h2 hr => exact ⟨h2, by omega⟩
  | lit _ _ _ _ q us h1 h2 hq hL hr => exact ⟨by omega, h2⟩
  | idle _ _ _ _ hr => exact ⟨by omega, by omega⟩
end Go.Proofs.YtmcjpnijldhelaaGreatDoor
/- Numbers by sevens, by bytes and by bits as they are written. No program in sight. -/
namespace Go.Proofs.YtmcjpnijldhelaaGreatDoor
/-- Bytes that stand from q on. -/
def StandB (D : Nat → Nat) (q : Nat) (bs : List Nat) : Prop := ∀ j v, bs[j]? = some v → D (q + j) = v
theorem StandB.app {D : Nat → Nat} {q : Nat} {xs ys : List Nat} (h : StandB D q (xs ++ ys)) : StandB D q xs ∧ StandB D (q + xs.length) ys := by
  refine ⟨fun j v hv => h j v ?_, fun j v hv => ?_⟩
  · have := (List.getElem?_eq_some_iff.1 hv).1
    rw [List.getElem?_append_left this]; exact hv
  · rw [Nat.add_assoc]
    refine h _ _ ?_
    rw [List.getElem?_append_right (by omega), Nat.add_sub_cancel_left]; exact hv
theorem StandB.cons {D : Nat → Nat} {q x : Nat} {xs : List Nat} (h : StandB D q (x :: xs)) : D q = x ∧ StandB D (q + 1) xs :=
  ⟨h 0 x rfl, fun j v hv => by have := h (j + 1) v (by simpa using hv); rwa [show q + (j + 1) = q + 1 + j by omega] at this⟩
/-- A number by sevens. -/
def vlq (u : Nat) : List Nat := if h : u < 128 then [u] else (u % 128 + 128) :: vlq (u / 128)
termination_by u
decreasing_by omega
theorem vlq_lo (u : Nat) (h : u < 128) : vlq u = [u] := by rw [vlq, dif_pos h]
theorem vlq_hi (u : Nat) (h : ¬ u < 128) : vlq u = (u % 128 + 128) :: vlq (u / 128) := by rw [vlq, dif_neg h]
theorem lebV_front (D : Nat → Nat) (q : Nat) : ∀ k, lebV D q (k + 1) = D q % 128 + 128 * lebV D (q + 1) k
  | 0 => by simp [lebV]
  | k + 1 => by
    have e1 : 2 ^ (7 * (k + 1)) = 128 * 2 ^ (7 * k) := by rw [show 7 * (k + 1) = 7 + 7 * k by omega, Nat.pow_add]
    rw [lebV, lebV_front D q k, lebV, e1, Nat.mul_add, show q + (k + 1) = q + 1 + k by omega, Nat.mul_assoc]
    omega
theorem vlq_len (n : Nat) : ∀ u, u < 2 ^ (7 * (n + 1)) → 1 ≤ (vlq u).length ∧ (vlq u).length ≤ n + 1 := by
  induction n with
  | zero => intro u hu; rw [vlq_lo u (by simpa using hu)]; exact ⟨Nat.le_refl _, Nat.le_refl _⟩
  | succ n ih =>
    intro u hu
    by_cases h : u < 128
    · rw [vlq_lo u h]; simp
    · have e1 : 2 ^ (7 * (n + 1 + 1)) = 128 * 2 ^ (7 * (n + 1)) := by rw [show 7 * (n + 1 + 1) = 7 + 7 * (n + 1) by omega, Nat.pow_add]
      have := ih (u / 128) (by omega)
      rw [vlq_hi u h, List.length_cons]; omega
theorem vlq_pos (u : Nat) : 1 ≤ (vlq u).length := by
  by_cases h : u < 128
  · rw [vlq_lo u h]; simp
  · rw [vlq_hi u h]; simp
theorem vlq_is (D : Nat → Nat) (n : Nat) : ∀ u q, u < 2 ^ (7 * (n + 1)) → StandB D q (vlq u) →
    lebV D q (vlq u).length = u ∧ (∀ i, i + 1 < (vlq u).length → 128 ≤ D (q + i)) ∧ D (q + (vlq u).length - 1) < 128 := by
  induction n with
  | zero =>
    intro u q hu hs
    have hu' : u < 128 := by simpa using hu
    rw [vlq_lo u hu'] at hs ⊢
    have h0 := hs.cons.1
    refine ⟨by simp [lebV, h0]; omega, fun i hi => by simp at hi, ?_⟩
    simp [h0]; exact hu'
  | succ n ih =>
    intro u q hu hs
    by_cases h : u < 128
    · rw [vlq_lo u h] at hs ⊢
      have h0 := hs.cons.1
      refine ⟨by simp [lebV, h0]; omega, fun i hi => by simp at hi, ?_⟩
      simp [h0]; exact h
    · have e1 : 2 ^ (7 * (n + 1 + 1)) = 128 * 2 ^ (7 * (n + 1)) := by rw [show 7 * (n + 1 + 1) = 7 + 7 * (n + 1) by omega, Nat.pow_add]
      rw [vlq_hi u h] at hs ⊢
      obtain ⟨h0, hs1⟩ := hs.cons
      obtain ⟨i1, i2, i3⟩ := ih (u / 128) (q + 1) (by omega) hs1
      have hp := vlq_pos (u / 128)
      rw [List.length_cons]
      refine ⟨?_, fun i hi => ?_, ?_⟩
      · rw [lebV_front, i1, h0]; omega
      · cases i with
        | zero => rw [Nat.add_zero, h0]; omega
        | succ i => have := i2 i (by omega); rwa [show q + (i + 1) = q + 1 + i by omega]
      · rwa [show q + ((vlq (u / 128)).length + 1) - 1 = q + 1 + (vlq (u / 128)).length - 1 by omega]
theorem vlq_leb (D : Nat → Nat) (u q : Nat) (hu : u < 2 ^ 64) (hs : StandB D q (vlq u)) : Leb D q (vlq u).length u := by
  have h70 : u < 2 ^ (7 * (9 + 1)) := Nat.lt_of_lt_of_le hu (Nat.pow_le_pow_right (by decide) (by decide))
  obtain ⟨h1, h2⟩ := vlq_len 9 u h70
  obtain ⟨i1, i2, i3⟩ := vlq_is D 9 u q h70 hs
  exact ⟨h1, h2, i2, i3, i1, hu⟩
theorem vlq_byte (n : Nat) : ∀ u, u < 2 ^ (7 * (n + 1)) → ∀ x ∈ vlq u, x < 256 := by
  induction n with
  | zero => intro u hu x hx; rw [vlq_lo u (by simpa using hu)] at hx; simp at hx; have : u < 128 := by simpa using hu
            omega
  | succ n ih =>
    intro u hu x hx
    by_cases h : u < 128
    · rw [vlq_lo u h] at hx; simp at hx; omega
    · have e1 : 2 ^ (7 * (n + 1 + 1)) = 128 * 2 ^ (7 * (n + 1)) := by rw [show 7 * (n + 1 + 1) = 7 + 7 * (n + 1) by omega, Nat.pow_add]
      rw [vlq_hi u h] at hx
      rcases List.mem_cons.1 hx with rfl | hx
      · omega
      · exact ih (u / 128) (by omega) x hx
/-- n bytes of a number, the lowest first. -/
def leB (v : Nat) : Nat → List Nat
  | 0 => []
  | n + 1 => v % 256 :: leB (v / 256) n
theorem leB_length : ∀ (n v : Nat), (leB v n).length = n
  | 0, v => rfl
  | n + 1, v => by rw [leB, List.length_cons, leB_length n]
theorem leB_get : ∀ (n v j : Nat), j < n → (leB v n)[j]? = some (v / 256 ^ j % 256)
  | 0, v, j, h => absurd h (Nat.not_lt_zero _)
  | n + 1, v, 0, h => by simp [leB]
  | n + 1, v, j + 1, h => by rw [leB, List.getElem?_cons_succ, leB_get n (v / 256) j (by omega), Nat.div_div_eq_div_mul, Nat.pow_succ, Nat.mul_comm 256]
theorem leB_stand {D : Nat → Nat} : ∀ (n v q : Nat), v < 256 ^ n → StandB D q (leB v n) → leV D q n = v
  | 0, v, q, hv, _ => by simp at hv; simp [leV, hv]
  | n + 1, v, q, hv, hs => by
    obtain ⟨h0, h1⟩ := hs.cons
    rw [leV, leB_stand n (v / 256) (q + 1) (by rw [Nat.pow_succ] at hv; omega) h1, h0]; omega
/-- A number by its bits. -/
theorem bitsV_of (D : Nat → Nat) : ∀ (W p v : Nat), v < 2 ^ W → (∀ t, t < W → bitB D (p + t) = v / 2 ^ t % 2) → bitsV D p W = v
  | 0, p, v, hv, _ => by simp at hv; simp [bitsV, hv]
  | W + 1, p, v, hv, hb => by
    have h0 := hb 0 (by omega)
    rw [Nat.add_zero, Nat.pow_zero, Nat.div_one] at h0
    rw [bitsV, bitsV_of D W (p + 1) (v / 2) (by rw [Nat.pow_succ] at hv; omega) (fun t ht => ?_), h0]
    · omega
    · have := hb (t + 1) (by omega)
      rw [show p + 1 + t = p + (t + 1) by omega, this, Nat.pow_succ, Nat.mul_comm (2 ^ t) 2, ← Nat.div_div_eq_div_mul]
/-- Numbers by their bits. -/
theorem bitsL_of (D : Nat → Nat) (W : Nat) : ∀ (l : List Nat) (p : Nat), (∀ v ∈ l, v < 2 ^ W) → (∀ j v t, l[j]? = some v → t < W → bitB D (p + j * W + t) = v / 2 ^ t % 2) → bitsL D p W l.length = l
  | [], p, _, _ => rfl
  | x :: l, p, hl, hb => by
    rw [List.length_cons, bitsL, bitsV_of D W p x (hl x (by simp)) (fun t ht => by have := hb 0 x t rfl ht; rwa [Nat.zero_mul, Nat.add_zero] at this)]
    rw [bitsL_of D W l (p + W) (fun v hv => hl v (by simp [hv])) (fun j v t hv ht => by have := hb (j + 1) v t (by simpa using hv) ht; rwa [Nat.succ_mul, show p + (j * W + W) + t = p + W + j * W + t by omega] at this)]
/-- A run of one number. -/
theorem Runs.put_rep {D : Nat → Nat} {L W q n v : Nat} {vs : List Nat} (h1 : 1 ≤ n) (h2 : n ≤ 2147483647) (hv : v < 256 ^ ((W + 7) / 8)) (hs : StandB D q (vlq (2 * n) ++ leB v ((W + 7) / 8))) (hq : q + (vlq (2 * n)).length + (W + 7) / 8 ≤ L) (hr : Runs D L W (q + (vlq (2 * n)).length + (W + 7) / 8) vs) : Runs D L W q (List.replicate n v ++ vs) := by
  have := Runs.rep q (vlq (2 * n)).length n vs (vlq_leb D (2 * n) q (by omega) hs.app.1) h1 h2 hq hr
  rwa [leB_stand _ _ _ hv hs.app.2] at this
/-- A group of numbers. -/
theorem Runs.put_lit {D : Nat → Nat} {L W q n : Nat} {l vs : List Nat} (h1 : 1 ≤ n) (h2 : n ≤ 268435455) (hl : l.length = 8 * n) (hv : ∀ v ∈ l, v < 2 ^ W) (hs : StandB D q (vlq (2 * n + 1))) (hb : ∀ j v t, l[j]? = some v → t < W → bitB D (8 * (q + (vlq (2 * n + 1)).length) + j * W + t) = v / 2 ^ t % 2) (hq : q + (vlq (2 * n + 1)).length + n * W ≤ L) (hr : Runs D L W (q + (vlq (2 * n + 1)).length + n * W) vs) : Runs D L W q (l ++ vs) := by
  have := Runs.lit q (vlq (2 * n + 1)).length n vs (vlq_leb D (2 * n + 1) q (by omega) hs) h1 h2 hq hr
  rwa [← hl, bitsL_of D W l _ hv hb] at this
end Go.Proofs.YtmcjpnijldhelaaGreatDoor
/- The plain law: a number of variable length; bits packed. -/
namespace Go.Proofs.YtmcjpnijldhelaaGreatDoor
open Go Go.RowKit Go.Proofs.YtmcjpnijldhelaaGreatDoor.PFnDictionaryFloat64Read Go.Proofs.YtmcjpnijldhelaaGreatDoorW.PrintWords Go.Proofs.YtmcjpnijldhelaaGreatDoorW.PrintMore
set_option maxRecDepth 100000 in
theorem or128 : ∀ a : Fin 256, a.val ||| 128 = a.val % 128 + 128 := by decide
theorem putVlq_l0 : ∀ (n u : Nat) (done : List Nat), u < 2 ^ (7 * (n + 1)) → done.length + n ≤ 1000000 → Ev (fun k => spec_PutVLQ.l0 k (u : Int) (ints done)) (ints (done ++ vlq u)) := by
  intro n
  induction n with
  | zero =>
    intro u done hu hd
    have h : u < 128 := by simpa using hu
    refine .now fun k => ?_
    rw [spec_PutVLQ.l0, if_neg (by omega), if_pos (by rw [ints_len]; omega), vlq_lo u h, ints_app, show (u : Int) % 256 = u by omega]
    rfl
  | succ n ih =>
    intro u done hu hd
    by_cases h : u < 128
    · refine .now fun k => ?_
      rw [spec_PutVLQ.l0, if_neg (by omega), if_pos (by rw [ints_len]; omega), vlq_lo u h, ints_app, show (u : Int) % 256 = u by omega]
      rfl
    · have h1 := ih (u / 128) (done ++ [u % 128 + 128]) (by
        have e : (2 : Nat) ^ (7 * (n + 1 + 1)) = 128 * 2 ^ (7 * (n + 1)) := by rw [show 7 * (n + 1 + 1) = 7 * (n + 1) + 7 by omega, Nat.pow_add, Nat.mul_comm]
        rw [e] at hu
        exact Nat.div_lt_of_lt_mul hu) (by rw [List.length_append, List.length_singleton]; omega)
      rw [List.append_assoc] at h1
      rw [vlq_hi u h]
      refine .step (fun k => ?_) h1
      have e1 : ((u : Int) % 256) = ((u % 256 : Nat) : Int) := by omega
      have e2 : ((u : Int) / 128) = ((u / 128 : Nat) : Int) := by omega
      have e3 : (u % 256) ||| 128 = u % 128 + 128 := by
        have := or128 ⟨u % 256, Nat.mod_lt _ (by decide)⟩
        simp only at this
        omega
      rw [spec_PutVLQ.l0, if_pos (by omega), if_pos (by rw [ints_len]; omega), e1, e2, show (128 : Int) = ((128 : Nat) : Int) from rfl, u8_or_nat _ _ (by omega) (by decide), e3, ints_app]
      rfl
theorem putVlq_ev (u : Nat) (hu : u < 2 ^ 63) : Ev (fun k => spec_PutVLQ.f k (u : Int)) (ints (vlq u)) := putVlq_l0 8 u [] (by omega) (by simp)
/-- A bit of a list of numbers of W bits; of a list of bytes. -/
def inBit (vs : List Nat) (W p : Nat) : Bool := (vs.getD (p / W) 0).testBit (p % W)
structure Packed (vs bs : List Nat) (W M i : Nat) : Prop where
  len : bs.length = M
  lt : ∀ x ∈ bs, x < 256
  bit : ∀ p, p < 8 * M → (bs.getD (p / 8) 0).testBit (p % 8) = (decide (p < i) && inBit vs W p)
theorem getD_lt {bs : List Nat} (h : ∀ x ∈ bs, x < 256) (j : Nat) : bs.getD j 0 < 256 := by
  rw [List.getD_eq_getElem?_getD]
  by_cases hj : j < bs.length
  · rw [List.getElem?_eq_getElem hj]; exact h _ (List.getElem_mem _)
  · rw [List.getElem?_eq_none (by omega)]; decide
theorem Packed.step0 {vs bs : List Nat} {W M i : Nat} (h : Packed vs bs W M i) (hb : inBit vs W i = false) : Packed vs bs W M (i + 1) := by
  refine ⟨h.len, h.lt, fun p hp => ?_⟩
  rw [h.bit p hp]
  by_cases hpi : p = i
  · subst hpi; rw [hb]; simp
  · have : decide (p < i) = decide (p < i + 1) := by
      by_cases h1 : p < i
      · rw [decide_eq_true h1, decide_eq_true (by omega)]
      · rw [decide_eq_false h1, decide_eq_false (by omega)]
    rw [this]
theorem Packed.step1 {vs bs : List Nat} {W M i : Nat} (h : Packed vs bs W M i) (hi : i < 8 * M) (hb : inBit vs W i = true) : Packed vs (bs.set (i / 8) (bs.getD (i / 8) 0 ||| 2 ^ (i % 8))) W M (i + 1) := by
  have h2 : (2 : Nat) ^ (i % 8) < 2 ^ 8 := Nat.pow_lt_pow_right (by decide) (Nat.mod_lt _ (by decide))
  have hl := h.len
  refine ⟨by rw [List.length_set]; exact h.len, fun x hx => ?_, fun p hp => ?_⟩
  · rcases List.mem_or_eq_of_mem_set hx with hx | rfl
    · exact h.lt x hx
    · exact Nat.or_lt_two_pow (n := 8) (getD_lt h.lt _) h2
  · rw [List.getD_eq_getElem?_getD, List.getElem?_set]
    have hbit := h.bit p hp
    by_cases hq : i / 8 = p / 8
    · rw [if_pos hq, if_pos (by omega), Option.getD_some, Nat.testBit_or, hq, hbit, Nat.testBit_two_pow]
      by_cases hpi : p = i
      · subst hpi; rw [hb]; simp
      · have h3 : ¬ (i % 8 = p % 8) := by omega
        rw [decide_eq_false h3, Bool.or_false]
        have : decide (p < i) = decide (p < i + 1) := by
          by_cases h1 : p < i
          · rw [decide_eq_true h1, decide_eq_true (by omega)]
          · rw [decide_eq_false h1, decide_eq_false (by omega)]
        rw [this]
    · rw [if_neg hq, ← List.getD_eq_getElem?_getD, hbit]
      have : decide (p < i) = decide (p < i + 1) := by
        by_cases h1 : p < i
        · rw [decide_eq_true h1, decide_eq_true (by omega)]
        · rw [decide_eq_false h1, decide_eq_false (by omega)]
      rw [this]
theorem rd_ints (vs : List Nat) (j : Nat) : rd (ints vs) (j : Int) = (vs.getD j 0 : Nat) := by
  unfold rd ints
  rw [Int.toNat_natCast, List.getD_eq_getElem?_getD, List.getElem?_map, List.getD_eq_getElem?_getD]
  cases vs[j]? <;> rfl
theorem set_ints (bs : List Nat) (j x : Nat) : (ints bs).set j (x : Int) = ints (bs.set j x) := by
  unfold ints; rw [List.map_set]
theorem and_bit (v t : Nat) (hv : v < 2 ^ 64) (ht : t < 64) : (Go.bits .and .u64 (shr .u64 (v : Int) (t : Int)) 1 = 1) ↔ v.testBit t = true := by
  unfold shr
  rw [Int.toNat_natCast, show min t IntKind.u64.bits = t by show min t 64 = t; omega, show ((2 : Int) ^ t) = ((2 ^ t : Nat) : Int) by push_cast; rfl, ← Int.natCast_ediv, show (1 : Int) = ((1 : Nat) : Int) from rfl, u64_and_nat _ _ (Nat.lt_of_le_of_lt (Nat.div_le_self _ _) hv) (by decide), Nat.and_one_is_mod, Nat.testBit_eq_decide_div_mod_eq, decide_eq_true_iff]
  omega
theorem packBits_l0 (vs : List Nat) (W : Nat) (hW1 : 1 ≤ W) (hW2 : W ≤ 64) (hv : ∀ v ∈ vs, v < 2 ^ 64) (hn : vs.length ≤ 10000) (M : Nat) (hM : vs.length * W ≤ 8 * M) : ∀ (n i : Nat) (bs : List Nat), i + n = vs.length * W → Packed vs bs W M i →
    ∃ bs', Ev (fun k => spec_PackBits.l0 k (ints vs) (W : Int) (ints bs) (i : Int)) (ints bs') ∧ Packed vs bs' W M (vs.length * W) := by
  have hT : vs.length * W ≤ 640000 := Nat.le_trans (Nat.mul_le_mul hn hW2) (by decide)
  have hTi : ((ints vs).length : Int) * (W : Int) = (vs.length * W : Nat) := by rw [ints_len]; push_cast; rfl
  have hvs : ∀ j, vs.getD j 0 < 2 ^ 64 := fun j => by
    rw [List.getD_eq_getElem?_getD]
    by_cases hj : j < vs.length
    · rw [List.getElem?_eq_getElem hj]; exact hv _ (List.getElem_mem _)
    · rw [List.getElem?_eq_none (by omega)]; decide
  intro n
  induction n with
  | zero =>
    intro i bs h hp
    refine ⟨bs, .now fun k => ?_, by rw [← h]; exact hp⟩
    rw [spec_PackBits.l0, hTi, w64 _ (by omega), if_neg (by omega)]
  | succ n ih =>
    intro i bs h hp
    have hiW : i / W < vs.length := Nat.div_lt_of_lt_mul (by rw [Nat.mul_comm]; omega)
    have hmW : i % W < W := Nat.mod_lt _ (by omega)
    have hdW : i / W ≤ i := Nat.div_le_self _ _
    have e1 : Int.tdiv (i : Int) (W : Int) = ((i / W : Nat) : Int) := rfl
    have e2 : Int.tmod (i : Int) (W : Int) = ((i % W : Nat) : Int) := rfl
    have e3 : Int.tdiv (i : Int) 8 = ((i / 8 : Nat) : Int) := rfl
    have e4 : Int.tmod (i : Int) 8 = ((i % 8 : Nat) : Int) := rfl
    have hstart : ∀ k, spec_PackBits.l0 (k + 1) (ints vs) (W : Int) (ints bs) (i : Int) = _ := fun k => by
      rw [spec_PackBits.l0, hTi, w64 _ (by omega), if_pos (by omega), if_neg (by omega), e1, e2, e3, e4, w64 (i / W) (by omega), w64 (i / 8) (by omega), if_pos (Int.natCast_nonneg _), if_pos (by rw [ints_len]; exact Int.ofNat_lt.2 hiW), if_pos (Int.natCast_nonneg _), rd_ints vs (i / W), show (i : Int) + 1 = (i + 1 : Nat) by push_cast; rfl, w64 (i + 1) (by omega)]
    by_cases hb : inBit vs W i = true
    · obtain ⟨bs', hr, hr2⟩ := ih (i + 1) _ (by omega) (hp.step1 (by omega) hb)
      refine ⟨bs', .step (fun k => ?_) hr, hr2⟩
      have h2 : (2 : Nat) ^ (i % 8) < 2 ^ 8 := Nat.pow_lt_pow_right (by decide) (Nat.mod_lt _ (by decide))
      have hsh : shl .u8 1 ((i % 8 : Nat) : Int) = ((2 ^ (i % 8) : Nat) : Int) := by
        unfold shl
        rw [Int.toNat_natCast, show min (i % 8) IntKind.u8.bits = i % 8 by show min (i % 8) 8 = i % 8; omega, Int.one_mul, show ((2 : Int) ^ (i % 8)) = ((2 ^ (i % 8) : Nat) : Int) by push_cast; rfl]
        exact IntWalk.u8_in _ ⟨Int.natCast_nonneg _, (by show ((2 ^ (i % 8) : Nat) : Int) ≤ ((255 : Nat) : Int); exact Int.ofNat_le.2 (Nat.le_of_lt_succ h2))⟩
      rw [hstart k, if_pos ((and_bit _ _ (hvs _) (by omega)).2 hb), if_pos (Int.natCast_nonneg _), if_pos (by rw [ints_len, hp.len]; omega), if_pos (Int.natCast_nonneg _), rd_ints bs (i / 8), hsh, u8_or_nat _ _ (getD_lt hp.lt _) h2, Int.toNat_natCast, set_ints]
    · obtain ⟨bs', hr, hr2⟩ := ih (i + 1) bs (by omega) (hp.step0 (by simpa using hb))
      refine ⟨bs', .step (fun k => ?_) hr, hr2⟩
      rw [hstart k, if_neg (fun hh => hb ((and_bit _ _ (hvs _) (by omega)).1 hh))]
theorem packBits_ev (vs : List Nat) (W c : Nat) (hW1 : 1 ≤ W) (hW2 : W ≤ 64) (hv : ∀ v ∈ vs, v < 2 ^ 64) (hc : vs.length = 8 * c) (hcb : c ≤ 1000) :
    ∃ bs, Ev (fun k => spec_PackBits.f k (ints vs) (W : Int)) (ints bs) ∧ Packed vs bs W (c * W) (8 * (c * W)) := by
  have hT : vs.length * W = 8 * (c * W) := by rw [hc, Nat.mul_assoc]
  have hcW : c * W ≤ 64000 := Nat.le_trans (Nat.mul_le_mul hcb hW2) (by decide)
  have hTi : ((ints vs).length : Int) * (W : Int) = (8 * (c * W) : Nat) := by rw [ints_len, ← hT]; push_cast; rfl
  obtain ⟨bs, h1, h2⟩ := packBits_l0 vs W hW1 hW2 hv (by omega) (c * W) (by omega) (vs.length * W) 0 (List.replicate (c * W) 0) (by omega) ⟨List.length_replicate, fun x hx => by rw [List.eq_of_mem_replicate hx]; decide, fun p hp => by
    rw [List.getD_eq_getElem?_getD, List.getElem?_replicate, if_pos (by omega)]; simp⟩
  rw [hT] at h2
  refine ⟨bs, .congr (fun k => ?_) h1, h2⟩
  have e : Int.tdiv ((8 * (c * W) : Nat) + 7 : Int) 8 = ((c * W : Nat) : Int) := by
    rw [show ((8 * (c * W) : Nat) : Int) + 7 = ((8 * (c * W) + 7 : Nat) : Int) by push_cast; rfl]
    show (((8 * (c * W) + 7) / 8 : Nat) : Int) = _
    congr 1; omega
  unfold spec_PackBits.f
  rw [hTi, w64 _ (by omega), show ((8 * (c * W) : Nat) : Int) + 7 = ((8 * (c * W) + 7 : Nat) : Int) by push_cast; rfl, w64 _ (by omega), show Int.tdiv ((8 * (c * W) + 7 : Nat) : Int) 8 = ((c * W : Nat) : Int) from e, w64 _ (by omega), if_pos (by omega), if_pos (by omega), Int.toNat_natCast, show ints (List.replicate (c * W) 0) = List.replicate (c * W) 0 by unfold ints; rw [List.map_replicate]; rfl]
  rfl
end Go.Proofs.YtmcjpnijldhelaaGreatDoor
