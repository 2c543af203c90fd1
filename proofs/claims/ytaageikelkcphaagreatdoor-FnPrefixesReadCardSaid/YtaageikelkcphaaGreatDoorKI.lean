/- Part 9 of the proof: the texts P2, HB, HC, I, joined. What each proves stands ahead of it. -/
import Derived.Test.YtaageikelkcphaaGreatDoorKH
set_option linter.unusedVariables false
set_option linter.unusedSimpArgs false
/- Numbers by sevens, by bytes and by bits as they are written. No program in sight. -/
namespace Go.Proofs.YtaageikelkcphaaGreatDoor
/-- Bytes that stand from q on. -/
def StandB (D : Nat → Nat) (q : Nat) (bs : List Nat) : Prop := ∀ j v, bs[j]? = some v → D (q + j) = v
theorem StandB.app {D : Nat → Nat} {q : Nat} {xs ys : List Nat} (h : StandB D q (xs ++ ys)) : StandB D q xs ∧ StandB D (q + xs.length) ys := by
  refine ⟨fun j v hv => h j v ?_, fun j v hv => ?_⟩
  · have := (List.getElem?_eq_some_iff.1 hv).1
    rw [List.getElem?_append_left this]; exact hv
  · rw [Nat.add_assoc]
    refine h _ _ ?_
    rw [List.getElem?_append_right (by omega), Nat.add_sub_cancel_left]; exact hv
theorem StandB.cons {D : Nat → Nat} {q x : Nat} {xs : List Nat} (h : StandB D q (x :: xs)) : D q = x ∧ StandB D (q + 1) xs :=
  ⟨h 0 x rfl, fun j v hv => by have := h (j + 1) v (by simpa using hv); rwa [show q + (j + 1) = q + 1 + j by omega] at this⟩
/-- A number by sevens. -/
def vlq (u : Nat) : List Nat := if h : u < 128 then [u] else (u % 128 + 128) :: vlq (u / 128)
termination_by u
decreasing_by omega
theorem vlq_lo (u : Nat) (h : u < 128) : vlq u = [u] := by rw [vlq, dif_pos h]
theorem vlq_hi (u : Nat) (h : ¬ u < 128) : vlq u = (u % 128 + 128) :: vlq (u / 128) := by rw [vlq, dif_neg h]
theorem lebV_front (D : Nat → Nat) (q : Nat) : ∀ k, lebV D q (k + 1) = D q % 128 + 128 * lebV D (q + 1) k
  | 0 => by simp [lebV]
  | k + 1 => by
    have e1 : 2 ^ (7 * (k + 1)) = 128 * 2 ^ (7 * k) := by rw [show 7 * (k + 1) = 7 + 7 * k by omega, Nat.pow_add]
    rw [lebV, lebV_front D q k, lebV, e1, Nat.mul_add, show q + (k + 1) = q + 1 + k by omega, Nat.mul_assoc]
    omega
theorem vlq_len (n : Nat) : ∀ u, u < 2 ^ (7 * (n + 1)) → 1 ≤ (vlq u).length ∧ (vlq u).length ≤ n + 1 := by
  induction n with
  | zero => intro u hu; rw [vlq_lo u (by simpa using hu)]; exact ⟨Nat.le_refl _, Nat.le_refl _⟩
  | succ n ih =>
    intro u hu
    by_cases h : u < 128
    · rw [vlq_lo u h]; simp
    · have e1 : 2 ^ (7 * (n + 1 + 1)) = 128 * 2 ^ (7 * (n + 1)) := by rw [show 7 * (n + 1 + 1) = 7 + 7 * (n + 1) by omega, Nat.pow_add]
      have := ih (u / 128) (by omega)
      rw [vlq_hi u h, List.length_cons]; omega
theorem vlq_pos (u : Nat) : 1 ≤ (vlq u).length := by
  by_cases h : u < 128
  · rw [vlq_lo u h]; simp
  · rw [vlq_hi u h]; simp
theorem vlq_is (D : Nat → Nat) (n : Nat) : ∀ u q, u < 2 ^ (7 * (n + 1)) → StandB D q (vlq u) →
    lebV D q (vlq u).length = u ∧ (∀ i, i + 1 < (vlq u).length → 128 ≤ D (q + i)) ∧ D (q + (vlq u).length - 1) < 128 := by
  induction n with
  | zero =>
    intro u q hu hs
    have hu' : u < 128 := by simpa using hu
    rw [vlq_lo u hu'] at hs ⊢
    have h0 := hs.cons.1
    refine ⟨by simp [lebV, h0]; omega, fun i hi => by simp at hi, ?_⟩
    simp [h0]; exact hu'
  | succ n ih =>
    intro u q hu hs
    by_cases h : u < 128
    · rw [vlq_lo u h] at hs ⊢
      have h0 := hs.cons.1
      refine ⟨by simp [lebV, h0]; omega, fun i hi => by simp at hi, ?_⟩
      simp [h0]; exact h
    · have e1 : 2 ^ (7 * (n + 1 + 1)) = 128 * 2 ^ (7 * (n + 1)) := by rw [show 7 * (n + 1 + 1) = 7 + 7 * (n + 1) by omega, Nat.pow_add]
      rw [vlq_hi u h] at hs ⊢
      obtain ⟨h0, hs1⟩ := hs.cons
      obtain ⟨i1, i2, i3⟩ := ih (u / 128) (q + 1) (by omega) hs1
      have hp := vlq_pos (u / 128)
      rw [List.length_cons]
      refine ⟨?_, fun i hi => ?_, ?_⟩
      · rw [lebV_front, i1, h0]; omega
      · cases i with
        | zero => rw [Nat.add_zero, h0]; omega
        | succ i => have := i2 i (by omega); rwa [show q + (i + 1) = q + 1 + i by omega]
      · rwa [show q + ((vlq (u / 128)).length + 1) - 1 = q + 1 + (vlq (u / 128)).length - 1 by omega]
theorem vlq_leb (D : Nat → Nat) (u q : Nat) (hu : u < 2 ^ 64) (hs : StandB D q (vlq u)) : Leb D q (vlq u).length u := by
  have h70 : u < 2 ^ (7 * (9 + 1)) := Nat.lt_of_lt_of_le hu (Nat.pow_le_pow_right (by decide) (by decide))
  obtain ⟨h1, h2⟩ := vlq_len 9 u h70
  obtain ⟨i1, i2, i3⟩ := vlq_is D 9 u q h70 hs
  exact ⟨h1, h2, i2, i3, i1, hu⟩
theorem vlq_byte (n : Nat) : ∀ u, u < 2 ^ (7 * (n + 1)) → ∀ x ∈ vlq u, x < 256 := by
  induction n with
  | zero => intro u hu x hx; rw [vlq_lo u (by simpa using hu)] at hx; simp at hx; have : u < 128 := by simpa using hu
            omega
  | succ n ih =>
    intro u hu x hx
    by_cases h : u < 128
    · rw [vlq_lo u h] at hx; simp at hx; omega
    · have e1 : 2 ^ (7 * (n + 1 + 1)) = 128 * 2 ^ (7 * (n + 1)) := by rw [show 7 * (n + 1 + 1) = 7 + 7 * (n + 1) by omega, Nat.pow_add]
      rw [vlq_hi u h] at hx
      rcases List.mem_cons.1 hx with rfl | hx
      · omega
      · exact ih (u / 128) (by omega) x hx
/-- A number by its bits. -/
theorem bitsV_of (D : Nat → Nat) : ∀ (W p v : Nat), v < 2 ^ W → (∀ t, t < W → bitB D (p + t) = v / 2 ^ t % 2) → bitsV D p W = v
  | 0, p, v, hv, _ => by simp at hv; simp [bitsV, hv]
  | W + 1, p, v, hv, hb => by
    have h0 := hb 0 (by omega)
    rw [Nat.add_zero, Nat.pow_zero, Nat.div_one] at h0
    rw [bitsV, bitsV_of D W (p + 1) (v / 2) (by rw [Nat.pow_succ] at hv; omega) (fun t ht => ?_), h0]
    · omega
    · have := hb (t + 1) (by omega)
      rw [show p + 1 + t = p + (t + 1) by omega, this, Nat.pow_succ, Nat.mul_comm (2 ^ t) 2, ← Nat.div_div_eq_div_mul]
end Go.Proofs.YtaageikelkcphaaGreatDoor
/- What is written as deltas is what mini blocks hold. No program in sight. -/
namespace Go.Proofs.YtaageikelkcphaaGreatDoor
open Go
/-- The running numbers. -/
def runX : Int → List Int → List Int
  | _, [] => []
  | x, d :: ds => RowKit.wrap64 (x + d) :: runX (RowKit.wrap64 (x + d)) ds
theorem runX_len : ∀ (ds : List Int) (x : Int), (runX x ds).length = ds.length
  | [], _ => rfl
  | d :: ds, x => by rw [runX, List.length_cons, runX_len ds, List.length_cons]
/-- The last of the running numbers. -/
def endX : Int → List Int → Int
  | x, [] => x
  | x, d :: ds => endX (RowKit.wrap64 (x + d)) ds
theorem runX_app : ∀ (a b : List Int) (x : Int), runX x (a ++ b) = runX x a ++ runX (endX x a) b
  | [], b, x => rfl
  | d :: a, b, x => by rw [List.cons_append, runX, runX, endX, runX_app a b, List.cons_append]
/-- A mini block: numbers of W bits each, n of them, of which the first are the deltas less the least. -/
structure MiniOf (n B : Nat) (least : Int) (W : Nat) (part : List Int) (bs : List Nat) : Prop where
  len : bs.length = n * W / 8
  w : W ≤ B
  n : part.length ≤ n
  val : ∀ D q, StandB D q bs → ∀ t d, part[t]? = some d → RowKit.wrap64 ((bitsV D (8 * q + t * W) W : Nat) + least) = d
/-- The mini blocks of a block: their widths, their bodies. Widths of those that are not needed are whatever. -/
inductive MinisOf (n B : Nat) (least : Int) : List Int → List Nat → List Nat → Prop
  | nil (ws : List Nat) : MinisOf n B least [] ws []
  | cons {ds : List Int} {W : Nat} {ws bs bodies : List Nat} (h0 : ds ≠ []) (h : MiniOf n B least W (ds.take n) bs) (hr : MinisOf n B least (ds.drop n) ws bodies) : MinisOf n B least ds (W :: ws) (bs ++ bodies)
/-- Blocks. -/
inductive BlocksOf (S M n B : Nat) : List Int → List Nat → Prop
  | nil : BlocksOf S M n B [] []
  | cons {ds : List Int} {zz : Nat} {ws bodies rest : List Nat} (h0 : ds ≠ []) (hz : zz < 2 ^ 64) (hz2 : B = 32 → -2147483648 ≤ unzig zz ∧ unzig zz ≤ 2147483647) (hw : ws.length = M) (hm : MinisOf n B (unzig zz) (ds.take S) ws bodies) (hr : BlocksOf S M n B (ds.drop S) rest) : BlocksOf S M n B ds (vlq zz ++ (ws ++ (bodies ++ rest)))
theorem MinisOf.app {n B : Nat} {least : Int} {a : List Int} {ws bs : List Nat} (h : MinisOf n B least a ws bs) : ∀ {W : Nat} {part : List Int} {b : List Nat}, a.length = ws.length * n → part ≠ [] → MiniOf n B least W part b → MinisOf n B least (a ++ part) (ws ++ [W]) (bs ++ b) := by
  induction h with
  | nil ws =>
    intro W part b hl hp hm
    cases ws with
    | nil =>
      have h1 := hm.n
      have : MinisOf n B least part [W] (b ++ []) := .cons hp (by rw [List.take_of_length_le h1]; exact hm) (by rw [List.drop_of_length_le h1]; exact .nil _)
      simpa using this
    | cons w ws =>
      have h1 := hm.n
      have hp' := List.length_pos_iff.2 hp
      rw [List.length_cons, Nat.succ_mul] at hl
      simp at hl
      omega
  | @cons ds W0 ws bs0 bodies h0 h hr ih =>
    intro W part b hl hp hm
    have hn := h.n
    rw [List.length_cons, Nat.succ_mul] at hl
    have e1 : (ds ++ part).take n = ds.take n := by rw [List.take_append_of_le_length (by omega)]
    have e2 : (ds ++ part).drop n = ds.drop n ++ part := by rw [List.drop_append_of_le_length (by omega)]
    rw [List.cons_append, List.append_assoc]
    exact .cons (by simp [h0]) (by rw [e1]; exact h) (by rw [e2]; exact ih (by rw [List.length_drop]; omega) hp hm)
theorem MinisOf.pad {n B : Nat} {least : Int} {a : List Int} {ws bs : List Nat} (h : MinisOf n B least a ws bs) (us : List Nat) : MinisOf n B least a (ws ++ us) bs := by
  induction h with
  | nil ws => exact .nil _
  | cons h0 h hr ih => exact .cons h0 h ih
theorem BlocksOf.app {S M n B : Nat} {a : List Int} {bs : List Nat} (h : BlocksOf S M n B a bs) : ∀ {ds : List Int} {zz : Nat} {ws bodies : List Nat}, a.length % S = 0 → ds ≠ [] → ds.length ≤ S → zz < 2 ^ 64 → (B = 32 → -2147483648 ≤ unzig zz ∧ unzig zz ≤ 2147483647) → ws.length = M → MinisOf n B (unzig zz) ds ws bodies → BlocksOf S M n B (a ++ ds) (bs ++ (vlq zz ++ (ws ++ bodies))) := by
  induction h with
  | nil =>
    intro ds zz ws bodies _ h0 hS hz hz2 hw hm
    have : BlocksOf S M n B ds (vlq zz ++ (ws ++ (bodies ++ []))) := .cons h0 hz hz2 hw (by rw [List.take_of_length_le hS]; exact hm) (by rw [List.drop_of_length_le hS]; exact .nil)
    simpa using this
  | @cons a zz0 ws0 bodies0 rest h0 hz hz2 hw hm hr ih =>
    intro ds zz ws bodies hl h0' hS hz' hz2' hw' hm'
    have hla := List.length_pos_iff.2 h0
    have hS0 : S ≤ a.length := by
      apply Decidable.byContradiction
      intro h
      rw [Nat.mod_eq_of_lt (by omega)] at hl
      omega
    have e1 : (a ++ ds).take S = a.take S := by rw [List.take_append_of_le_length hS0]
    have e2 : (a ++ ds).drop S = a.drop S ++ ds := by rw [List.drop_append_of_le_length hS0]
    have hl2 : (a.drop S).length % S = 0 := by
      rw [List.length_drop]
      have := Nat.mod_eq_sub_mod hS0
      omega
    rw [List.append_assoc, List.append_assoc, List.append_assoc]
    exact .cons (by simp [h0]) hz hz2 hw (by rw [e1]; exact hm) (by rw [e2]; exact ih hl2 h0' hS hz' hz2' hw' hm')
theorem run_ne {g : Int → Int} {x : Int} {ds : List Int} (h : ds ≠ []) : (runX x ds).map g ≠ [] := by
  cases ds with
  | nil => exact absurd rfl h
  | cons d ds => simp [runX]
/-- A mini block's running numbers. -/
theorem mini_run {D : Nat → Nat} {q W : Nat} {md : Int} : ∀ (k : Nat) (part : List Int) (x : Int) (t0 : Nat), part.length = k → (∀ t d, part[t]? = some d → RowKit.wrap64 ((bitsV D (8 * q + (t0 + t) * W) W : Nat) + md) = d) → ∀ x0, miniX D q W md x0 t0 = x →
    (∀ t v, (runX x part)[t]? = some v → v = miniX D q W md x0 (t0 + t + 1)) ∧ endX x part = miniX D q W md x0 (t0 + part.length)
  | 0, [], x, t0, _, _, x0, hx => ⟨fun t v h => by simp [runX] at h, by simpa [endX] using hx.symm⟩
  | k + 1, d :: part, x, t0, hk, hv, x0, hx => by
    have h0 := hv 0 d rfl
    rw [Nat.add_zero] at h0
    have hx1 : miniX D q W md x0 (t0 + 1) = RowKit.wrap64 (x + d) := by rw [miniX, hx, h0]
    obtain ⟨i1, i2⟩ := mini_run k part (RowKit.wrap64 (x + d)) (t0 + 1) (by simpa using hk) (fun t e he => by have := hv (t + 1) e (by simpa using he); rwa [show t0 + (t + 1) = t0 + 1 + t by omega] at this) x0 hx1
    refine ⟨fun t v h => ?_, ?_⟩
    · cases t with
      | zero => rw [runX] at h; simp at h; rw [← h, Nat.add_zero]; exact hx1.symm
      | succ t => rw [runX] at h; have := i1 t v (by simpa using h); rwa [show t0 + (t + 1) + 1 = t0 + 1 + t + 1 by omega]
    · rw [endX, i2, List.length_cons, show t0 + (part.length + 1) = t0 + 1 + part.length by omega]
theorem MinisOf.minis {g : Int → Int} {B : Nat} {D : Nat → Nat} {M n : Nat} {least : Int} {ds : List Int} {ws bs : List Nat} (h : MinisOf n B least ds ws bs) (hn : 0 < n) : ∀ (wb j q : Nat) (x : Int) (xs : List Int) (e : Nat), StandB D (wb + j) ws → StandB D q bs → j + ws.length = M → (xs ≠ [] → ds.length = ws.length * n) → Minis g B D M n (q + bs.length) none (endX x ds) xs e → (xs = [] → e = q + bs.length) →
    Minis g B D M n q (if j = M then none else some (wb, j, least)) x ((runX x ds).map g ++ xs) e := by
  induction h with
  | nil ws =>
    intro wb j q x xs e hs1 hs2 hj hl hr he
    rw [List.length_nil, Nat.add_zero] at hr he
    by_cases hx : xs = []
    · subst hx
      have := he rfl
      subst this
      exact .nil _ _ _
    · have h1 := hl hx
      have h2 : ws.length = 0 := by
        rcases Nat.eq_zero_or_pos ws.length with h | h
        · exact h
        · have := Nat.mul_le_mul h hn
          simp at h1
          omega
      rw [if_pos (by omega)]
      exact hr
  | @cons ds W ws bs bodies h0 hm hr ih =>
    intro wb j q x xs e hs1 hs2 hj hl hrest he
    rw [List.length_cons] at hj hl
    have hjM : ¬ j = M := by omega
    rw [if_neg hjM]
    obtain ⟨w0, hs1'⟩ := hs1.cons
    obtain ⟨b1, b2⟩ := hs2.app
    have hbl := hm.len
    rw [List.length_append] at hrest he
    have hrun := mini_run (D := D) (q := q) (W := W) (md := least) _ (ds.take n) x 0 rfl (fun t d hd => by rw [Nat.zero_add]; exact hm.val D q b1 t d hd) x rfl
    simp only [Nat.zero_add] at hrun
    obtain ⟨r1, r2⟩ := hrun
    have hsplit : runX x ds = runX x (ds.take n) ++ runX (endX x (ds.take n)) (ds.drop n) := by rw [← runX_app, List.take_append_drop]
    have hend : endX x ds = endX (endX x (ds.take n)) (ds.drop n) := by
      have : ∀ (a b : List Int) (y : Int), endX y (a ++ b) = endX (endX y a) b := by
        intro a
        induction a with
        | nil => intro b y; rfl
        | cons d a ih => intro b y; exact ih b _
      rw [← this, List.take_append_drop]
    have hlt : (runX x (ds.take n)).length = min n ds.length := by rw [runX_len, List.length_take]
    refine .mini (by have := run_ne (g := g) (x := x) h0; simp [this]) (by omega) w0 hm.w (fun t v hv ht => ?_) ?_
    · by_cases ht2 : t < ds.length
      · rw [List.getElem?_append_left (by rw [List.length_map, runX_len]; exact ht2), List.getElem?_map] at hv
        obtain ⟨y, hy, rfl⟩ := Option.map_eq_some_iff.1 hv
        rw [hsplit, List.getElem?_append_left (by rw [hlt]; omega)] at hy
        rw [r1 t y hy]
      · have hx : xs ≠ [] := by
          rintro rfl
          rw [List.append_nil] at hv
          have := (List.getElem?_eq_some_iff.1 hv).1
          rw [List.length_map, runX_len] at this
          omega
        have := hl hx
        rw [Nat.succ_mul] at this
        omega
    · by_cases hfull : n ≤ ds.length
      · have hd : ((runX x ds).map g ++ xs).drop n = (runX (endX x (ds.take n)) (ds.drop n)).map g ++ xs := by
          rw [List.drop_append_of_le_length (by rw [List.length_map, runX_len]; exact hfull), hsplit, List.map_append, List.drop_append_of_le_length (by rw [List.length_map, hlt]; omega), List.drop_of_length_le (by rw [List.length_map, hlt]; omega), List.nil_append]
        have hlen : (ds.take n).length = n := by rw [List.length_take]; omega
        rw [hlen] at r2
        rw [hd, ← r2, ← hbl]
        refine ih wb (j + 1) (q + bs.length) _ xs e (by rwa [Nat.add_assoc] at hs1') b2 (by omega) (fun hx => ?_) (by rw [← hend, Nat.add_assoc]; exact hrest) (fun hx => by rw [he hx, Nat.add_assoc])
        have := hl hx
        rw [List.length_drop, this, Nat.succ_mul]; omega
      · have hxs : xs = [] := by
          apply Decidable.byContradiction
          intro hx
          have := hl hx
          rw [Nat.succ_mul] at this
          omega
        subst hxs
        have hdn : ds.drop n = [] := List.drop_of_length_le (by omega)
        have hbod : bodies = [] := by
          rw [hdn] at hr
          cases hr with
          | nil => rfl
          | cons h0 => exact absurd rfl h0
        rw [List.append_nil, List.drop_of_length_le (by rw [List.length_map, runX_len]; omega)]
        have := he rfl
        subst this
        rw [hbod, List.length_nil, Nat.add_zero, hbl]
        exact .nil _ _ _
theorem BlocksOf.minis {g : Int → Int} {S M n B : Nat} {D : Nat → Nat} {ds : List Int} {bs : List Nat} (h : BlocksOf S M n B ds bs) (hn : 0 < n) (hM : 0 < M) (hS : S = M * n) : ∀ (q : Nat) (x : Int), StandB D q bs → Minis g B D M n q none x ((runX x ds).map g) (q + bs.length) := by
  induction h with
  | nil => intro q x _; exact .nil _ _ _
  | @cons ds zz ws bodies rest h0 hz hz2 hw hm hr ih =>
    intro q x hs
    obtain ⟨s1, s2⟩ := hs.app
    obtain ⟨s3, s4⟩ := s2.app
    obtain ⟨s5, s6⟩ := s4.app
    have hleb := vlq_leb D zz q hz s1
    have hsplit : runX x ds = runX x (ds.take S) ++ runX (endX x (ds.take S)) (ds.drop S) := by rw [← runX_app, List.take_append_drop]
    refine .block (run_ne h0) hleb hz2 ?_
    have hih := ih (q + (vlq zz).length + ws.length + bodies.length) (endX x (ds.take S)) s6
    have := hm.minis (g := g) (D := D) (M := M) hn (q + (vlq zz).length) 0 (q + (vlq zz).length + ws.length) x ((runX (endX x (ds.take S)) (ds.drop S)).map g) (q + (vlq zz).length + ws.length + bodies.length + rest.length) s3 s5 (by omega) (fun hx => by
      have h1 : ds.drop S ≠ [] := fun hh => hx (by rw [hh]; rfl)
      have h2 := List.length_pos_iff.2 h1
      rw [List.length_drop] at h2
      rw [List.length_take, hw, ← hS]
      omega) hih (fun hx => by
      have h1 : ds.drop S = [] := by
        cases hd : ds.drop S with
        | nil => rfl
        | cons a b => rw [hd, runX] at hx; simp at hx
      rw [h1] at hr
      cases hr with
      | nil => rfl
      | cons h0 => exact absurd rfl h0)
    rw [if_neg (by omega), ← List.map_append, ← hsplit, hw] at this
    rw [List.length_append, List.length_append, List.length_append, hw, show q + ((vlq zz).length + (M + (bodies.length + rest.length))) = q + (vlq zz).length + M + bodies.length + rest.length by omega]
    exact this
end Go.Proofs.YtaageikelkcphaaGreatDoor
/- Numbers of 32 bits that are written as deltas are read. No program in sight. -/
namespace Go.Proofs.YtaageikelkcphaaGreatDoor
open Go
/-- The differences, as numbers of a type that h wraps to. -/
def diffsG (h : Int → Int) : Int → List Int → List Int
  | _, [] => []
  | x, y :: ys => h (y - x) :: diffsG h y ys
theorem diffsG_len (h : Int → Int) : ∀ (ys : List Int) (x : Int), (diffsG h x ys).length = ys.length
  | [], _ => rfl
  | y :: ys, x => by rw [diffsG, List.length_cons, diffsG_len h ys, List.length_cons]
theorem diffsG_get (h : Int → Int) : ∀ (ys : List Int) (x : Int) (i : Nat), i < ys.length → (diffsG h x ys)[i]? = some (h ((x :: ys).getD (i + 1) 0 - (x :: ys).getD i 0))
  | [], x, i, hi => by simp at hi
  | y :: ys, x, 0, hi => by simp [diffsG]
  | y :: ys, x, i + 1, hi => by
    rw [diffsG, List.getElem?_cons_succ, diffsG_get h ys y i (by simpa using hi)]
    simp
theorem run32 : ∀ (ys : List Int) (x X : Int), RowKit.wrap32 X = x → (∀ y ∈ ys, -2147483648 ≤ y ∧ y ≤ 2147483647) → (runX X (diffsG RowKit.wrap32 x ys)).map RowKit.wrap32 = ys
  | [], _, _, _, _ => rfl
  | y :: ys, x, X, hx, hy => by
    have h1 := hy y (by simp)
    have h2 : RowKit.wrap32 (RowKit.wrap64 (X + RowKit.wrap32 (y - x))) = y := by
      unfold RowKit.wrap32 RowKit.wrap64 at *
      omega
    rw [diffsG, runX, List.map_cons, h2, run32 ys y _ h2 (fun z hz => hy z (by simp [hz]))]
/-- Bytes that hold numbers as deltas. -/
def DeltaEnc (h : Int → Int) (B S M : Nat) (l : List Int) (bs : List Nat) : Prop :=
  ∃ x0 ys z blocks, l = x0 :: ys ∧ bs = vlq S ++ (vlq M ++ (vlq l.length ++ (vlq z ++ blocks))) ∧ unzig z = x0 ∧ z < 2 ^ 64 ∧ BlocksOf S M (S / M) B (diffsG h x0 ys) blocks
/-- The head of numbers that are encoded as deltas: values of a block, miniblocks, how many, the first. -/
structure Head (D : Nat → Nat) (q : Nat) (S M T z e : Nat) : Prop where
  h : ∃ k1 k2 k3 k4, Leb D q k1 S ∧ Leb D (q + k1) k2 M ∧ Leb D (q + k1 + k2) k3 T ∧ Leb D (q + k1 + k2 + k3) k4 z ∧ e = q + k1 + k2 + k3 + k4
  s1 : 0 < S
  s2 : S % 128 = 0
  s3 : S ≤ 4294967295
  m1 : 0 < M
  m2 : S % M = 0
  m3 : S / M % 32 = 0
  t : T ≤ 4294967295
/-- What blocks may be. -/
structure BlkFit (S M : Nat) : Prop where
  s1 : 128 ≤ S
  s2 : S % 128 = 0
  s3 : S ≤ 1024
  m1 : 1 ≤ M
  m2 : S % M = 0
  m3 : S / M % 32 = 0
theorem BlkFit.n1 {S M : Nat} (h : BlkFit S M) : 32 ≤ S / M ∧ S / M ≤ 1024 ∧ S = M * (S / M) ∧ M ≤ 32 := by
  have h1 := h.s1
  have h2 := h.m1
  have h3 := Nat.div_add_mod S M
  rw [h.m2, Nat.add_zero] at h3
  have h4 := h.m3
  have h5 := h.s3
  have h6 : S / M ≠ 0 := by intro e; rw [e, Nat.mul_zero] at h3; omega
  have h7 : S / M ≤ S := Nat.div_le_self _ _
  generalize S / M = V at *
  have h8 : M * 32 ≤ M * V := Nat.mul_le_mul_left _ (by omega)
  exact ⟨by omega, by omega, h3.symm, by omega⟩
theorem enc_reads {S M : Nat} {D : Nat → Nat} {l : List Int} {bs : List Nat} (h : DeltaEnc RowKit.wrap32 32 S M l bs) (hf : BlkFit S M) (hl : l.length ≤ 4294967295) (hr : ∀ y ∈ l, -2147483648 ≤ y ∧ y ≤ 2147483647) (hs : StandB D 0 bs) :
    ∃ x0 ys z q, l = x0 :: ys ∧ unzig z = x0 ∧ Head D 0 S M l.length z q ∧ q ≤ bs.length ∧ Minis RowKit.wrap32 32 D M (S / M) q none x0 ys bs.length := by
  obtain ⟨x0, ys, z, blocks, rfl, rfl, hz, hz2, hb⟩ := h
  obtain ⟨s1, s2⟩ := hs.app
  obtain ⟨s3, s4⟩ := s2.app
  obtain ⟨s5, s6⟩ := s4.app
  obtain ⟨s7, s8⟩ := s6.app
  obtain ⟨n1, n2, n3, n4⟩ := hf.n1
  have l1 := hf.s3
  refine ⟨x0, ys, z, _, rfl, hz, ⟨⟨_, _, _, _, vlq_leb D S 0 (by omega) s1, vlq_leb D M _ (by omega) s3, vlq_leb D _ _ (by omega) s5, vlq_leb D _ _ hz2 s7, rfl⟩, by have := hf.s1; omega, hf.s2, by omega, hf.m1, hf.m2, hf.m3, hl⟩, by simp only [List.length_append]; omega, ?_⟩
  have h0 := hr x0 (by simp)
  have := hb.minis (g := RowKit.wrap32) (by omega) hf.m1 n3 _ x0 s8
  rw [run32 ys x0 x0 (by unfold RowKit.wrap32; omega) (fun y hy => hr y (by simp [hy]))] at this
  have e : (vlq S ++ (vlq M ++ (vlq (x0 :: ys).length ++ (vlq z ++ blocks)))).length = 0 + (vlq S).length + (vlq M).length + (vlq (x0 :: ys).length).length + (vlq z).length + blocks.length := by simp only [List.length_append]; omega
  rw [e]
  exact this
/-- Texts by what they share with the one before: ns tells how many bytes, rs what stands behind them. -/
inductive Prefs : List Nat → List Nat → List (List Nat) → List (List Nat) → Prop
  | nil (last : List Nat) : Prefs last [] [] []
  | cons {last : List Nat} {n : Nat} {r : List Nat} {ns : List Nat} {rs ls : List (List Nat)} (hn : n ≤ last.length) (h : Prefs (last.take n ++ r) ns rs ls) : Prefs last (n :: ns) (r :: rs) ((last.take n ++ r) :: ls)
theorem Prefs.len {last ns : List Nat} {rs ls : List (List Nat)} (h : Prefs last ns rs ls) : ns.length = ls.length ∧ rs.length = ls.length := by
  induction h with
  | nil => exact ⟨rfl, rfl⟩
  | cons hn h ih => simp only [List.length_cons]; omega
end Go.Proofs.YtaageikelkcphaaGreatDoor
/- The decoder of deltas: its cells, and SetData. -/
namespace Go.Proofs.YtaageikelkcphaaGreatDoor
open Go Go.RowKit
/-- A block whose cells hold what is listed. -/
structure Row (w : World) (d : Nat) (L : List Value) : Prop where
  at' : ∀ j v, L[j]? = some v → w.cell? ⟨d, j, none⟩ = some v
  fr : ∀ j, w.frozen? ⟨d, j, none⟩ = false
theorem Row.at {w : World} {d : Nat} {L : List Value} (h : Row w d L) (j : Nat) {v : Value} (e : L[j]? = some v) : w.cell? ⟨d, j, none⟩ = some v := h.at' j v e
theorem Row.put {w : World} {d : Nat} {L : List Value} (h : Row w d L) (j : Nat) (v : Value) : Row (w.setCell ⟨d, j, none⟩ v) d (L.set j v) := by
  refine ⟨fun i u hu => ?_, fun i => by rw [World.frozen?_setCell]; exact h.fr i⟩
  rw [List.getElem?_set] at hu
  split at hu
  · rename_i hij
    subst hij
    split at hu
    · rename_i hl
      injection hu with hu
      subst hu
      exact World.cell?_setCell_same _ _ _ (h.at' j _ (List.getElem?_eq_getElem hl))
    · cases hu
  · rename_i hij
    exact cell_ne _ (h.at' i u hu) (by rintro ⟨-, e⟩; exact hij e.symm)
theorem Row.lt {w : World} {d : Nat} {L : List Value} (h : Row w d L) {v : Value} (e : L[0]? = some v) : d < w.heap.size := World.block_lt_of_cell? w _ (h.at' 0 v e)
theorem Row.keep {w w' : World} {d : Nat} {L : List Value} (h : Row w d L) (hl : d < w.heap.size) {S : Nat → Nat → Prop} (hc : Chg S w w') (hS : ∀ x, ¬ S d x) : Row w' d L :=
  ⟨fun j v hv => hc.keep (h.at' j v hv) (hS j), fun j => (hc.frozen _ _ hl).trans (h.fr j)⟩
/-- The cells of a decoder of deltas. -/
def dl (nv : Int) (data : Value) (uf : Bool) (bd : Value) (bsz cbv mpb vpm cmb md mbi : Int) (wbv : Value) (w8 tot last : Int) (mbv dbuf : Value) : List Value :=
  [.int .i64 nv, data, .int .i64 0, .iface 42 (.agg #[]), .bool uf, bd, .int .u64 bsz, .int .u32 cbv, .int .u64 mpb, .int .u32 vpm, .int .u32 cmb, .int .i64 md, .int .u64 mbi, wbv, .int .u8 w8, .int .u64 tot, .int .i64 last, mbv, dbuf]
def dl0 : List Value := dl 0 (.slice none 0 0) false (.pointer none) 0 0 0 0 0 0 0 (.pointer none) 0 0 0 (.slice none 0 0) (.slice none 0 0)
/-- The decoder of deltas, its reader of bits, its buffer of widths. -/
structure DX (c : RC) (w : World) (d mb o f : Nat) (L : List Value) (ln bl : Nat) (bv : Value) : Prop where
  row : Row w d L
  dlt : d < w.heap.size
  rs : RS c w o f
  wb : MB w mb ln bl bv
  dB : d ≠ c.B
  dr : d ≠ c.rb
  db : d ≠ c.b
  gd : 4 < d
  dm : d ≠ mb
  mB : mb ≠ c.B
  mr : mb ≠ c.rb
  mbb : mb ≠ c.b
  gm : 4 < mb
  bvn : ∀ x, bv = .slice (some ⟨x, 0, none⟩) 64 64 → x ≠ d ∧ x ≠ c.B ∧ x ≠ c.rb ∧ x ≠ c.b ∧ 4 < x
theorem DX.put {c : RC} {w : World} {d mb o f : Nat} {L : List Value} {ln bl : Nat} {bv : Value} (h : DX c w d mb o f L ln bl bv) (j : Nat) (v : Value) : DX c (w.setCell ⟨d, j, none⟩ v) d mb o f (L.set j v) ln bl bv := by
  have hc := (Chg.refl (Own d) w).own j v
  exact ⟨h.row.put j v, hc.lt h.dlt, h.rs.keep hc (by rintro k x rfl; exact ⟨h.db, h.dr, h.dB, h.gd⟩), h.wb.keep hc (fun x e => h.dm e.symm) (fun b x e1 e2 => (h.bvn b e1).1 e2), h.dB, h.dr, h.db, h.gd, h.dm, h.mB, h.mr, h.mbb, h.gm, h.bvn⟩
theorem DX.read {c : RC} {w w' : World} {d mb o f o' f' : Nat} {L : List Value} {ln bl : Nat} {bv : Value} (h : DX c w d mb o f L ln bl bv) (hc : Chg (Own c.B) w w') (hr : RS c w' o' f') : DX c w' d mb o' f' L ln bl bv :=
  ⟨h.row.keep h.dlt hc (fun x e => h.dB e), hc.lt h.dlt, hr, h.wb.keep hc (fun x e => h.mB e) (fun b x e1 e2 => (h.bvn b e1).2.1 e2), h.dB, h.dr, h.db, h.gd, h.dm, h.mB, h.mr, h.mbb, h.gm, h.bvn⟩
theorem DX.drew {c : RC} {w : World} {d mb o f : Nat} {L : List Value} {ln bl : Nat} {bv : Value} (h : DX c w d mb o f L ln bl bv) : DX c w.drew d mb o f L ln bl bv := by
  have hc : Chg Nix w w.drew := (Chg.refl _ _).drew
  exact ⟨h.row.keep h.dlt hc (fun x e => e), hc.lt h.dlt, h.rs.keep hc (fun _ _ e => e.elim), h.wb.keep hc (fun x e => e) (fun b x e1 e2 => e2), h.dB, h.dr, h.db, h.gd, h.dm, h.mB, h.mr, h.mbb, h.gm, h.bvn⟩
set_option maxRecDepth 100000 in
set_option maxHeartbeats 1000000 in
theorem decSet_ok (w : World) (d : Nat) (L : List Value) (u1 u2 : Value) (n : Int) (sp : Option Addr) (sl sc : Nat) (h : Row w d L) (h0 : L[0]? = some u1) (h1 : L[1]? = some u2) :
    Calls Tryz.prog 40 #[.pointer (some ⟨d, 0, none⟩), .int .i64 n, .slice sp sl sc] w fun e w' => e = .returned .nilIface ∧ Chg (Own d) w w' ∧ Row w' d ((L.set 1 (.slice sp sl sc)).set 0 (.int .i64 n)) := by
  have c0 := h.at 0 h0
  have c1 := h.at 1 h1
  have f0 := h.fr 0
  have f1 := h.fr 1
  have H := Lib.hid h; clear h h0 h1
  go_enter Tryz.func40, Tryz.ntmps40
  go_wp2_with fail
  go_ret
  exact ⟨rfl, ((Chg.refl (Own d) w).own 1 _).own 0 _, (H.out.put 1 _).put 0 _⟩
theorem getVlq_at (c : RC) (o k v : Nat) (w : World) (h : RS c w o 0) (hk : Leb c.D o k v) (ho : o + k ≤ c.L) :
    Calls Tryz.prog 44 #[.pointer (some ⟨c.B, 0, none⟩)] w fun e w' =>
      e = .returned (.tuple #[.int .u64 v, .bool true]) ∧ Chg (Own c.B) w w' ∧ NS c w' (o + k) 0 := by
  have := getVlq_ok c o 0 k v w h (by simpa using hk) (by simpa using ho)
  simpa using this
theorem getZig_at (c : RC) (o k v : Nat) (w : World) (h : RS c w o 0) (hk : Leb c.D o k v) (ho : o + k ≤ c.L) :
    Calls Tryz.prog 45 #[.pointer (some ⟨c.B, 0, none⟩)] w fun e w' =>
      e = .returned (.tuple #[.int .i64 (unzig v), .bool true]) ∧ Chg (Own c.B) w w' ∧ NS c w' (o + k) 0 := by
  have := getZigZag_ok c o 0 k v w h (by simpa using hk) (by simpa using ho)
  simpa using this
theorem assert32 (x : Int) (W : World) : (Instr.typeAssert (.iface 21 (.int .i32 x)) 20 21 true).run Tryz.prog W = .ok (.tuple #[.int .i32 x, .bool true]) W := by kernel_rfl
set_option maxRecDepth 100000 in
set_option maxHeartbeats 1000000 in
theorem isInt32_ok (w : World) : Calls Tryz.prog 46 #[] w fun e w' => e = .returned (.bool true) ∧ w' = w := by
  have h := assert32 0
  go_enter Tryz.func46, Tryz.ntmps46
  go_wp2_with fail
  go_ret
  exact ⟨rfl, rfl⟩
set_option maxRecDepth 100000 in
set_option maxHeartbeats 1000000 in
theorem deltaSet_ok (w : World) (d b bo L C : Nat) (ee eu : Addr) (N S M T z q : Nat) (D : Nat → Nat) (h : Row w d dl0) (hd : d < w.heap.size) (hD : Data w b bo L D) (hE : Eofs w ee eu) (hL : L ≤ C) (hC : C ≤ 9223372036854775807) (hLb : L ≤ 1000000000000000000) (hdb : d ≠ b) (hg : 4 < d) (hH : Head D 0 S M T z q) (hq : q ≤ L) (hT : T ≤ N) (hN : N ≤ 1000000000) (hz1 : -2147483648 ≤ unzig z) (hz2 : unzig z ≤ 2147483647) :
    Calls Tryz.prog 24 #[.pointer (some ⟨d, 0, none⟩), .int .i64 N, .slice (some ⟨b, bo, none⟩) L C] w fun e w' =>
      e = .returned .nilIface ∧ Chg (Own d) w w' ∧ ∃ B rb mb, w.heap.size ≤ B ∧ w.heap.size ≤ rb ∧ w.heap.size ≤ mb ∧
        DX ⟨B, rb, 0, b, bo, L, C, ee, eu, D⟩ w' d mb q 0 (dl T (.slice (some ⟨b, bo, none⟩) L C) false (.pointer (some ⟨B, 0, none⟩)) S 0 M (S / M : Nat) 0 0 0 (.pointer (some ⟨mb, 0, none⟩)) 0 T (unzig z) (.slice none 0 0) (.slice none 0 0)) 0 0 (.slice none 0 0) := by
  have Hset := Lib.hid (decSet_ok w d dl0 _ _ N (some ⟨b, bo, none⟩) L C h rfl rfl)
  have HD := Lib.hid hD; clear hD
  have HE := Lib.hid hE; clear hE
  have HH := Lib.hid hH; clear hH
  clear h
  go_enter Tryz.func24, Tryz.ntmps24
  go_wp2_with fail
  refine Hset.out.mono ?_
  rintro e w1 ⟨rfl, hc1, hr1⟩
  have c1 := hr1.at 1 rfl
  have c5 := hr1.at 5 rfl
  have f5 := hr1.fr 5
  have Hc1 := Lib.hid hc1; clear hc1
  have Hr1 := Lib.hid hr1; clear hr1
  go_wp2_with fail
  have hl1 : d < w1.heap.size := Hr1.out.lt rfl
  refine (newReader_any _ _ _ _).mono ?_
  rintro e w2 ⟨rfl, hw2⟩
  have hcr : Chg Nix w1 w2 := by rw [← hw2]; exact Chg.new _ _
  have hrd : Rdr w2 w1.heap.size 0 b bo L C (0 : Nat) (-1) := by rw [← hw2]; exact ⟨by simp, by simp, by simp, fun j hj => by simp⟩
  have hl12 : w1.heap.size < w2.heap.size := by rw [← hw2]; simp
  clear hw2
  go_wp2_with fail
  refine (newBits_ok w1.heap.size 0 w2).mono ?_
  rintro e w3 ⟨rfl, hcb, hl23, hbr⟩
  obtain ⟨rb, hrb⟩ : ∃ rb, rb = w1.heap.size := ⟨_, rfl⟩
  obtain ⟨B, hB⟩ : ∃ B, B = w2.heap.size := ⟨_, rfl⟩
  rw [← hrb] at hrd hbr hl12
  rw [← hB] at hbr hl23 hl12 ⊢
  have hs1 := Hc1.out.size
  have hc13 : Chg Nix w1 w3 := hcr.trans hcb
  have hc03 : Chg (Own d) w w3 := Hc1.out.trans (hc13.mono (fun _ _ _ h => h.elim))
  have hr3 := Hr1.out.keep hl1 hc13 (fun x h => h)
  have hbl : 0 < L → b < w.heap.size := fun h => World.block_lt_of_cell? w _ (HD.out.bytes 0 h)
  have hL0 : 0 < L := by
    obtain ⟨k1, k2, k3, k4, h1, h2, h3, h4, h5⟩ := HH.out.h
    have := h1.k1
    omega
  have hbw := hbl hL0
  have he3 : Env ⟨B, rb, 0, b, bo, L, C, ee, eu, D⟩ w3 := ⟨⟨_, _, hrd.keep hcb (fun _ _ h => h)⟩, HD.out.keep hc03 (fun j _ h => hdb h.symm), HE.out.keep hc03 (fun h => by have : _ = d := h; omega) (fun h => by have : _ = d := h; omega), hL, hC, hLb, by show b ≠ B; omega, by show rb ≠ B; omega, by show b ≠ rb; omega, by show _ < B; omega, by show _ < rb; omega⟩
  have hs3 : RS ⟨B, rb, 0, b, bo, L, C, ee, eu, D⟩ w3 0 0 := ⟨he3, by omega, 0, 0, hbr, fun h => by omega⟩
  have c5' := hr3.at 5 rfl
  have c7 := hr3.at 7 rfl
  have c10 := hr3.at 10 rfl
  have c13 := hr3.at 13 rfl
  have c3 := hr3.at 3 rfl
  have g5 := hr3.fr 5
  have g7 := hr3.fr 7
  have g10 := hr3.fr 10
  have Hc03 := Lib.hid hc03
  have Hr3 := Lib.hid hr3
  have Hs3 := Lib.hid hs3
  have HrB := Lib.hid hrb
  have HBB := Lib.hid hB
  have hrbw : w.heap.size ≤ rb := by omega
  have hBw : w.heap.size ≤ B := by omega
  have hrB : rb < B := by omega
  have hl3 : d < w3.heap.size := by omega
  clear hcr hrd hl12 hcb hbr hc13 hc03 hr3 he3 hs3 hrb hB c1 c5 f5 hl1 hs1 hl23
  go_wp2_with fail
  have hr4 := ((Hr3.out.put 5 (.pointer (some ⟨B, 0, none⟩))).put 7 (.int .u32 0)).put 10 (.int .u32 0)
  have hc4 := (((Chg.refl (Own d) w3).own 5 (.pointer (some ⟨B, 0, none⟩))).own 7 (.int .u32 0)).own 10 (.int .u32 0)
  generalize ((w3.setCell ⟨d, 5, none⟩ (.pointer (some ⟨B, 0, none⟩))).setCell ⟨d, 7, none⟩ (.int .u32 0)).setCell ⟨d, 10, none⟩ (.int .u32 0) = w4 at hr4 hc4 ⊢
  have hs4 := Hs3.out.keep hc4 (by intro k x e; have e' : k = d := e; rw [e']; exact ⟨hdb, by show d ≠ rb; omega, by show d ≠ B; omega, by omega⟩)
  have hl4 := hc4.lt hl3
  refine (newBuffer_ok w4).mono ?_
  rintro e w5 ⟨rfl, hc5, hl5, hm5⟩
  obtain ⟨mb, hmb⟩ : ∃ mb, mb = w4.heap.size := ⟨_, rfl⟩
  rw [← hmb] at hl5 hm5 ⊢
  have hBl := hs4.lt
  have hrl := hs4.rlt
  have hsz := (Hc03.out.trans hc4).size
  have hmbw : w.heap.size ≤ mb := by omega
  have hX5 : DX ⟨B, rb, 0, b, bo, L, C, ee, eu, D⟩ w5 d mb 0 0 _ 0 0 (.slice none 0 0) :=
    ⟨hr4.keep hl4 hc5 (fun x h => h), hc5.lt hl4, hs4.keep hc5 (fun _ _ h => h.elim), hm5, by show d ≠ B; omega, by show d ≠ rb; omega, hdb, hg, by omega, by show mb ≠ B; have : B < _ := hBl; omega, by show mb ≠ rb; have : rb < _ := hrl; omega, by show mb ≠ b; omega, by omega, fun x h => by cases h⟩
  have Hc05 := Lib.hid ((Hc03.out.trans hc4).trans (hc5.mono (fun _ _ _ h => h.elim)))
  have hX6 := hX5.put 13 (.pointer (some ⟨mb, 0, none⟩))
  have hcX6 := ((Hc03.out.trans hc4).trans (hc5.mono (fun _ _ _ h => h.elim))).own 13 (.pointer (some ⟨mb, 0, none⟩))
  have HX6 := Lib.hid hX6
  have HcX6 := Lib.hid hcX6
  obtain ⟨k1, k2, k3, k4, hh1, hh2, hh3, hh4, hh5⟩ := HH.out.h
  have hk := hh5
  rw [Nat.zero_add] at hh2 hh3 hh4 hk
  have p1 := hX5.row.at 13 rfl
  have p2 := hX5.row.fr 13
  have q5 := hX5.row.at 5 rfl
  have q6 := hX5.row.at 6 rfl
  have q6f := hX5.row.fr 6
  have Hcall1 := Lib.hid (getVlq_at _ 0 k1 S _ hX6.rs hh1 (by show 0 + k1 ≤ L; omega))
  have Hh2 := Lib.hid hh2
  have Hh3 := Lib.hid hh3
  have Hh4 := Lib.hid hh4
  have Hkk := Lib.hid hk
  clear hr4 hc4 hs4 hl4 hc5 hm5 hl5 hmb hBl hrl hsz hX5 hX6 hcX6 hh1 hh2 hh3 hh4 hh5 hk Hs3 Hr3 c5' c7 c10 c13 c3 g5 g7 g10
  go_wp2_with fail
  refine Hcall1.out.mono ?_
  rintro e w7 ⟨rfl, h1, h2⟩
  have hX := HX6.out.read h1 h2.rs
  have hc := HcX6.out.comp h1 (T := Own d) (fun _ _ _ h => h) (fun k x hk h => by have : k = B := h; omega)
  have p5 := hX.row.at 5 rfl
  have p6 := hX.row.at 6 rfl
  have p6f := hX.row.fr 6
  have p8 := hX.row.at 8 rfl
  have hX8 := hX.put 6 (.int .u64 S)
  have hcX8 := hc.own 6 (.int .u64 S)
  have Hcall2 := Lib.hid (getVlq_at _ _ k2 M _ hX8.rs (by rw [Nat.zero_add]; exact Hh2.out) (by show 0 + k1 + k2 ≤ L; have := Hkk.out; omega))
  have HX8 := Lib.hid hX8; clear hX8
  have HcX8 := Lib.hid hcX8; clear hcX8
  have s1 : ¬ (S : Int) = 0 := by have := HH.out.s1; omega
  have s2 : (S : Int) % 128 = 0 := by have := HH.out.s2; omega
  have s3 : (S : Int) ≤ 4294967295 := by have := HH.out.s3; omega
  clear hX hc h1 h2 Hcall1 q5 q6 q6f p1 p2
  go_wp2_with fail
  refine Hcall2.out.mono ?_
  rintro e w9 ⟨rfl, h1, h2⟩
  have hX := HX8.out.read h1 h2.rs
  have hc := HcX8.out.comp h1 (T := Own d) (fun _ _ _ h => h) (fun k x hk h => by have : k = B := h; omega)
  clear p5 p6 p6f p8
  have p5 := hX.row.at 5 rfl
  have p6 := hX.row.at 6 rfl
  have p8 := hX.row.at 8 rfl
  have p8f := hX.row.fr 8
  have hX8 := hX.put 8 (.int .u64 M)
  have hcX8 := hc.own 8 (.int .u64 M)
  have HX10 := Lib.hid hX8; clear hX8
  have HcX10 := Lib.hid hcX8; clear hcX8
  obtain ⟨V, hV⟩ : ∃ V, V = S / M := ⟨_, rfl⟩
  have hM := HH.out.m1
  have hSM := HH.out.m2
  have hML : M ≤ S := Nat.le_of_dvd HH.out.s1 (Nat.dvd_of_mod_eq_zero hSM)
  have hV0 : 0 < V := by rw [hV]; exact Nat.div_pos hML hM
  have hV32 : V % 32 = 0 := by rw [hV]; exact HH.out.m3
  have hVS : V ≤ S := by rw [hV]; exact Nat.div_le_self _ _
  have m1 : ¬ (M : Int) = 0 := by omega
  have m3 : (M : Int) ≤ 4294967295 := by omega
  have m0 : ¬ M = 0 := by omega
  have m4 : (S : Int).tmod M = 0 := by rw [Int.tmod_eq_emod_of_nonneg (by omega)]; exact_mod_cast hSM
  have m5 : (S : Int).tdiv M = V := by rw [Int.tdiv_eq_ediv_of_nonneg (by omega), hV]; norm_cast
  have v1 : ¬ (V : Int) = 0 := by omega
  have v2 : (V : Int) % 32 = 0 := by omega
  have v3 : (V : Int) ≤ 4294967295 := by omega
  have HV := Lib.hid hV; clear hV hM hSM hV32
  have Hcall3 := Lib.hid (fun W hW => getVlq_at ⟨B, rb, 0, b, bo, L, C, ee, eu, D⟩ (0 + k1 + k2) k3 T W hW (by rw [Nat.zero_add]; exact Hh3.out) (by show 0 + k1 + k2 + k3 ≤ L; have := Hkk.out; omega))
  clear hX hc h1 h2 Hcall2 s2
  go_wp2_with fail
  (refine wp_region_txt [] (by kernel_rfl) (by kernel_rfl) ?_; repeat (first | (refine wpTxt_pure rfl rfl (fun K hK => ?_); go_simp; refine hK _ ?_; clear hK K) | (refine wpTxt_still rfl rfl (fun K hK => ?_); go_simp; refine hK _ ?_; clear hK K)))
  refine wpTxt_nil ?_
  go_wp2_with fail
  (refine wp_region_txt [] (by kernel_rfl) (by kernel_rfl) ?_; repeat (first | (refine wpTxt_pure rfl rfl (fun K hK => ?_); go_simp; refine hK _ ?_; clear hK K) | (refine wpTxt_still rfl rfl (fun K hK => ?_); go_simp; refine hK _ ?_; clear hK K)))
  refine wpTxt_nil ?_
  go_wp2_with fail
  refine (Hcall3.out _ (HX10.out.drew.drew.rs)).mono ?_
  rintro e w11 ⟨rfl, h1, h2⟩
  have hX := HX10.out.drew.drew.read h1 h2.rs
  have hc := HcX10.out.drew.drew.comp h1 (T := Own d) (fun _ _ _ h => h) (fun k x hk h => by have : k = B := h; omega)
  clear p5 p6 p8 p8f
  have p5 := hX.row.at 5 rfl
  have p15 := hX.row.at 15 rfl
  have p15f := hX.row.fr 15
  have hX8 := hX.put 15 (.int .u64 T)
  have hcX8 := hc.own 15 (.int .u64 T)
  have HX12 := Lib.hid hX8; clear hX8
  have HcX12 := Lib.hid hcX8; clear hcX8
  have hTL := HH.out.t
  have t3 : (T : Int) ≤ 4294967295 := by omega
  have t4 : (0 : Int) ≤ N := by omega
  have t5 : IntKind.u64.wrap (N : Int) = N := wrap64 _ (by omega) (by show (N : Int) < 18446744073709551616; omega)
  have t6 : (T : Int) ≤ N := by omega
  have Hcall4 := Lib.hid (fun W hW => getZig_at ⟨B, rb, 0, b, bo, L, C, ee, eu, D⟩ (0 + k1 + k2 + k3) k4 z W hW (by rw [Nat.zero_add]; exact Hh4.out) (by show 0 + k1 + k2 + k3 + k4 ≤ L; have := Hkk.out; omega))
  clear hX hc h1 h2 Hcall3
  go_wp2_with fail
  refine (Hcall4.out _ (HX12.out.rs)).mono ?_
  rintro e w13 ⟨rfl, h1, h2⟩
  have hX := HX12.out.read h1 h2.rs
  have hc := HcX12.out.comp h1 (T := Own d) (fun _ _ _ h => h) (fun k x hk h => by have : k = B := h; omega)
  clear p5 p15 p15f
  have p0 := hX.row.at 0 rfl
  have p4 := hX.row.at 4 rfl
  have p9 := hX.row.at 9 rfl
  have p15 := hX.row.at 15 rfl
  have p16 := hX.row.at 16 rfl
  have p0f := hX.row.fr 0
  have p4f := hX.row.fr 4
  have p9f := hX.row.fr 9
  have p16f := hX.row.fr 16
  have hX8 := (((hX.put 16 (.int .i64 (unzig z))).put 9 (.int .u32 V)).put 4 (.bool false)).put 0 (.int .i64 T)
  have hcX8 := (((hc.own 16 (.int .i64 (unzig z))).own 9 (.int .u32 V)).own 4 (.bool false)).own 0 (.int .i64 T)
  have HX14 := Lib.hid hX8; clear hX8
  have HcX14 := Lib.hid hcX8; clear hcX8
  obtain ⟨Z, hZ⟩ : ∃ Z, Z = unzig z := ⟨_, rfl⟩
  rw [← hZ] at hz1 hz2 HX14 HcX14 ⊢
  have Hq4 := Lib.hid (show 0 + k1 + k2 + k3 + k4 = q by have := Hkk.out; omega)
  have HZ := Lib.hid hZ
  clear hX hc h1 h2 Hcall4 hZ
  go_wp2_with fail
  refine (isInt32_ok _).mono ?_
  rintro e w14 ⟨rfl, rfl⟩
  have hz1' : ¬ Z < -2147483648 := by omega
  go_wp2_with fail
  go_ret
  have hZ := HZ.out
  subst hZ
  have h14 := HX14.out
  rw [Hq4.out] at h14
  rw [← HV.out]
  exact ⟨rfl, HcX14.out, B, rb, mb, hBw, hrbw, hmbw, h14⟩
end Go.Proofs.YtaageikelkcphaaGreatDoor
