/- Printed by program out of the translation, and struck smaller. -/
import Derived.Test.YtaageikelkcphaaGreatDoorPFnPrefixesReadx0
namespace Go.Proofs.YtaageikelkcphaaGreatDoor.PFnPrefixesRead
open Go.RowKit Go.Proofs.YtaageikelkcphaaGreatDoorW.PrintWords Go.Proofs.YtaageikelkcphaaGreatDoorW.PrintLast Go.Proofs.YtaageikelkcphaaGreatDoorW.PrintMore
attribute [local go_sem] max2_int min2_int max_two min_two max_three min_three max_four min_four
set_option linter.unusedVariables false
set_option linter.unusedSimpArgs false
def spec_SameTexts.l0 : Nat → List ByteArray → List ByteArray → Int → Int → Option (Bool)
  | 0, _, _, _, _ => none
  | k + 1, x0, x1, x12, x13 => if x13 < x12 then (if 0 ≤ x13 then (if x13 < (x0.length : Int) then (if x13 < (x1.length : Int) then (if (rdOf ByteArray.empty x0 x13).toList = (rdOf ByteArray.empty x1 x13).toList then (spec_SameTexts.l0 k x0 x1 x12 (wrap64 (x13 + 1))) else (some false)) else (none)) else (none)) else (none)) else (some true)
def spec_SameTexts.f (k : Nat) (l0 : List ByteArray) (l1 : List ByteArray) : Option (Bool) := if (l0.length : Int) = (l1.length : Int) then (spec_SameTexts.l0 k l0 l1 (l0.length : Int) 0) else (some false)
theorem spec_SameTexts.mono_l : ∀ k, (∀ y0 y1 y2 y3, LeO (spec_SameTexts.l0 k y0 y1 y2 y3) (spec_SameTexts.l0 (k + 1) y0 y1 y2 y3))
  | 0 => fun _ _ _ _ r h => by simp [spec_SameTexts.l0] at h
  | k + 1 => by
    have ih0 := spec_SameTexts.mono_l k
    · intro y0 y1 y2 y3
      unfold spec_SameTexts.l0
      repeat' first
      | (with_reducible exact ih0 _ _ _ _)
      | (with_reducible exact LeO.refl _)
      | (with_reducible exact LeO.none _)
      | (with_reducible refine LeO.ite ?_ ?_)
      | (with_reducible refine LeO.bind ?_ (fun _ => ?_))
      | exact ih0 _ _ _ _
      | exact LeO.none _
      | refine LeO.ite ?_ ?_
      | refine LeO.bind ?_ (fun _ => ?_)
theorem spec_SameTexts.mono : ∀ a0 a1 k, LeO (spec_SameTexts.f k a0 a1) (spec_SameTexts.f (k + 1) a0 a1) := by
  intro a0 a1 k
  have ih0 := spec_SameTexts.mono_l k
  unfold spec_SameTexts.f
  repeat' first
      | (with_reducible exact ih0 _ _ _ _)
      | (with_reducible exact LeO.refl _)
      | (with_reducible exact LeO.none _)
      | (with_reducible refine LeO.ite ?_ ?_)
      | (with_reducible refine LeO.bind ?_ (fun _ => ?_))
      | exact ih0 _ _ _ _
      | exact LeO.none _
      | refine LeO.ite ?_ ?_
      | refine LeO.bind ?_ (fun _ => ?_)
set_option maxHeartbeats 8000000 in
set_option maxRecDepth 100000 in
theorem spec_SameTexts.calls (k : Nat) (A0 : Option Addr) (c0 : Nat) (l0 : List ByteArray) (A1 : Option Addr) (c1 : Nat) (l1 : List ByteArray) (r : Bool) (w : World) (hr0 : Kd.C Kd.string w A0 l0.length l0) (hc0 : l0.length ≤ c0) (hr1 : Kd.C Kd.string w A1 l1.length l1) (hc1 : l1.length ≤ c1) (h : spec_SameTexts.f k l0 l1 = some r) :
    Calls Tryz.prog 10 #[.slice A0 l0.length c0, .slice A1 l1.length c1] w fun e w' => e = .returned (.bool r) ∧ Drawn0 w w' := by
  have HR0 := Aside0.mk hr0
  have HC0 := Aside0.mk hc0
  clear hr0 hc0
  have HR1 := Aside0.mk hr1
  have HC1 := Aside0.mk hc1
  clear hr1 hc1
  have H : (if (l0.length : Int) = (l1.length : Int) then (spec_SameTexts.l0 k l0 l1 (l0.length : Int) 0) else (some false)) = some r := h
  clear h
  by_cases c3 : (l0.length : Int) = (l1.length : Int)
  · rw [if_pos c3] at H
    have c3b0 : ((l0.length : Int) == (l1.length : Int)) = true := beq_iff_eq.mpr c3
    have c3b1 : ((l0.length : Int) != (l1.length : Int)) = false := bne_eq_false_iff_eq.mpr c3
    have c3b2 : (l0.length == l1.length) = true := by first | simpa using c3 | (simp at c3 ⊢; omega)
    clear c3
    have H' := Aside0.mk H
    clear H
    go_enter Tryz.func10, Tryz.ntmps10
    go_wp2
    repeat (go_quiet (fail); try go_wp2)
    go_loopg [13] k (fun kq v13 w' => ∃ (x13_1 : Int), v13 = .int .i64 x13_1 ∧ Aside0 (spec_SameTexts.l0 kq l0 l1 (l0.length : Int) x13_1 = some r) ∧ Aside0 (kq ≤ k) ∧ Drawn0 w w')
    case atStart => exact ⟨(0), (by first | rfl | (simp; done) | (simp [*]; done)), H', ⟨Nat.le_refl _⟩, by repeat (first | exact Drawn0.refl _ | apply Drawn0.step)⟩
    case round =>
      clear H'
      try clear c1
      try clear p2
      try clear c3
      try clear c3b0
      try clear c3b1
      try clear c3b2
      obtain ⟨x13_1, rfl, HA, HK1, ⟨m1, rfl⟩⟩ := hrel
      cases gk with
      | zero => exact absurd HA.out (by simp [spec_SameTexts.l0])
      | succ k1 =>
        have H := HA.out
        clear HA
        simp only [spec_SameTexts.l0] at H
        by_cases c4 : x13_1 < (l0.length : Int)
        · rw [if_pos c4] at H
          have c4b0 : decide (x13_1 < (l0.length : Int)) = true := decide_eq_true c4
          clear c4
          by_cases c5 : 0 ≤ x13_1
          · rw [if_pos c5] at H
            have c5b0 : decide (0 ≤ x13_1) = true := decide_eq_true c5
            clear c5
            by_cases c6 : x13_1 < (l0.length : Int)
            · rw [if_pos c6] at H
              have c6b0 : decide (x13_1 < (l0.length : Int)) = true := decide_eq_true c6
              clear c6
              by_cases c7 : x13_1 < (l1.length : Int)
              · rw [if_pos c7] at H
                have c7b0 : decide (x13_1 < (l1.length : Int)) = true := decide_eq_true c7
                clear c7
                by_cases c8 : (rdOf ByteArray.empty l0 x13_1).toList = (rdOf ByteArray.empty l1 x13_1).toList
                · rw [if_pos c8] at H
                  have c8b0 : ((rdOf ByteArray.empty l0 x13_1).toList == (rdOf ByteArray.empty l1 x13_1).toList) = true := beq_iff_eq.mpr c8
                  have c8b1 : ((rdOf ByteArray.empty l0 x13_1).toList != (rdOf ByteArray.empty l1 x13_1).toList) = false := bne_eq_false_iff_eq.mpr c8
                  clear c8
                  have H' := Aside0.mk H
                  clear H
                  have p265 : 0 ≤ (x13_1 : Int) := of_decide_eq_true (by first | (with_reducible assumption) | assumption)
                  have q265 : x13_1 < (l0.length : Int) := of_decide_eq_true (by first | (with_reducible assumption) | assumption)
                  obtain ⟨ad265, e265, hx265_0⟩ := Kd.at_string HR0.out x13_1 p265 q265
                  cases e265
                  replace p265 := eq_true p265
                  replace q265 := eq_true q265
                  have p266 : 0 ≤ (x13_1 : Int) := of_decide_eq_true (by first | (with_reducible assumption) | assumption)
                  have q266 : x13_1 < (l1.length : Int) := of_decide_eq_true (by first | (with_reducible assumption) | assumption)
                  obtain ⟨ad266, e266, hx266_0⟩ := Kd.at_string HR1.out x13_1 p266 q266
                  cases e266
                  replace p266 := eq_true p266
                  replace q266 := eq_true q266
                  go_wp2
                  repeat (go_quiet (fail); try go_wp2)
                  go_roundg k1
                  case measure => have := HK1.out; omega
                  case rel => exact ⟨(wrap64 (x13_1 + 1)), (by first | rfl | (simp; done) | (simp [*]; done)), H', ⟨by have := HK1.out; omega⟩, by repeat (first | exact Drawn0.refl _ | apply Drawn0.step)⟩
                · rw [if_neg c8] at H
                  have c8b0 : ((rdOf ByteArray.empty l0 x13_1).toList == (rdOf ByteArray.empty l1 x13_1).toList) = false := beq_eq_false_iff_ne.mpr c8
                  have c8b1 : ((rdOf ByteArray.empty l0 x13_1).toList != (rdOf ByteArray.empty l1 x13_1).toList) = true := bne_iff_ne.mpr c8
                  obtain rfl := Option.some.inj H
                  have p265 : 0 ≤ (x13_1 : Int) := of_decide_eq_true (by first | (with_reducible assumption) | assumption)
                  have q265 : x13_1 < (l0.length : Int) := of_decide_eq_true (by first | (with_reducible assumption) | assumption)
                  obtain ⟨ad265, e265, hx265_0⟩ := Kd.at_string HR0.out x13_1 p265 q265
                  cases e265
                  replace p265 := eq_true p265
                  replace q265 := eq_true q265
                  have p266 : 0 ≤ (x13_1 : Int) := of_decide_eq_true (by first | (with_reducible assumption) | assumption)
                  have q266 : x13_1 < (l1.length : Int) := of_decide_eq_true (by first | (with_reducible assumption) | assumption)
                  obtain ⟨ad266, e266, hx266_0⟩ := Kd.at_string HR1.out x13_1 p266 q266
                  cases e266
                  replace p266 := eq_true p266
                  replace q266 := eq_true q266
                  go_wp2
                  repeat (go_quiet (fail); try go_wp2)
                  go_ret
                  exact ⟨by first | rfl | (simp; done) | (simp [*]; done), by repeat (first | exact Drawn0.refl _ | apply Drawn0.step)⟩
              · rw [if_neg c7] at H
                exact absurd H (by simp)
            · rw [if_neg c6] at H
              exact absurd H (by simp)
          · rw [if_neg c5] at H
            exact absurd H (by simp)
        · rw [if_neg c4] at H
          have c4b0 : decide (x13_1 < (l0.length : Int)) = false := decide_eq_false c4
          clear c4
          obtain rfl := Option.some.inj H
          go_wp2
          repeat (go_quiet (fail); try go_wp2)
          go_ret
          exact ⟨by first | rfl | (simp; done) | (simp [*]; done), by repeat (first | exact Drawn0.refl _ | apply Drawn0.step)⟩
  · rw [if_neg c3] at H
    have c3b0 : ((l0.length : Int) == (l1.length : Int)) = false := beq_eq_false_iff_ne.mpr c3
    have c3b1 : ((l0.length : Int) != (l1.length : Int)) = true := bne_iff_ne.mpr c3
    have c3b2 : (l0.length == l1.length) = false := by first | simpa using c3 | (simp at c3 ⊢; omega)
    obtain rfl := Option.some.inj H
    go_enter Tryz.func10, Tryz.ntmps10
    go_wp2
    repeat (go_quiet (fail); try go_wp2)
    go_ret
    exact ⟨by first | rfl | (simp; done) | (simp [*]; done), by repeat (first | exact Drawn0.refl _ | apply Drawn0.step)⟩
def laws_taken_string.l0 : Nat → List ByteArray → List ByteArray → Int → List Int → Int → Int → Option (List ByteArray)
  | 0, _, _, _, _, _, _ => none
  | k + 1, x0, x5, x6, x10, x11, x12 => if x12 < x11 then (if 0 ≤ x12 then (if x12 < (x10.length : Int) then (if (rd x10 x12) > 0 then (if 0 ≤ x6 then (if x6 ≤ (wrap64 (x6 + (mn (mx (rd x10 x12) (wrap64 (-(rd x10 x12)))) (wrap64 ((x0.length : Int) - x6))))) then (if (wrap64 (x6 + (mn (mx (rd x10 x12) (wrap64 (-(rd x10 x12)))) (wrap64 ((x0.length : Int) - x6))))) ≤ (x0.length : Int) then (if x5.length + ((x0.take ((wrap64 (x6 + (mn (mx (rd x10 x12) (wrap64 (-(rd x10 x12)))) (wrap64 ((x0.length : Int) - x6))))) : Int).toNat).drop (x6 : Int).toNat).length < 8796093022208 then ((some (x5 ++ ((x0.take ((wrap64 (x6 + (mn (mx (rd x10 x12) (wrap64 (-(rd x10 x12)))) (wrap64 ((x0.length : Int) - x6))))) : Int).toNat).drop (x6 : Int).toNat) : List ByteArray)).bind fun y269 => (if (mn (mx (rd x10 x12) (wrap64 (-(rd x10 x12)))) (wrap64 ((x0.length : Int) - x6))) < (mx (rd x10 x12) (wrap64 (-(rd x10 x12)))) then (some y269) else (laws_taken_string.l0 k x0 y269 (wrap64 (x6 + (mn (mx (rd x10 x12) (wrap64 (-(rd x10 x12)))) (wrap64 ((x0.length : Int) - x6))))) x10 x11 (wrap64 (x12 + 1))))) else (none)) else (none)) else (none)) else (none)) else (if (mn (mx (rd x10 x12) (wrap64 (-(rd x10 x12)))) (wrap64 ((x0.length : Int) - x6))) < (mx (rd x10 x12) (wrap64 (-(rd x10 x12)))) then (some x5) else (laws_taken_string.l0 k x0 x5 (wrap64 (x6 + (mn (mx (rd x10 x12) (wrap64 (-(rd x10 x12)))) (wrap64 ((x0.length : Int) - x6))))) x10 x11 (wrap64 (x12 + 1))))) else (none)) else (none)) else (some x5)
def laws_taken_string.f (k : Nat) (l0 : List ByteArray) (l1 : List Int) : Option (List ByteArray) := laws_taken_string.l0 k l0 ([] : List ByteArray) 0 l1 (l1.length : Int) 0
theorem laws_taken_string.mono_l : ∀ k, (∀ y0 y1 y2 y3 y4 y5, LeO (laws_taken_string.l0 k y0 y1 y2 y3 y4 y5) (laws_taken_string.l0 (k + 1) y0 y1 y2 y3 y4 y5))
  | 0 => fun _ _ _ _ _ _ r h => by simp [laws_taken_string.l0] at h
  | k + 1 => by
    have ih0 := laws_taken_string.mono_l k
    · intro y0 y1 y2 y3 y4 y5
      unfold laws_taken_string.l0
      repeat' first
      | (with_reducible exact ih0 _ _ _ _ _ _)
      | (with_reducible exact LeO.refl _)
      | (with_reducible exact LeO.none _)
      | (with_reducible refine LeO.ite ?_ ?_)
      | (with_reducible refine LeO.bind ?_ (fun _ => ?_))
      | exact ih0 _ _ _ _ _ _
      | exact LeO.none _
      | refine LeO.ite ?_ ?_
      | refine LeO.bind ?_ (fun _ => ?_)
theorem laws_taken_string.mono : ∀ a0 a1 k, LeO (laws_taken_string.f k a0 a1) (laws_taken_string.f (k + 1) a0 a1) := by
  intro a0 a1 k
  have ih0 := laws_taken_string.mono_l k
  unfold laws_taken_string.f
  repeat' first
      | (with_reducible exact ih0 _ _ _ _ _ _)
      | (with_reducible exact LeO.refl _)
      | (with_reducible exact LeO.none _)
      | (with_reducible refine LeO.ite ?_ ?_)
      | (with_reducible refine LeO.bind ?_ (fun _ => ?_))
      | exact ih0 _ _ _ _ _ _
      | exact LeO.none _
      | refine LeO.ite ?_ ?_
      | refine LeO.bind ?_ (fun _ => ?_)
set_option maxHeartbeats 8000000 in
set_option maxRecDepth 100000 in
theorem laws_taken_string.calls (k : Nat) (A0 : Option Addr) (c0 : Nat) (l0 : List ByteArray) (A1 : Option Addr) (c1 : Nat) (l1 : List Int) (r : List ByteArray) (w : World) (hr0 : Kd.C Kd.string w A0 l0.length l0) (hc0 : l0.length ≤ c0) (hr1 : Kd.C (Kd.int .i64) w A1 l1.length l1) (hc1 : l1.length ≤ c1) (h : laws_taken_string.f k l0 l1 = some r) :
    Calls Tryz.prog 11 #[.slice A0 l0.length c0, .slice A1 l1.length c1] w fun e w' => ∃ v0_ : Value, e = .returned (v0_) ∧ Kd.R Kd.string 9 w' w.heap.size (fun _ => True) v0_ r ∧ Below w.heap.size w w' := by
  have HR0 := Aside0.mk hr0
  have HC0 := Aside0.mk hc0
  clear hr0 hc0
  have HR1 := Aside0.mk hr1
  have HC1 := Aside0.mk hc1
  clear hr1 hc1
  have HB := Aside0.mk (Below.refl w.heap.size w)
  have H : (laws_taken_string.l0 k l0 ([] : List ByteArray) 0 l1 (l1.length : Int) 0) = some r := h
  clear h
  have H' := Aside0.mk H
  clear H
  go_enter Tryz.func11, Tryz.ntmps11
  go_wp2
  go_loopg [5, 6, 12] k (fun kq v5 v6 v12 w' => ∃ (x5_1 : List ByteArray) (x6_1 : Int) (x12_1 : Int), v6 = .int .i64 x6_1 ∧ v12 = .int .i64 x12_1 ∧ Aside0 (laws_taken_string.l0 kq l0 x5_1 x6_1 l1 (l1.length : Int) x12_1 = some r) ∧ Aside0 (kq ≤ k) ∧ Aside0 (Kd.R Kd.string 9 w' w.heap.size (fun _ => True) v5 x5_1) ∧ Aside0 (Below w.heap.size w w'))
  case atStart => exact ⟨(([] : List ByteArray)), (0), (0), (by first | rfl | (simp; done) | (simp [*]; done)), (by first | rfl | (simp; done) | (simp [*]; done)), H', ⟨Nat.le_refl _⟩, ⟨by first | exact Kd.R_nil _ _ _ _ _ | exact Kd.N_nil _ _ _ _ _ | exact Kd.V_nil _ _ _ _ _ | exact Kd.Q_nil _ _ _ _ _ | exact Kd.S_nil _ _ _ _ _⟩, ⟨by repeat (first | (with_reducible first | exact HB.out | apply below_alloc | apply pw_below_drewN | apply below_drew1) | exact HB.out)⟩⟩
  case round =>
    clear H'
    try clear c1
    try clear p2
    obtain ⟨x5_1, x6_1, x12_1, rfl, rfl, HA, HK1, HO_5, HB⟩ := hrel
    cases gk with
    | zero => exact absurd HA.out (by simp [laws_taken_string.l0])
    | succ k1 =>
      have H := HA.out
      clear HA
      simp only [laws_taken_string.l0] at H
      by_cases c3 : x12_1 < (l1.length : Int)
      · rw [if_pos c3] at H
        have c3b0 : decide (x12_1 < (l1.length : Int)) = true := decide_eq_true c3
        clear c3
        by_cases c4 : 0 ≤ x12_1
        · rw [if_pos c4] at H
          have c4b0 : decide (0 ≤ x12_1) = true := decide_eq_true c4
          clear c4
          by_cases c5 : x12_1 < (l1.length : Int)
          · rw [if_pos c5] at H
            have c5b0 : decide (x12_1 < (l1.length : Int)) = true := decide_eq_true c5
            clear c5
            obtain ⟨ji6, hji6⟩ : ∃ j_ : Int, (mx (rd l1 x12_1) (wrap64 (-(rd l1 x12_1)))) = j_ := ⟨_, rfl⟩
            replace H : (if (rd l1 x12_1) > 0 then (if 0 ≤ x6_1 then (if x6_1 ≤ (wrap64 (x6_1 + (mn (ji6) (wrap64 ((l0.length : Int) - x6_1))))) then (if (wrap64 (x6_1 + (mn (ji6) (wrap64 ((l0.length : Int) - x6_1))))) ≤ (l0.length : Int) then (if x5_1.length + ((l0.take ((wrap64 (x6_1 + (mn (ji6) (wrap64 ((l0.length : Int) - x6_1))))) : Int).toNat).drop (x6_1 : Int).toNat).length < 8796093022208 then ((some (x5_1 ++ ((l0.take ((wrap64 (x6_1 + (mn (ji6) (wrap64 ((l0.length : Int) - x6_1))))) : Int).toNat).drop (x6_1 : Int).toNat) : List ByteArray)).bind fun y269 => (if (mn (ji6) (wrap64 ((l0.length : Int) - x6_1))) < (ji6) then (some y269) else (laws_taken_string.l0 k1 l0 y269 (wrap64 (x6_1 + (mn (ji6) (wrap64 ((l0.length : Int) - x6_1))))) l1 (l1.length : Int) (wrap64 (x12_1 + 1))))) else (none)) else (none)) else (none)) else (none)) else (if (mn (ji6) (wrap64 ((l0.length : Int) - x6_1))) < (ji6) then (some x5_1) else (laws_taken_string.l0 k1 l0 x5_1 (wrap64 (x6_1 + (mn (ji6) (wrap64 ((l0.length : Int) - x6_1))))) l1 (l1.length : Int) (wrap64 (x12_1 + 1))))) = some r := by first | (rw [hji6] at H; exact H) | (simp only [hji6] at H ⊢; exact H)
            have hji6_ : (if (rd l1 x12_1) < (wrap64 (-(rd l1 x12_1))) then (wrap64 (-(rd l1 x12_1))) else (rd l1 x12_1)) = ji6 := hji6
            obtain ⟨ji7, hji7⟩ : ∃ j_ : Int, (mn (ji6) (wrap64 ((l0.length : Int) - x6_1))) = j_ := ⟨_, rfl⟩
            replace H : (if (rd l1 x12_1) > 0 then (if 0 ≤ x6_1 then (if x6_1 ≤ (wrap64 (x6_1 + (ji7))) then (if (wrap64 (x6_1 + (ji7))) ≤ (l0.length : Int) then (if x5_1.length + ((l0.take ((wrap64 (x6_1 + (ji7))) : Int).toNat).drop (x6_1 : Int).toNat).length < 8796093022208 then ((some (x5_1 ++ ((l0.take ((wrap64 (x6_1 + (ji7))) : Int).toNat).drop (x6_1 : Int).toNat) : List ByteArray)).bind fun y269 => (if (ji7) < (ji6) then (some y269) else (laws_taken_string.l0 k1 l0 y269 (wrap64 (x6_1 + (ji7))) l1 (l1.length : Int) (wrap64 (x12_1 + 1))))) else (none)) else (none)) else (none)) else (none)) else (if (ji7) < (ji6) then (some x5_1) else (laws_taken_string.l0 k1 l0 x5_1 (wrap64 (x6_1 + (ji7))) l1 (l1.length : Int) (wrap64 (x12_1 + 1))))) = some r := by first | (rw [hji7] at H; exact H) | (simp only [hji7] at H ⊢; exact H)
            have hji7_ : (if (wrap64 ((l0.length : Int) - x6_1)) < (ji6) then (wrap64 ((l0.length : Int) - x6_1)) else (ji6)) = ji7 := hji7
            by_cases c8 : (rd l1 x12_1) > 0
            · rw [if_pos c8] at H
              have c8b0 : decide (0 < (rd l1 x12_1)) = true := decide_eq_true c8
              clear c8
              by_cases c9 : 0 ≤ x6_1
              · rw [if_pos c9] at H
                have c9b0 := eq_true c9
                have c9b1 : decide (0 ≤ x6_1) = true := decide_eq_true c9
                clear c9
                by_cases c10 : x6_1 ≤ (wrap64 (x6_1 + (ji7)))
                · rw [if_pos c10] at H
                  have c10b0 := eq_true c10
                  have c10b1 : decide (x6_1 ≤ (wrap64 (x6_1 + (ji7)))) = true := decide_eq_true c10
                  by_cases c11 : (wrap64 (x6_1 + (ji7))) ≤ (l0.length : Int)
                  · rw [if_pos c11] at H
                    have c11b0 := eq_true c11
                    have c11b1 : decide ((wrap64 (x6_1 + (ji7))) ≤ (l0.length : Int)) = true := decide_eq_true c11
                    by_cases c12 : x5_1.length + ((l0.take ((wrap64 (x6_1 + (ji7))) : Int).toNat).drop (x6_1 : Int).toNat).length < 8796093022208
                    · rw [if_pos c12] at H
                      have LMc12 := Aside0.mk c12
                      clear c12
                      obtain ⟨y269, hy269⟩ : ∃ y_ : List ByteArray, y_ = (x5_1 ++ ((l0.take ((wrap64 (x6_1 + (ji7))) : Int).toNat).drop (x6_1 : Int).toNat)) := ⟨_, rfl⟩
                      replace H : (if (ji7) < (ji6) then (some y269) else (laws_taken_string.l0 k1 l0 y269 (wrap64 (x6_1 + (ji7))) l1 (l1.length : Int) (wrap64 (x12_1 + 1)))) = some r := by first | (rw [hy269]; with_reducible exact H) | (have H2_ := (Option.bind_some _ _).symm.trans H; rw [hy269]; with_reducible exact H2_) | (have H2_ := (Option.bind_some _ _).symm.trans H; with_reducible exact H2_) | with_reducible exact H | (rw [hy269]; exact H) | exact H
                      have Ny269 := Aside0.mk hy269
                      clear hy269
                      by_cases c14 : (ji7) < (ji6)
                      · rw [if_pos c14] at H
                        have c14b0 : decide ((ji7) < (ji6)) = true := decide_eq_true c14
                        clear c14
                        obtain rfl := Option.some.inj H
                        have p267 : 0 ≤ (x12_1 : Int) := of_decide_eq_true (by first | (with_reducible assumption) | assumption)
                        have q267 : x12_1 < (l1.length : Int) := of_decide_eq_true (by first | (with_reducible assumption) | assumption)
                        obtain ⟨ad267, e267, hx267_0⟩ := Kd.at_int HR1.out x12_1 p267 q267
                        cases e267
                        replace hx267_0 := (HB.out.cell (World.block_lt_of_cell? w _ hx267_0)).trans hx267_0
                        replace p267 := eq_true p267
                        replace q267 := eq_true q267
                        obtain ⟨i015, hi015, _, hsz15, _⟩ := info_parts info9
                        obtain ⟨A15, hcut15, hA15, hC15⟩ := print_mid_of (P := Tryz.prog) Value.string (⟨#[]⟩ : ByteArray) 22 9 .i64 .i64 Tryz.underlying22 hi015 hsz15 A0 c0 l0 x6_1 (wrap64 (x6_1 + (ji7))) (of_decide_eq_true (by first | (with_reducible assumption) | assumption)) (by first | omega | exact of_decide_eq_true (by first | (with_reducible assumption) | assumption)) (of_decide_eq_true (by first | (with_reducible assumption) | assumption)) HC0.out
                        have HR268 := Aside0.mk (Kd.C_of_reads (h1 := fun _ => rfl) (hA15 _ (Kd.reads_of_C HR0.out)))
                        have HC268 := Aside0.mk hC15
                        clear hA15 hC15 hi015 hsz15
                        go_wp2_with (first | ((with_reducible refine gate_builtin (b := .append) (xs := #[.tmp 27, .tmp 33]) rfl ?_); at_builtin; refine Kd.R_append_rows Kd.string (w0 := w) w.heap.size rfl (.tmp 27) (.tmp 33) 22 9 (.string ⟨#[]⟩) 16 rfl Tryz.underlying22 info9 rfl (by decide) (by omega) u5 x5_1 ((l0.take ((wrap64 (x6_1 + (ji7))) : Int).toNat).drop (x6_1 : Int).toNat) _ _ _ (fun _ => True) (fun _ => False) rfl rfl ?aO ?aR (fun _ _ h => h) (fun _ h => h.elim) ?aF ?aB ?aS ?aL ?_; (case aR => first | (rw [← show ((l0.take ((wrap64 (x6_1 + (ji7))) : Int).toNat).drop (x6_1 : Int).toNat).length = ((wrap64 (x6_1 + (ji7))).toNat - x6_1.toNat) from (by rw [List.length_drop, List.length_take]; have h_ : ((wrap64 (x6_1 + (ji7))) : Int) ≤ (l0.length : Int) := of_decide_eq_true (by first | (with_reducible assumption) | assumption); omega)]; repeat (first | exact (Kd.C_below HR268.out HB.out) | (with_reducible refine Kd.C_alloc ?_ _) | (with_reducible refine Kd.C_drewN ?_ _) | (with_reducible refine Kd.C_drew ?_))) | (repeat (first | exact (Kd.C_below HR268.out HB.out) | (with_reducible refine Kd.C_alloc ?_ _) | (with_reducible refine Kd.C_drewN ?_ _) | (with_reducible refine Kd.C_drew ?_)))); (case aB => exact (by repeat (first | (with_reducible first | exact HB.out | apply below_alloc | apply pw_below_drewN | apply below_drew1) | exact HB.out))); (case aF => exact (fun _ _ => trivial)); (case aO => exact (by (with_reducible repeat (first | apply Kd.R_alloc | apply Kd.R_drewN | apply Kd.R_drew)); exact HO_5.out)); (case aS => exact (below_size (by repeat (first | (with_reducible first | exact HB.out | apply below_alloc | apply pw_below_drewN | apply below_drew1) | exact HB.out)))); (case aL => have := LMc12.out; have hlx_ := (show ((l0.take ((wrap64 (x6_1 + (ji7))) : Int).toNat).drop (x6_1 : Int).toNat).length = ((wrap64 (x6_1 + (ji7))).toNat - x6_1.toNat) from (by rw [List.length_drop, List.length_take]; have h_ : ((wrap64 (x6_1 + (ji7))) : Int) ≤ (l0.length : Int) := of_decide_eq_true (by first | (with_reducible assumption) | assumption); omega)); omega); intro v270 w16 ho hb hg hat; rw [← Ny269.out] at ho; have n0_ := Aside0.mk (hb); have n1_ := Aside0.mk (ho); clear HB; clear HO_5; have HB := n0_; have HO271 := n1_; clear n0_ n1_; clear ho hb hg hat))
                        go_ret
                        exact ⟨_, by first | rfl | (simp [errW_none, errW_some] <;> rfl) | (simp only [← hji6, ← hji7]; first | rfl | (simp [errW_none, errW_some] <;> rfl)) | (simp [*, errW_none, errW_some] <;> rfl), by (with_reducible repeat (first | apply Kd.R_alloc | apply Kd.R_drewN | apply Kd.R_drew)); exact HO271.out, by repeat (first | (with_reducible first | exact HB.out | apply below_alloc | apply pw_below_drewN | apply below_drew1) | exact HB.out)⟩
                      · rw [if_neg c14] at H
                        have c14b0 : decide ((ji7) < (ji6)) = false := decide_eq_false c14
                        clear c14
                        have H' := Aside0.mk H
                        clear H
                        have p267 : 0 ≤ (x12_1 : Int) := of_decide_eq_true (by first | (with_reducible assumption) | assumption)
                        have q267 : x12_1 < (l1.length : Int) := of_decide_eq_true (by first | (with_reducible assumption) | assumption)
                        obtain ⟨ad267, e267, hx267_0⟩ := Kd.at_int HR1.out x12_1 p267 q267
                        cases e267
                        replace hx267_0 := (HB.out.cell (World.block_lt_of_cell? w _ hx267_0)).trans hx267_0
                        replace p267 := eq_true p267
                        replace q267 := eq_true q267
                        obtain ⟨i017, hi017, _, hsz17, _⟩ := info_parts info9
                        obtain ⟨A17, hcut17, hA17, hC17⟩ := print_mid_of (P := Tryz.prog) Value.string (⟨#[]⟩ : ByteArray) 22 9 .i64 .i64 Tryz.underlying22 hi017 hsz17 A0 c0 l0 x6_1 (wrap64 (x6_1 + (ji7))) (of_decide_eq_true (by first | (with_reducible assumption) | assumption)) (by first | omega | exact of_decide_eq_true (by first | (with_reducible assumption) | assumption)) (of_decide_eq_true (by first | (with_reducible assumption) | assumption)) HC0.out
                        have HR268 := Aside0.mk (Kd.C_of_reads (h1 := fun _ => rfl) (hA17 _ (Kd.reads_of_C HR0.out)))
                        have HC268 := Aside0.mk hC17
                        clear hA17 hC17 hi017 hsz17
                        go_wp2_with (first | ((with_reducible refine gate_builtin (b := .append) (xs := #[.tmp 27, .tmp 33]) rfl ?_); at_builtin; refine Kd.R_append_rows Kd.string (w0 := w) w.heap.size rfl (.tmp 27) (.tmp 33) 22 9 (.string ⟨#[]⟩) 16 rfl Tryz.underlying22 info9 rfl (by decide) (by omega) u5 x5_1 ((l0.take ((wrap64 (x6_1 + (ji7))) : Int).toNat).drop (x6_1 : Int).toNat) _ _ _ (fun _ => True) (fun _ => False) rfl rfl ?aO ?aR (fun _ _ h => h) (fun _ h => h.elim) ?aF ?aB ?aS ?aL ?_; (case aR => first | (rw [← show ((l0.take ((wrap64 (x6_1 + (ji7))) : Int).toNat).drop (x6_1 : Int).toNat).length = ((wrap64 (x6_1 + (ji7))).toNat - x6_1.toNat) from (by rw [List.length_drop, List.length_take]; have h_ : ((wrap64 (x6_1 + (ji7))) : Int) ≤ (l0.length : Int) := of_decide_eq_true (by first | (with_reducible assumption) | assumption); omega)]; repeat (first | exact (Kd.C_below HR268.out HB.out) | (with_reducible refine Kd.C_alloc ?_ _) | (with_reducible refine Kd.C_drewN ?_ _) | (with_reducible refine Kd.C_drew ?_))) | (repeat (first | exact (Kd.C_below HR268.out HB.out) | (with_reducible refine Kd.C_alloc ?_ _) | (with_reducible refine Kd.C_drewN ?_ _) | (with_reducible refine Kd.C_drew ?_)))); (case aB => exact (by repeat (first | (with_reducible first | exact HB.out | apply below_alloc | apply pw_below_drewN | apply below_drew1) | exact HB.out))); (case aF => exact (fun _ _ => trivial)); (case aO => exact (by (with_reducible repeat (first | apply Kd.R_alloc | apply Kd.R_drewN | apply Kd.R_drew)); exact HO_5.out)); (case aS => exact (below_size (by repeat (first | (with_reducible first | exact HB.out | apply below_alloc | apply pw_below_drewN | apply below_drew1) | exact HB.out)))); (case aL => have := LMc12.out; have hlx_ := (show ((l0.take ((wrap64 (x6_1 + (ji7))) : Int).toNat).drop (x6_1 : Int).toNat).length = ((wrap64 (x6_1 + (ji7))).toNat - x6_1.toNat) from (by rw [List.length_drop, List.length_take]; have h_ : ((wrap64 (x6_1 + (ji7))) : Int) ≤ (l0.length : Int) := of_decide_eq_true (by first | (with_reducible assumption) | assumption); omega)); omega); intro v270 w18 ho hb hg hat; rw [← Ny269.out] at ho; have n0_ := Aside0.mk (hb); have n1_ := Aside0.mk (ho); clear HB; clear HO_5; have HB := n0_; have HO271 := n1_; clear n0_ n1_; clear ho hb hg hat))
                        go_roundg k1
                        case measure => have := HK1.out; omega
                        case rel => exact ⟨(y269), (wrap64 (x6_1 + (ji7))), (wrap64 (x12_1 + 1)), (by first | rfl | (simp; done) | (simp only [← hji7] <;> (first | rfl | simp)) | (simp [*]; done)), (by first | rfl | (simp; done) | (simp [*]; done)), H', ⟨by have := HK1.out; omega⟩, ⟨by (with_reducible repeat (first | apply Kd.R_alloc | apply Kd.R_drewN | apply Kd.R_drew)); exact HO271.out⟩, ⟨by repeat (first | (with_reducible first | exact HB.out | apply below_alloc | apply pw_below_drewN | apply below_drew1) | exact HB.out)⟩⟩
                    · rw [if_neg c12] at H
                      exact absurd H (by simp)
                  · rw [if_neg c11] at H
                    exact absurd H (by simp)
                · rw [if_neg c10] at H
                  exact absurd H (by simp)
              · rw [if_neg c9] at H
                exact absurd H (by simp)
            · rw [if_neg c8] at H
              have c8b0 : decide (0 < (rd l1 x12_1)) = false := decide_eq_false c8
              clear c8
              by_cases c20 : (ji7) < (ji6)
              · rw [if_pos c20] at H
                have c20b0 : decide ((ji7) < (ji6)) = true := decide_eq_true c20
                clear c20
                obtain rfl := Option.some.inj H
                have p267 : 0 ≤ (x12_1 : Int) := of_decide_eq_true (by first | (with_reducible assumption) | assumption)
                have q267 : x12_1 < (l1.length : Int) := of_decide_eq_true (by first | (with_reducible assumption) | assumption)
                obtain ⟨ad267, e267, hx267_0⟩ := Kd.at_int HR1.out x12_1 p267 q267
                cases e267
                replace hx267_0 := (HB.out.cell (World.block_lt_of_cell? w _ hx267_0)).trans hx267_0
                replace p267 := eq_true p267
                replace q267 := eq_true q267
                go_wp2
                go_ret
                exact ⟨_, by first | rfl | (simp [errW_none, errW_some] <;> rfl) | (simp only [← hji6, ← hji7]; first | rfl | (simp [errW_none, errW_some] <;> rfl)) | (simp [*, errW_none, errW_some] <;> rfl), by (with_reducible repeat (first | apply Kd.R_alloc | apply Kd.R_drewN | apply Kd.R_drew)); exact HO_5.out, by repeat (first | (with_reducible first | exact HB.out | apply below_alloc | apply pw_below_drewN | apply below_drew1) | exact HB.out)⟩
              · rw [if_neg c20] at H
                have c20b0 : decide ((ji7) < (ji6)) = false := decide_eq_false c20
                clear c20
                have H' := Aside0.mk H
                clear H
                have p267 : 0 ≤ (x12_1 : Int) := of_decide_eq_true (by first | (with_reducible assumption) | assumption)
                have q267 : x12_1 < (l1.length : Int) := of_decide_eq_true (by first | (with_reducible assumption) | assumption)
                obtain ⟨ad267, e267, hx267_0⟩ := Kd.at_int HR1.out x12_1 p267 q267
                cases e267
                replace hx267_0 := (HB.out.cell (World.block_lt_of_cell? w _ hx267_0)).trans hx267_0
                replace p267 := eq_true p267
                replace q267 := eq_true q267
                go_wp2
                go_roundg k1
                case measure => have := HK1.out; omega
                case rel => exact ⟨(x5_1), (wrap64 (x6_1 + (ji7))), (wrap64 (x12_1 + 1)), (by first | rfl | (simp; done) | (simp only [← hji7] <;> (first | rfl | simp)) | (simp [*]; done)), (by first | rfl | (simp; done) | (simp [*]; done)), H', ⟨by have := HK1.out; omega⟩, ⟨by (with_reducible repeat (first | apply Kd.R_alloc | apply Kd.R_drewN | apply Kd.R_drew)); exact HO_5.out⟩, ⟨by repeat (first | (with_reducible first | exact HB.out | apply below_alloc | apply pw_below_drewN | apply below_drew1) | exact HB.out)⟩⟩
          · rw [if_neg c5] at H
            exact absurd H (by simp)
        · rw [if_neg c4] at H
          exact absurd H (by simp)
      · rw [if_neg c3] at H
        have c3b0 : decide (x12_1 < (l1.length : Int)) = false := decide_eq_false c3
        clear c3
        obtain rfl := Option.some.inj H
        go_wp2
        go_ret
        exact ⟨_, by first | rfl | (simp [errW_none, errW_some] <;> rfl) | (simp [*, errW_none, errW_some] <;> rfl), by (with_reducible repeat (first | apply Kd.R_alloc | apply Kd.R_drewN | apply Kd.R_drew)); exact HO_5.out, by repeat (first | (with_reducible first | exact HB.out | apply below_alloc | apply pw_below_drewN | apply below_drew1) | exact HB.out)⟩
end Go.Proofs.YtaageikelkcphaaGreatDoor.PFnPrefixesRead
