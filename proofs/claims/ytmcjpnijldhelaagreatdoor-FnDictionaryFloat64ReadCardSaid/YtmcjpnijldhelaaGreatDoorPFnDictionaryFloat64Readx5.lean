/- Printed by program out of the translation, and struck smaller. -/
import Derived.Test.YtmcjpnijldhelaaGreatDoorPFnDictionaryFloat64Readx0
namespace Go.Proofs.YtmcjpnijldhelaaGreatDoor.PFnDictionaryFloat64Read
open Go.RowKit Go.Proofs.YtmcjpnijldhelaaGreatDoorW.PrintWords Go.Proofs.YtmcjpnijldhelaaGreatDoorW.PrintLast Go.Proofs.YtmcjpnijldhelaaGreatDoorW.PrintMore
attribute [local go_sem] max2_int min2_int max_two min_two max_three min_three max_four min_four
set_option linter.unusedVariables false
set_option linter.unusedSimpArgs false
mutual
def spec_Batched.l0 : Nat → List Int → List Int → Int → List Int → Int → Int → Option (List Int × Bool)
  | 0, _, _, _, _, _, _ => none
  | k + 1, x0, x6, x7, x14, x15, x16 => if x16 < x15 then (if 0 ≤ x16 then (if x16 < (x14.length : Int) then (if (rd x14 x16) < 0 then (spec_Batched.j1 k x0 x6 x7 (rd x14 x16) (wrap64 (-(rd x14 x16))) x14 x15 x16) else (spec_Batched.j1 k x0 x6 x7 (rd x14 x16) (rd x14 x16) x14 x15 x16)) else (none)) else (none)) else (some (x6, true))
def spec_Batched.j1 : Nat → List Int → List Int → Int → Int → Int → List Int → Int → Int → Option (List Int × Bool)
  | 0, _, _, _, _, _, _, _, _ => none
  | k + 1, x0, x6, x7, x9, x10, x14, x15, x16 => if x10 < 0 then (spec_Batched.j2 k x0 x6 x7 x9 x10 x14 x15 x16 true) else (spec_Batched.j2 k x0 x6 x7 x9 x10 x14 x15 x16 (decide (x10 > (wrap64 ((x0.length : Int) - x7)))))
def spec_Batched.j2 : Nat → List Int → List Int → Int → Int → Int → List Int → Int → Int → Bool → Option (List Int × Bool)
  | 0, _, _, _, _, _, _, _, _, _ => none
  | k + 1, x0, x6, x7, x9, x10, x14, x15, x16, x34 => if x34 = true then (some (([] : List Int), false)) else (if x9 > 0 then (if 0 ≤ x7 then (if x7 ≤ (wrap64 (x7 + x9)) then (if (wrap64 (x7 + x9)) ≤ (x0.length : Int) then (if x6.length + ((x0.take ((wrap64 (x7 + x9)) : Int).toNat).drop (x7 : Int).toNat).length < 17592186044416 then (spec_Batched.l0 k x0 (x6 ++ ((x0.take ((wrap64 (x7 + x9)) : Int).toNat).drop (x7 : Int).toNat)) (wrap64 (x7 + x10)) x14 x15 (wrap64 (x16 + 1))) else (none)) else (none)) else (none)) else (none)) else (spec_Batched.l0 k x0 x6 (wrap64 (x7 + x10)) x14 x15 (wrap64 (x16 + 1))))
end
def spec_Batched.f (k : Nat) (l0 : List Int) (l1 : List Int) : Option (List Int × Bool) := if (l1.length : Int) > 50 then (some (([] : List Int), false)) else (spec_Batched.l0 k l0 ([] : List Int) 0 l1 (l1.length : Int) 0)
theorem spec_Batched.mono_l : ∀ k, (∀ y0 y1 y2 y3 y4 y5, LeO (spec_Batched.l0 k y0 y1 y2 y3 y4 y5) (spec_Batched.l0 (k + 1) y0 y1 y2 y3 y4 y5)) ∧ (∀ y0 y1 y2 y3 y4 y5 y6 y7, LeO (spec_Batched.j1 k y0 y1 y2 y3 y4 y5 y6 y7) (spec_Batched.j1 (k + 1) y0 y1 y2 y3 y4 y5 y6 y7)) ∧ (∀ y0 y1 y2 y3 y4 y5 y6 y7 y8, LeO (spec_Batched.j2 k y0 y1 y2 y3 y4 y5 y6 y7 y8) (spec_Batched.j2 (k + 1) y0 y1 y2 y3 y4 y5 y6 y7 y8))
  | 0 => ⟨fun _ _ _ _ _ _ r h => by simp [spec_Batched.l0] at h, fun _ _ _ _ _ _ _ _ r h => by simp [spec_Batched.j1] at h, fun _ _ _ _ _ _ _ _ _ r h => by simp [spec_Batched.j2] at h⟩
  | k + 1 => by
    obtain ⟨ih0, ih1, ih2⟩ := spec_Batched.mono_l k
    refine ⟨?_, ?_, ?_⟩
    · intro y0 y1 y2 y3 y4 y5
      unfold spec_Batched.l0
      repeat' first
      | (with_reducible exact ih0 _ _ _ _ _ _)
      | (with_reducible exact ih1 _ _ _ _ _ _ _ _)
      | (with_reducible exact ih2 _ _ _ _ _ _ _ _ _)
      | (with_reducible exact LeO.refl _)
      | (with_reducible exact LeO.none _)
      | (with_reducible refine LeO.ite ?_ ?_)
      | (with_reducible refine LeO.bind ?_ (fun _ => ?_))
      | exact ih0 _ _ _ _ _ _
      | exact ih1 _ _ _ _ _ _ _ _
      | exact ih2 _ _ _ _ _ _ _ _ _
      | exact LeO.none _
      | refine LeO.ite ?_ ?_
      | refine LeO.bind ?_ (fun _ => ?_)
    · intro y0 y1 y2 y3 y4 y5 y6 y7
      unfold spec_Batched.j1
      repeat' first
      | (with_reducible exact ih0 _ _ _ _ _ _)
      | (with_reducible exact ih1 _ _ _ _ _ _ _ _)
      | (with_reducible exact ih2 _ _ _ _ _ _ _ _ _)
      | (with_reducible exact LeO.refl _)
      | (with_reducible exact LeO.none _)
      | (with_reducible refine LeO.ite ?_ ?_)
      | (with_reducible refine LeO.bind ?_ (fun _ => ?_))
      | exact ih0 _ _ _ _ _ _
      | exact ih1 _ _ _ _ _ _ _ _
      | exact ih2 _ _ _ _ _ _ _ _ _
      | exact LeO.none _
      | refine LeO.ite ?_ ?_
      | refine LeO.bind ?_ (fun _ => ?_)
    · intro y0 y1 y2 y3 y4 y5 y6 y7 y8
      unfold spec_Batched.j2
      repeat' first
      | (with_reducible exact ih0 _ _ _ _ _ _)
      | (with_reducible exact ih1 _ _ _ _ _ _ _ _)
      | (with_reducible exact ih2 _ _ _ _ _ _ _ _ _)
      | (with_reducible exact LeO.refl _)
      | (with_reducible exact LeO.none _)
      | (with_reducible refine LeO.ite ?_ ?_)
      | (with_reducible refine LeO.bind ?_ (fun _ => ?_))
      | exact ih0 _ _ _ _ _ _
      | exact ih1 _ _ _ _ _ _ _ _
      | exact ih2 _ _ _ _ _ _ _ _ _
      | exact LeO.none _
      | refine LeO.ite ?_ ?_
      | refine LeO.bind ?_ (fun _ => ?_)
theorem spec_Batched.mono : ∀ a0 a1 k, LeO (spec_Batched.f k a0 a1) (spec_Batched.f (k + 1) a0 a1) := by
  intro a0 a1 k
  obtain ⟨ih0, ih1, ih2⟩ := spec_Batched.mono_l k
  unfold spec_Batched.f
  repeat' first
      | (with_reducible exact ih0 _ _ _ _ _ _)
      | (with_reducible exact ih1 _ _ _ _ _ _ _ _)
      | (with_reducible exact ih2 _ _ _ _ _ _ _ _ _)
      | (with_reducible exact LeO.refl _)
      | (with_reducible exact LeO.none _)
      | (with_reducible refine LeO.ite ?_ ?_)
      | (with_reducible refine LeO.bind ?_ (fun _ => ?_))
      | exact ih0 _ _ _ _ _ _
      | exact ih1 _ _ _ _ _ _ _ _
      | exact ih2 _ _ _ _ _ _ _ _ _
      | exact LeO.none _
      | refine LeO.ite ?_ ?_
      | refine LeO.bind ?_ (fun _ => ?_)
set_option maxHeartbeats 8000000 in
set_option maxRecDepth 100000 in
theorem spec_Batched.calls (k : Nat) (A0 : Option Addr) (c0 : Nat) (l0 : List Int) (A1 : Option Addr) (c1 : Nat) (l1 : List Int) (r1 : List Int) (r2 : Bool) (w : World) (hr0 : Kd.C (Kd.int .u64) w A0 l0.length l0) (hc0 : l0.length ≤ c0) (hr1 : Kd.C (Kd.int .i64) w A1 l1.length l1) (hc1 : l1.length ≤ c1) (h : spec_Batched.f k l0 l1 = some (r1, r2)) :
    Calls Tryz.prog 45 #[.slice A0 l0.length c0, .slice A1 l1.length c1] w fun e w' => ∃ v0_ : Value, e = .returned (.tuple #[v0_, .bool r2]) ∧ Kd.R (Kd.int .u64) 33 w' w.heap.size (fun _ => True) v0_ r1 ∧ Below w.heap.size w w' := by
  have HR0 := Aside0.mk hr0
  have HC0 := Aside0.mk hc0
  clear hr0 hc0
  have HR1 := Aside0.mk hr1
  have HC1 := Aside0.mk hc1
  clear hr1 hc1
  have HB := Aside0.mk (Below.refl w.heap.size w)
  have H : (if (l1.length : Int) > 50 then (some (([] : List Int), false)) else (spec_Batched.l0 k l0 ([] : List Int) 0 l1 (l1.length : Int) 0)) = some (r1, r2) := h
  clear h
  by_cases c3 : (l1.length : Int) > 50
  · rw [if_pos c3] at H
    have c3b0 : decide (50 < (l1.length : Int)) = true := decide_eq_true c3
    have c3b1 : decide (50 < l1.length) = true := decide_eq_true (by omega)
    clear c3
    simp only [Option.some.injEq, Prod.mk.injEq] at H
    obtain ⟨rfl, rfl⟩ := H
    go_enter Tryz.func45, Tryz.ntmps45
    go_wp2
    go_ret2
    exact ⟨_, by first | rfl | (simp [errW_none, errW_some] <;> rfl) | (simp [*, errW_none, errW_some] <;> rfl), by first | exact Kd.R_nil _ _ _ _ _ | exact Kd.N_nil _ _ _ _ _ | exact Kd.V_nil _ _ _ _ _ | exact Kd.Q_nil _ _ _ _ _ | exact Kd.S_nil _ _ _ _ _, by repeat (first | (with_reducible first | exact HB.out | apply below_alloc | apply pw_below_drewN | apply below_drew1) | exact HB.out)⟩
  · rw [if_neg c3] at H
    have c3b0 : decide (50 < (l1.length : Int)) = false := decide_eq_false c3
    have c3b1 : decide (50 < l1.length) = false := decide_eq_false (by omega)
    clear c3
    have H' := Aside0.mk H
    clear H
    go_enter Tryz.func45, Tryz.ntmps45
    go_wp2
    go_loopg [6, 7, 16] k (fun kq v6 v7 v16 w' => ∃ (x6_1 : List Int) (x7_1 : Int) (x16_1 : Int), v7 = .int .i64 x7_1 ∧ v16 = .int .i64 x16_1 ∧ Aside0 (spec_Batched.l0 kq l0 x6_1 x7_1 l1 (l1.length : Int) x16_1 = some (r1, r2)) ∧ Aside0 (kq ≤ k) ∧ Aside0 (Kd.R (Kd.int .u64) 33 w' w.heap.size (fun _ => True) v6 x6_1) ∧ Aside0 (Below w.heap.size w w'))
    case atStart => exact ⟨(([] : List Int)), (0), (0), (by first | rfl | (simp; done) | (simp [*]; done)), (by first | rfl | (simp; done) | (simp [*]; done)), H', ⟨Nat.le_refl _⟩, ⟨by first | exact Kd.R_nil _ _ _ _ _ | exact Kd.N_nil _ _ _ _ _ | exact Kd.V_nil _ _ _ _ _ | exact Kd.Q_nil _ _ _ _ _ | exact Kd.S_nil _ _ _ _ _⟩, ⟨by repeat (first | (with_reducible first | exact HB.out | apply below_alloc | apply pw_below_drewN | apply below_drew1) | exact HB.out)⟩⟩
    case round =>
      clear H'
      try clear c1
      try clear p2
      try clear c3
      try clear c3b0
      try clear c3b1
      obtain ⟨x6_1, x7_1, x16_1, rfl, rfl, HA, HK1, HO_6, HB⟩ := hrel
      cases gk with
      | zero => exact absurd HA.out (by simp [spec_Batched.l0])
      | succ k1 =>
        have H := HA.out
        clear HA
        simp only [spec_Batched.l0] at H
        by_cases c4 : x16_1 < (l1.length : Int)
        · rw [if_pos c4] at H
          have c4b0 : decide (x16_1 < (l1.length : Int)) = true := decide_eq_true c4
          clear c4
          by_cases c5 : 0 ≤ x16_1
          · rw [if_pos c5] at H
            have c5b0 : decide (0 ≤ x16_1) = true := decide_eq_true c5
            clear c5
            by_cases c6 : x16_1 < (l1.length : Int)
            · rw [if_pos c6] at H
              have c6b0 : decide (x16_1 < (l1.length : Int)) = true := decide_eq_true c6
              clear c6
              have HC7 := Aside0.mk H
              clear H
              have p211 : 0 ≤ (x16_1 : Int) := of_decide_eq_true (by first | (with_reducible assumption) | assumption)
              have q211 : x16_1 < (l1.length : Int) := of_decide_eq_true (by first | (with_reducible assumption) | assumption)
              obtain ⟨ad211, e211, hx211_0⟩ := Kd.at_int HR1.out x16_1 p211 q211
              cases e211
              replace hx211_0 := (HB.out.cell (World.block_lt_of_cell? w _ hx211_0)).trans hx211_0
              replace p211 := eq_true p211
              replace q211 := eq_true q211
              go_upto_if 22 with (fail)
              go_cut [10] (fun v10 wc => ∃ (kq : Nat) (x10_6 : Int), v10 = .int .i64 x10_6 ∧ Aside0 (spec_Batched.j1 kq l0 x6_1 x7_1 (rd l1 x16_1) x10_6 l1 (l1.length : Int) x16_1 = some (r1, r2)) ∧ Aside0 (kq ≤ k1) ∧ Aside0 (Kd.R (Kd.int .u64) 33 wc w.heap.size (fun _ => True) u6 x6_1) ∧ Aside0 (Below w.heap.size w wc))
              case first =>
                have H := HC7.out
                clear HC7
                by_cases c8 : (rd l1 x16_1) < 0
                · rw [if_pos c8] at H
                  have c8b0 : decide ((rd l1 x16_1) < 0) = true := decide_eq_true c8
                  clear c8
                  (first | rw [c8b0] | (simp only [i64_w, i32_w]; rw [c8b0]) | skip)
                  have H' := Aside0.mk H
                  clear H
                  go_wp2
                  go_meet
                  case rel => exact ⟨_, (wrap64 (-(rd l1 x16_1))), (by first | rfl | (simp; done) | (simp [*]; done)), H', ⟨by have := HK1.out; first | omega | exact Nat.le_refl _⟩, ⟨by (with_reducible repeat (first | apply Kd.R_alloc | apply Kd.R_drewN | apply Kd.R_drew)); exact HO_6.out⟩, ⟨by repeat (first | (with_reducible first | exact HB.out | apply below_alloc | apply pw_below_drewN | apply below_drew1) | exact HB.out)⟩⟩
                · rw [if_neg c8] at H
                  have c8b0 : decide ((rd l1 x16_1) < 0) = false := decide_eq_false c8
                  clear c8
                  (first | rw [c8b0] | (simp only [i64_w, i32_w]; rw [c8b0]) | skip)
                  have H' := Aside0.mk H
                  clear H
                  go_wp2
                  go_meet
                  case rel => exact ⟨_, (rd l1 x16_1), (by first | rfl | (simp; done) | (simp [*]; done)), H', ⟨by have := HK1.out; first | omega | exact Nat.le_refl _⟩, ⟨by (with_reducible repeat (first | apply Kd.R_alloc | apply Kd.R_drewN | apply Kd.R_drew)); exact HO_6.out⟩, ⟨by repeat (first | (with_reducible first | exact HB.out | apply below_alloc | apply pw_below_drewN | apply below_drew1) | exact HB.out)⟩⟩
              case rest =>
                clear HC7
                try clear c1
                try clear p2
                try clear q2
                try clear hx2
                try clear c3
                try clear c3b0
                try clear c3b1
                try clear c4
                try clear c4b0
                try clear c5
                try clear c5b0
                try clear c6
                try clear c6b0
                try clear p6
                try clear c8
                try clear c8b0
                try clear hx211_0
                try clear p2
                try clear p211
                try clear q211
                obtain ⟨kq, x10_6, rfl, HA, HJ6, HO_6, HB⟩ := hcut
                cases kq with
                | zero => exact absurd HA.out (by simp [spec_Batched.j1])
                | succ kj6 =>
                  have H := HA.out
                  clear HA
                  simp only [spec_Batched.j1] at H
                  have HC9 := Aside0.mk H
                  clear H
                  go_upto_region 11 with (fail)
                  go_cut [34] (fun v34 wc => ∃ (kq : Nat) (x34_8 : Bool), v34 = .bool x34_8 ∧ Aside0 (spec_Batched.j2 kq l0 x6_1 x7_1 (rd l1 x16_1) x10_6 l1 (l1.length : Int) x16_1 x34_8 = some (r1, r2)) ∧ Aside0 (kq ≤ kj6) ∧ Aside0 (Kd.R (Kd.int .u64) 33 wc w.heap.size (fun _ => True) u6 x6_1) ∧ Aside0 (Below w.heap.size w wc))
                  case first =>
                    have H := HC9.out
                    clear HC9
                    by_cases c10 : x10_6 < 0
                    · rw [if_pos c10] at H
                      have c10b0 : decide (x10_6 < 0) = true := decide_eq_true c10
                      clear c10
                      (first | rw [c10b0] | (simp only [i64_w, i32_w]; rw [c10b0]) | skip)
                      have H' := Aside0.mk H
                      clear H
                      go_wp2
                      go_meet
                      case rel => exact ⟨_, (true), (by first | rfl | (simp; done) | (simp [*]; done)), H', ⟨by have := HK1.out; have := HJ6.out; first | omega | exact Nat.le_refl _⟩, ⟨by (with_reducible repeat (first | apply Kd.R_alloc | apply Kd.R_drewN | apply Kd.R_drew)); exact HO_6.out⟩, ⟨by repeat (first | (with_reducible first | exact HB.out | apply below_alloc | apply pw_below_drewN | apply below_drew1) | exact HB.out)⟩⟩
                    · rw [if_neg c10] at H
                      have c10b0 : decide (x10_6 < 0) = false := decide_eq_false c10
                      clear c10
                      (first | rw [c10b0] | (simp only [i64_w, i32_w]; rw [c10b0]) | skip)
                      have H' := Aside0.mk H
                      clear H
                      go_wp2
                      go_meet
                      case rel => exact ⟨_, (decide (x10_6 > (wrap64 ((l0.length : Int) - x7_1)))), (by first | rfl | (simp; done) | (simp [*]; done)), H', ⟨by have := HK1.out; have := HJ6.out; first | omega | exact Nat.le_refl _⟩, ⟨by (with_reducible repeat (first | apply Kd.R_alloc | apply Kd.R_drewN | apply Kd.R_drew)); exact HO_6.out⟩, ⟨by repeat (first | (with_reducible first | exact HB.out | apply below_alloc | apply pw_below_drewN | apply below_drew1) | exact HB.out)⟩⟩
                  case rest =>
                    clear HC9
                    try clear c1
                    try clear p2
                    try clear q2
                    try clear hx2
                    try clear c3
                    try clear c3b0
                    try clear c3b1
                    try clear c4
                    try clear c4b0
                    try clear c5
                    try clear c5b0
                    try clear c6
                    try clear c6b0
                    try clear p6
                    try clear c8
                    try clear c8b0
                    try clear c10
                    try clear c10b0
                    try clear hx211_0
                    try clear p2
                    try clear p211
                    try clear p6
                    try clear q2
                    try clear q211
                    obtain ⟨kq, x34_8, rfl, HA, HJ8, HO_6, HB⟩ := hcut
                    cases kq with
                    | zero => exact absurd HA.out (by simp [spec_Batched.j2])
                    | succ kj8 =>
                      have H := HA.out
                      clear HA
                      simp only [spec_Batched.j2] at H
                      by_cases c11 : x34_8 = true
                      · subst c11
                        have H1 : (some (([] : List Int), false)) = some (r1, r2) := by rw [if_pos rfl] at H; exact H
                        clear H
                        have H := H1
                        clear H1
                        simp only [Option.some.injEq, Prod.mk.injEq] at H
                        obtain ⟨rfl, rfl⟩ := H
                        go_wp2
                        go_ret2
                        exact ⟨_, by first | rfl | (simp [errW_none, errW_some] <;> rfl) | (simp [*, errW_none, errW_some] <;> rfl), by first | exact Kd.R_nil _ _ _ _ _ | exact Kd.N_nil _ _ _ _ _ | exact Kd.V_nil _ _ _ _ _ | exact Kd.Q_nil _ _ _ _ _ | exact Kd.S_nil _ _ _ _ _, by repeat (first | (with_reducible first | exact HB.out | apply below_alloc | apply pw_below_drewN | apply below_drew1) | exact HB.out)⟩
                      · replace c11 := Bool.eq_false_iff.mpr c11
                        subst c11
                        have H1 : (if (rd l1 x16_1) > 0 then (if 0 ≤ x7_1 then (if x7_1 ≤ (wrap64 (x7_1 + (rd l1 x16_1))) then (if (wrap64 (x7_1 + (rd l1 x16_1))) ≤ (l0.length : Int) then (if x6_1.length + ((l0.take ((wrap64 (x7_1 + (rd l1 x16_1))) : Int).toNat).drop (x7_1 : Int).toNat).length < 17592186044416 then (spec_Batched.l0 kj8 l0 (x6_1 ++ ((l0.take ((wrap64 (x7_1 + (rd l1 x16_1))) : Int).toNat).drop (x7_1 : Int).toNat)) (wrap64 (x7_1 + x10_6)) l1 (l1.length : Int) (wrap64 (x16_1 + 1))) else (none)) else (none)) else (none)) else (none)) else (spec_Batched.l0 kj8 l0 x6_1 (wrap64 (x7_1 + x10_6)) l1 (l1.length : Int) (wrap64 (x16_1 + 1)))) = some (r1, r2) := by rw [if_neg (show ¬ (false = true) by decide)] at H; exact H
                        clear H
                        have H := H1
                        clear H1
                        by_cases c12 : (rd l1 x16_1) > 0
                        · rw [if_pos c12] at H
                          have c12b0 : decide (0 < (rd l1 x16_1)) = true := decide_eq_true c12
                          clear c12
                          by_cases c13 : 0 ≤ x7_1
                          · rw [if_pos c13] at H
                            have c13b0 := eq_true c13
                            have c13b1 : decide (0 ≤ x7_1) = true := decide_eq_true c13
                            clear c13
                            by_cases c14 : x7_1 ≤ (wrap64 (x7_1 + (rd l1 x16_1)))
                            · rw [if_pos c14] at H
                              have c14b0 := eq_true c14
                              have c14b1 : decide (x7_1 ≤ (wrap64 (x7_1 + (rd l1 x16_1)))) = true := decide_eq_true c14
                              by_cases c15 : (wrap64 (x7_1 + (rd l1 x16_1))) ≤ (l0.length : Int)
                              · rw [if_pos c15] at H
                                have c15b0 := eq_true c15
                                have c15b1 : decide ((wrap64 (x7_1 + (rd l1 x16_1))) ≤ (l0.length : Int)) = true := decide_eq_true c15
                                by_cases c16 : x6_1.length + ((l0.take ((wrap64 (x7_1 + (rd l1 x16_1))) : Int).toNat).drop (x7_1 : Int).toNat).length < 17592186044416
                                · rw [if_pos c16] at H
                                  have LMc16 := Aside0.mk c16
                                  clear c16
                                  obtain ⟨y213, hy213⟩ : ∃ y_ : List Int, y_ = (x6_1 ++ ((l0.take ((wrap64 (x7_1 + (rd l1 x16_1))) : Int).toNat).drop (x7_1 : Int).toNat)) := ⟨_, rfl⟩
                                  replace H : (spec_Batched.l0 kj8 l0 y213 (wrap64 (x7_1 + x10_6)) l1 (l1.length : Int) (wrap64 (x16_1 + 1))) = some (r1, r2) := by first | (rw [hy213]; with_reducible exact H) | (have H2_ := (Option.bind_some _ _).symm.trans H; rw [hy213]; with_reducible exact H2_) | (have H2_ := (Option.bind_some _ _).symm.trans H; with_reducible exact H2_) | with_reducible exact H | (rw [hy213]; exact H) | exact H
                                  have Ny213 := Aside0.mk hy213
                                  clear hy213
                                  have H' := Aside0.mk H
                                  clear H
                                  obtain ⟨i017, hi017, _, hsz17, _⟩ := info_parts info33
                                  obtain ⟨A17, hcut17, hA17, hC17⟩ := print_mid_of (P := Tryz.prog) (Value.int .u64) 0 37 33 .i64 .i64 Tryz.underlying37 hi017 hsz17 A0 c0 l0 x7_1 (wrap64 (x7_1 + (rd l1 x16_1))) (of_decide_eq_true (by first | (with_reducible assumption) | assumption)) (by first | omega | exact of_decide_eq_true (by first | (with_reducible assumption) | assumption)) (of_decide_eq_true (by first | (with_reducible assumption) | assumption)) HC0.out
                                  have HR212 := Aside0.mk (Kd.C_of_reads (h1 := fun _ => rfl) (hA17 _ (Kd.reads_of_C HR0.out)))
                                  have HC212 := Aside0.mk hC17
                                  clear hA17 hC17 hi017 hsz17
                                  go_wp2_with (first | ((with_reducible refine gate_builtin (b := .append) (xs := #[.tmp 37, .tmp 43]) rfl ?_); (try (refine gate_guard (by rfl) ?_; dsimp only)); at_builtin; refine Kd.R_append_rows (Kd.int .u64) (w0 := w) w.heap.size rfl (.tmp 37) (.tmp 43) 37 33 (.int .u64 0) 8 rfl Tryz.underlying37 info33 rfl (by decide) (by omega) u6 x6_1 ((l0.take ((wrap64 (x7_1 + (rd l1 x16_1))) : Int).toNat).drop (x7_1 : Int).toNat) _ _ _ (fun _ => True) (fun _ => False) rfl rfl ?aO ?aR (fun _ _ h => h) (fun _ h => h.elim) ?aF ?aB ?aS ?aL ?_; (case aR => first | (rw [← show ((l0.take ((wrap64 (x7_1 + (rd l1 x16_1))) : Int).toNat).drop (x7_1 : Int).toNat).length = ((wrap64 (x7_1 + (rd l1 x16_1))).toNat - x7_1.toNat) from (by rw [List.length_drop, List.length_take]; have h_ : ((wrap64 (x7_1 + (rd l1 x16_1))) : Int) ≤ (l0.length : Int) := of_decide_eq_true (by first | (with_reducible assumption) | assumption); omega)]; repeat (first | exact (Kd.C_below HR212.out HB.out) | (with_reducible refine Kd.C_alloc ?_ _) | (with_reducible refine Kd.C_drewN ?_ _) | (with_reducible refine Kd.C_drew ?_))) | (repeat (first | exact (Kd.C_below HR212.out HB.out) | (with_reducible refine Kd.C_alloc ?_ _) | (with_reducible refine Kd.C_drewN ?_ _) | (with_reducible refine Kd.C_drew ?_)))); (case aB => exact (by repeat (first | (with_reducible first | exact HB.out | apply below_alloc | apply pw_below_drewN | apply below_drew1) | exact HB.out))); (case aF => exact (fun _ _ => trivial)); (case aO => exact (by (with_reducible repeat (first | apply Kd.R_alloc | apply Kd.R_drewN | apply Kd.R_drew)); exact HO_6.out)); (case aS => exact (below_size (by repeat (first | (with_reducible first | exact HB.out | apply below_alloc | apply pw_below_drewN | apply below_drew1) | exact HB.out)))); (case aL => have := LMc16.out; have hlx_ := (show ((l0.take ((wrap64 (x7_1 + (rd l1 x16_1))) : Int).toNat).drop (x7_1 : Int).toNat).length = ((wrap64 (x7_1 + (rd l1 x16_1))).toNat - x7_1.toNat) from (by rw [List.length_drop, List.length_take]; have h_ : ((wrap64 (x7_1 + (rd l1 x16_1))) : Int) ≤ (l0.length : Int) := of_decide_eq_true (by first | (with_reducible assumption) | assumption); omega)); omega); intro v214 w18 ho hb hg hat; rw [← Ny213.out] at ho; have n0_ := Aside0.mk (hb); have n1_ := Aside0.mk (ho); clear HB; clear HO_6; have HB := n0_; have HO215 := n1_; clear n0_ n1_; clear ho hb hg hat))
                                  go_roundg kj8
                                  case measure => have := HK1.out; have := HJ6.out; have := HJ8.out; omega
                                  case rel => exact ⟨(y213), (wrap64 (x7_1 + x10_6)), (wrap64 (x16_1 + 1)), (by first | rfl | (simp; done) | (simp [*]; done)), (by first | rfl | (simp; done) | (simp [*]; done)), H', ⟨by have := HK1.out; have := HJ6.out; have := HJ8.out; omega⟩, ⟨by (with_reducible repeat (first | apply Kd.R_alloc | apply Kd.R_drewN | apply Kd.R_drew)); exact HO215.out⟩, ⟨by repeat (first | (with_reducible first | exact HB.out | apply below_alloc | apply pw_below_drewN | apply below_drew1) | exact HB.out)⟩⟩
                                · rw [if_neg c16] at H
                                  exact absurd H (by simp)
                              · rw [if_neg c15] at H
                                exact absurd H (by simp)
                            · rw [if_neg c14] at H
                              exact absurd H (by simp)
                          · rw [if_neg c13] at H
                            exact absurd H (by simp)
                        · rw [if_neg c12] at H
                          have c12b0 : decide (0 < (rd l1 x16_1)) = false := decide_eq_false c12
                          clear c12
                          have H' := Aside0.mk H
                          clear H
                          go_wp2
                          go_roundg kj8
                          case measure => have := HK1.out; have := HJ6.out; have := HJ8.out; omega
                          case rel => exact ⟨(x6_1), (wrap64 (x7_1 + x10_6)), (wrap64 (x16_1 + 1)), (by first | rfl | (simp; done) | (simp [*]; done)), (by first | rfl | (simp; done) | (simp [*]; done)), H', ⟨by have := HK1.out; have := HJ6.out; have := HJ8.out; omega⟩, ⟨by (with_reducible repeat (first | apply Kd.R_alloc | apply Kd.R_drewN | apply Kd.R_drew)); exact HO_6.out⟩, ⟨by repeat (first | (with_reducible first | exact HB.out | apply below_alloc | apply pw_below_drewN | apply below_drew1) | exact HB.out)⟩⟩
            · rw [if_neg c6] at H
              exact absurd H (by simp)
          · rw [if_neg c5] at H
            exact absurd H (by simp)
        · rw [if_neg c4] at H
          have c4b0 : decide (x16_1 < (l1.length : Int)) = false := decide_eq_false c4
          clear c4
          simp only [Option.some.injEq, Prod.mk.injEq] at H
          obtain ⟨rfl, rfl⟩ := H
          go_wp2
          go_ret2
          exact ⟨_, by first | rfl | (simp [errW_none, errW_some] <;> rfl) | (simp [*, errW_none, errW_some] <;> rfl), by (with_reducible repeat (first | apply Kd.R_alloc | apply Kd.R_drewN | apply Kd.R_drew)); exact HO_6.out, by repeat (first | (with_reducible first | exact HB.out | apply below_alloc | apply pw_below_drewN | apply below_drew1) | exact HB.out)⟩
def spec_Counted0.l0 : Nat → Int → List Int → Int → Option (List Int)
  | 0, _, _, _ => none
  | k + 1, x0, x3, x4 => if x4 < x0 then (if x3.length < 17592186044416 then (spec_Counted0.l0 k x0 (x3 ++ [IntKind.u64.wrap (x4)]) (wrap64 (x4 + 1))) else (none)) else (some x3)
def spec_Counted0.f (k : Nat) (a0 : Int) : Option (List Int) := spec_Counted0.l0 k a0 ([] : List Int) 0
theorem spec_Counted0.mono_l : ∀ k, (∀ y0 y1 y2, LeO (spec_Counted0.l0 k y0 y1 y2) (spec_Counted0.l0 (k + 1) y0 y1 y2))
  | 0 => fun _ _ _ r h => by simp [spec_Counted0.l0] at h
  | k + 1 => by
    have ih0 := spec_Counted0.mono_l k
    · intro y0 y1 y2
      unfold spec_Counted0.l0
      repeat' first
      | (with_reducible exact ih0 _ _ _)
      | (with_reducible exact LeO.refl _)
      | (with_reducible exact LeO.none _)
      | (with_reducible refine LeO.ite ?_ ?_)
      | (with_reducible refine LeO.bind ?_ (fun _ => ?_))
      | exact ih0 _ _ _
      | exact LeO.none _
      | refine LeO.ite ?_ ?_
      | refine LeO.bind ?_ (fun _ => ?_)
theorem spec_Counted0.mono : ∀ a0 k, LeO (spec_Counted0.f k a0) (spec_Counted0.f (k + 1) a0) := by
  intro a0 k
  have ih0 := spec_Counted0.mono_l k
  unfold spec_Counted0.f
  repeat' first
      | (with_reducible exact ih0 _ _ _)
      | (with_reducible exact LeO.refl _)
      | (with_reducible exact LeO.none _)
      | (with_reducible refine LeO.ite ?_ ?_)
      | (with_reducible refine LeO.bind ?_ (fun _ => ?_))
      | exact ih0 _ _ _
      | exact LeO.none _
      | refine LeO.ite ?_ ?_
      | refine LeO.bind ?_ (fun _ => ?_)
set_option maxHeartbeats 8000000 in
set_option maxRecDepth 100000 in
theorem spec_Counted0.calls (k : Nat) (a0 : Int) (r : List Int) (w : World) (h : spec_Counted0.f k a0 = some r) :
    Calls Tryz.prog 46 #[.int .i64 a0] w fun e w' => ∃ v0_ : Value, e = .returned (v0_) ∧ Kd.R (Kd.int .u64) 33 w' w.heap.size (fun _ => True) v0_ r ∧ Below w.heap.size w w' := by
  have HB := Aside0.mk (Below.refl w.heap.size w)
  have H : (spec_Counted0.l0 k a0 ([] : List Int) 0) = some r := h
  clear h
  have H' := Aside0.mk H
  clear H
  go_enter Tryz.func46, Tryz.ntmps46
  go_wp2
  go_loopg [3, 4] k (fun kq v3 v4 w' => ∃ (x3_1 : List Int) (x4_1 : Int), v4 = .int .i64 x4_1 ∧ Aside0 (spec_Counted0.l0 kq a0 x3_1 x4_1 = some r) ∧ Aside0 (kq ≤ k) ∧ Aside0 (Kd.R (Kd.int .u64) 33 w' w.heap.size (fun _ => True) v3 x3_1) ∧ Aside0 (Below w.heap.size w w'))
  case atStart => exact ⟨(([] : List Int)), (0), (by first | rfl | (simp; done) | (simp [*]; done)), H', ⟨Nat.le_refl _⟩, ⟨by first | exact Kd.R_nil _ _ _ _ _ | exact Kd.N_nil _ _ _ _ _ | exact Kd.V_nil _ _ _ _ _ | exact Kd.Q_nil _ _ _ _ _ | exact Kd.S_nil _ _ _ _ _⟩, ⟨by repeat (first | (with_reducible first | exact HB.out | apply below_alloc | apply pw_below_drewN | apply below_drew1) | exact HB.out)⟩⟩
  case round =>
    clear H'
    obtain ⟨x3_1, x4_1, rfl, HA, HK1, HO_3, HB⟩ := hrel
    cases gk with
    | zero => exact absurd HA.out (by simp [spec_Counted0.l0])
    | succ k1 =>
      have H := HA.out
      clear HA
      simp only [spec_Counted0.l0] at H
      by_cases c2 : x4_1 < a0
      · rw [if_pos c2] at H
        have c2b0 : decide (x4_1 < a0) = true := decide_eq_true c2
        clear c2
        by_cases c3 : x3_1.length < 17592186044416
        · rw [if_pos c3] at H
          have LMc3 := Aside0.mk c3
          clear c3
          obtain ⟨y216, hy216⟩ : ∃ y_ : List Int, y_ = (x3_1 ++ [IntKind.u64.wrap (x4_1)]) := ⟨_, rfl⟩
          replace H : (spec_Counted0.l0 k1 a0 y216 (wrap64 (x4_1 + 1))) = some r := by first | (rw [hy216]; with_reducible exact H) | (have H2_ := (Option.bind_some _ _).symm.trans H; rw [hy216]; with_reducible exact H2_) | (have H2_ := (Option.bind_some _ _).symm.trans H; with_reducible exact H2_) | with_reducible exact H | (rw [hy216]; exact H) | exact H
          have Ny216 := Aside0.mk hy216
          clear hy216
          have H' := Aside0.mk H
          clear H
          go_wp2_with (first | ((with_reducible refine gate_builtin (b := .append) (xs := #[.tmp 10, .tmp 13]) rfl ?_); at_builtin; refine Kd.R_append (Kd.int .u64) (w0 := w) w.heap.size rfl (.tmp 10) (.tmp 13) 37 33 (.int .u64 0) 8 rfl Tryz.underlying37 info33 rfl (by decide) (by omega) u3 x3_1 (IntKind.u64.wrap (x4_1)) [.int .u64 (IntKind.u64.wrap (x4_1))] (fun _ => True) (fun _ => False) rfl rfl ?aP (fun _ hk => hk.elim) ?aF ?aO ?aB ?aS ?aL ?_; (case aP => exact rfl); (case aB => exact (by repeat (first | (with_reducible first | exact HB.out | apply below_alloc | apply pw_below_drewN | apply below_drew1) | exact HB.out))); (case aF => exact (fun _ _ => trivial)); (case aO => exact (by (with_reducible repeat (first | apply Kd.R_alloc | apply Kd.R_drewN | apply Kd.R_drew)); exact HO_3.out)); (case aS => exact (below_size (by repeat (first | (with_reducible first | exact HB.out | apply below_alloc | apply pw_below_drewN | apply below_drew1) | exact HB.out)))); (case aL => have := LMc3.out; omega); intro v217 w4 ho hb hg hat; rw [← Ny216.out] at ho; have n0_ := Aside0.mk (hb); have n1_ := Aside0.mk (ho); clear HB; clear HO_3; have HB := n0_; have HO218 := n1_; clear n0_ n1_; clear ho hb hg hat))
          go_roundg k1
          case measure => have := HK1.out; omega
          case rel => exact ⟨(y216), (wrap64 (x4_1 + 1)), (by first | rfl | (simp; done) | (simp [*]; done)), H', ⟨by have := HK1.out; omega⟩, ⟨by (with_reducible repeat (first | apply Kd.R_alloc | apply Kd.R_drewN | apply Kd.R_drew)); exact HO218.out⟩, ⟨by repeat (first | (with_reducible first | exact HB.out | apply below_alloc | apply pw_below_drewN | apply below_drew1) | exact HB.out)⟩⟩
        · rw [if_neg c3] at H
          exact absurd H (by simp)
      · rw [if_neg c2] at H
        have c2b0 : decide (x4_1 < a0) = false := decide_eq_false c2
        clear c2
        obtain rfl := Option.some.inj H
        go_wp2
        go_ret
        exact ⟨_, by first | rfl | (simp [errW_none, errW_some] <;> rfl) | (simp [*, errW_none, errW_some] <;> rfl), by (with_reducible repeat (first | apply Kd.R_alloc | apply Kd.R_drewN | apply Kd.R_drew)); exact HO_3.out, by repeat (first | (with_reducible first | exact HB.out | apply below_alloc | apply pw_below_drewN | apply below_drew1) | exact HB.out)⟩
def spec_BatchedValues.l0 : Nat → List (S35) → List (S35) → List Int → Int → Int → Option ((List (S35)) × Bool)
  | 0, _, _, _, _, _ => none
  | k + 1, x0, x8, x21, x22, x23 => if x23 < x22 then (if 0 ≤ x23 then (if x23 < (x21.length : Int) then (if 0 ≤ (rd x21 x23) then (if (rd x21 x23) < (x0.length : Int) then (if x8.length < 2513169434916 then (spec_BatchedValues.l0 k x0 (x8 ++ [(⟨(rd_T35 x0 (rd x21 x23)).f0, (rd_T35 x0 (rd x21 x23)).f1, (rd_T35 x0 (rd x21 x23)).f2, (rd_T35 x0 (rd x21 x23)).f3⟩ : S35)]) x21 x22 (wrap64 (x23 + 1))) else (none)) else (none)) else (none)) else (none)) else (none)) else (some (x8, true))
def spec_BatchedValues.f (k : Nat) (l0 : List (S35)) (l1 : List Int) : Option ((List (S35)) × Bool) := (spec_Counted0.f k (l0.length : Int)).bind fun t219 => ((spec_Batched.f k t219 l1).bind fun bt222 => (if bt222.2 = true then (spec_BatchedValues.l0 k l0 ([] : List (S35)) bt222.1 (bt222.1.length : Int) 0) else (some (([] : List (S35)), false))))
theorem spec_BatchedValues.mono_l : ∀ k, (∀ y0 y1 y2 y3 y4, LeO (spec_BatchedValues.l0 k y0 y1 y2 y3 y4) (spec_BatchedValues.l0 (k + 1) y0 y1 y2 y3 y4))
  | 0 => fun _ _ _ _ _ r h => by simp [spec_BatchedValues.l0] at h
  | k + 1 => by
    have ih0 := spec_BatchedValues.mono_l k
    · intro y0 y1 y2 y3 y4
      unfold spec_BatchedValues.l0
      repeat' first
      | (with_reducible exact ih0 _ _ _ _ _)
      | (with_reducible exact spec_Batched.mono _ _ _)
      | (with_reducible exact spec_Counted0.mono _ _)
      | (with_reducible exact LeO.refl _)
      | (with_reducible exact LeO.none _)
      | (with_reducible refine LeO.ite ?_ ?_)
      | (with_reducible refine LeO.bind ?_ (fun _ => ?_))
      | exact ih0 _ _ _ _ _
      | exact spec_Batched.mono _ _ _
      | exact spec_Counted0.mono _ _
      | exact LeO.none _
      | refine LeO.ite ?_ ?_
      | refine LeO.bind ?_ (fun _ => ?_)
theorem spec_BatchedValues.mono : ∀ a0 a1 k, LeO (spec_BatchedValues.f k a0 a1) (spec_BatchedValues.f (k + 1) a0 a1) := by
  intro a0 a1 k
  have ih0 := spec_BatchedValues.mono_l k
  unfold spec_BatchedValues.f
  repeat' first
      | (with_reducible exact ih0 _ _ _ _ _)
      | (with_reducible exact spec_Batched.mono _ _ _)
      | (with_reducible exact spec_Counted0.mono _ _)
      | (with_reducible exact LeO.refl _)
      | (with_reducible exact LeO.none _)
      | (with_reducible refine LeO.ite ?_ ?_)
      | (with_reducible refine LeO.bind ?_ (fun _ => ?_))
      | exact ih0 _ _ _ _ _
      | exact spec_Batched.mono _ _ _
      | exact spec_Counted0.mono _ _
      | exact LeO.none _
      | refine LeO.ite ?_ ?_
      | refine LeO.bind ?_ (fun _ => ?_)
set_option maxHeartbeats 8000000 in
set_option maxRecDepth 100000 in
theorem spec_BatchedValues.calls (k : Nat) (P0_ : Nat → Prop) (A0 : Option Addr) (c0 : Nat) (l0 : List (S35)) (A1 : Option Addr) (c1 : Nat) (l1 : List Int) (r1 : List (S35)) (r2 : Bool) (w : World) (hs0 : Kd.V k35 35 w w.heap.size (fun k_ => P0_ k_) (.slice A0 l0.length c0) l0) (hr1 : Kd.C (Kd.int .i64) w A1 l1.length l1) (hc1 : l1.length ≤ c1) (h : spec_BatchedValues.f k l0 l1 = some (r1, r2)) :
    Calls Tryz.prog 18 #[.slice A0 l0.length c0, .slice A1 l1.length c1] w fun e w' => ∃ v0_ : Value, e = .returned (.tuple #[v0_, .bool r2]) ∧ Kd.N k35 35 w' w.heap.size (fun k_ => (P0_ k_ ∨ w.heap.size ≤ k_)) v0_ r1 ∧ Below w.heap.size w w' := by
  have hu35 := Tryz.underlying35
  have HO0 := Aside0.mk (show Kd.V k35 35 w w.heap.size (fun k_ => (P0_ k_ ∨ w.heap.size ≤ k_)) (.slice A0 l0.length c0) l0 from Kd.V_mono hs0 (fun k_ hk => .inl hk))
  have HR1 := Aside0.mk hr1
  have HC1 := Aside0.mk hc1
  clear hr1 hc1
  have HB := Aside0.mk (Below.refl w.heap.size w)
  have H : ((spec_Counted0.f k (l0.length : Int)).bind fun t219 => ((spec_Batched.f k t219 l1).bind fun bt222 => (if bt222.2 = true then (spec_BatchedValues.l0 k l0 ([] : List (S35)) bt222.1 (bt222.1.length : Int) 0) else (some (([] : List (S35)), false))))) = some (r1, r2) := h
  clear h
  replace H := Option.bind_eq_some_iff.mp H
  obtain ⟨t219, A30, H⟩ := H
  replace H : ((spec_Batched.f k t219 l1).bind fun bt222 => (if bt222.2 = true then (spec_BatchedValues.l0 k l0 ([] : List (S35)) bt222.1 (bt222.1.length : Int) 0) else (some (([] : List (S35)), false)))) = some (r1, r2) := H
  have A3 := Aside0.mk A30
  clear A30
  replace H := Option.bind_eq_some_iff.mp H
  obtain ⟨⟨t222, t223⟩, A40, H⟩ := H
  replace H : (if t223 = true then (spec_BatchedValues.l0 k l0 ([] : List (S35)) t222 (t222.length : Int) 0) else (some (([] : List (S35)), false))) = some (r1, r2) := H
  have A4 := Aside0.mk A40
  clear A40
  by_cases c5 : t223 = true
  · subst c5
    have H1 : (spec_BatchedValues.l0 k l0 ([] : List (S35)) t222 (t222.length : Int) 0) = some (r1, r2) := by rw [if_pos rfl] at H; exact H
    clear H
    have H := H1
    clear H1
    have H' := Aside0.mk H
    clear H
    go_enter Tryz.func18, Tryz.ntmps18
    go_wp2_with (first | ((with_reducible refine gate_callee (f := 46) rfl ?_); refine goesL_ (some 14) rfl rfl Tryz.func46 (by kernel_rfl) rfl #[.int .i64 (l0.length : Int)] rfl (by (try simp only [List.map_toArray, List.map_cons, List.map_nil]); first | done | rfl | (simp only [List.length_drop, List.length_take]; rfl)) ?_; (with_reducible refine (spec_Counted0.calls k (l0.length : Int) t219 _ A3.out).mono ?_); rintro e w6 ⟨v220, rfl, ho0, hb⟩; refine ⟨_, rfl, ?_⟩; have n0_ := Aside0.mk (Kd.V_elder' (by (with_reducible repeat (first | apply Kd.V_alloc | apply Kd.V_drewN | apply Kd.V_drew)); exact HO0.out) (Kd.R_base ho0) hb); have n1_ := Aside0.mk (Kd.R_lower (Kd.R_newM (M := fun k_ => (w.heap.size ≤ k_)) ho0 (below_size (by repeat (first | (with_reducible first | exact HB.out | apply below_alloc | apply pw_below_drewN | apply below_drew1) | exact HB.out))) (fun k_ h_ => h_)) (below_size (by repeat (first | (with_reducible first | exact HB.out | apply below_alloc | apply pw_below_drewN | apply below_drew1) | exact HB.out)))); have n2_ := Aside0.mk (below_step (by repeat (first | (with_reducible first | exact HB.out | apply below_alloc | apply pw_below_drewN | apply below_drew1) | exact HB.out)) hb); clear HO0; clear HB; have HO0 := n0_; have HO221 := n1_; have HB := n2_; clear n0_ n1_ n2_; (try clear hb); (try clear hb2); (try clear hk); (try clear hi); (try clear ho0); obtain ⟨Ao7, co7, eo7⟩ := Kd.R_slice HO221.out; subst eo7) | ((with_reducible refine gate_callee (f := 45) rfl ?_); refine goesL_ (some 16) rfl rfl Tryz.func45 (by kernel_rfl) rfl #[.slice Ao7 t219.length co7, .slice A1 l1.length c1] rfl (by (try simp only [List.map_toArray, List.map_cons, List.map_nil]); first | done | rfl | (simp only [List.length_drop, List.length_take]; rfl)) ?_; (with_reducible refine (spec_Batched.calls k _ _ t219 _ _ l1 t222 true _ ?side1 ?side2 ?side3 ?side4 A4.out).mono ?_); (case side1 => repeat (first | exact (Kd.R_reads' HO221.out).2.2 | (with_reducible refine Kd.C_alloc ?_ _) | (with_reducible refine Kd.C_drewN ?_ _) | (with_reducible refine Kd.C_drew ?_))); (case side2 => exact (Kd.R_reads' HO221.out).2.1); (case side3 => repeat (first | exact (Kd.C_below HR1.out HB.out) | (with_reducible refine Kd.C_alloc ?_ _) | (with_reducible refine Kd.C_drewN ?_ _) | (with_reducible refine Kd.C_drew ?_))); (case side4 => exact HC1.out); rintro e w8 ⟨v224, rfl, ho0, hb⟩; refine ⟨_, rfl, ?_⟩; have n0_ := Aside0.mk (Kd.V_elder' (by (with_reducible repeat (first | apply Kd.V_alloc | apply Kd.V_drewN | apply Kd.V_drew)); exact HO0.out) (Kd.R_base ho0) hb); have n1_ := Aside0.mk (Kd.R_elder' (by (with_reducible repeat (first | apply Kd.R_alloc | apply Kd.R_drewN | apply Kd.R_drew)); exact HO221.out) (Kd.R_base ho0) hb); have n2_ := Aside0.mk (Kd.R_lower (Kd.R_new' (Kd.R_newM (M := fun k_ => (w.heap.size ≤ k_)) ho0 (below_size (by repeat (first | (with_reducible first | exact HB.out | apply below_alloc | apply pw_below_drewN | apply below_drew1) | exact HB.out))) (fun k_ h_ => h_)) (Kd.R_lt (by (with_reducible repeat (first | apply Kd.R_alloc | apply Kd.R_drewN | apply Kd.R_drew)); exact HO221.out))) (below_size (by repeat (first | (with_reducible first | exact HB.out | apply below_alloc | apply pw_below_drewN | apply below_drew1) | exact HB.out)))); have n3_ := Aside0.mk (below_step (by repeat (first | (with_reducible first | exact HB.out | apply below_alloc | apply pw_below_drewN | apply below_drew1) | exact HB.out)) hb); clear HO0; clear HO221; clear HB; have HO0 := n0_; have HO221 := n1_; have HO225 := n2_; have HB := n3_; clear n0_ n1_ n2_ n3_; (try clear hb); (try clear hb2); (try clear hk); (try clear hi); (try clear ho0); obtain ⟨Ao9, co9, eo9⟩ := Kd.R_slice HO225.out; subst eo9))
    go_loopg [8, 23] k (fun kq v8 v23 w' => ∃ (x8_1 : List (S35)) (x23_1 : Int), v23 = .int .i64 x23_1 ∧ Aside0 (spec_BatchedValues.l0 kq l0 x8_1 t222 (t222.length : Int) x23_1 = some (r1, r2)) ∧ Aside0 (kq ≤ k) ∧ Aside0 (Kd.V k35 35 w' w.heap.size (fun k_ => (P0_ k_ ∨ w.heap.size ≤ k_) ∧ some k_ ≠ (v8 : Value).ownBlock ∧ some k_ ≠ ((.slice Ao9 t222.length co9) : Value).ownBlock) (.slice A0 l0.length c0) l0) ∧ Aside0 (Kd.N k35 35 w' w.heap.size (fun k_ => (P0_ k_ ∨ w.heap.size ≤ k_) ∧ some k_ ≠ ((.slice Ao9 t222.length co9) : Value).ownBlock) v8 x8_1) ∧ Aside0 (Kd.R (Kd.int .u64) 33 w' w.heap.size (fun k_ => (w.heap.size ≤ k_)) (.slice Ao9 t222.length co9) t222) ∧ Aside0 (Below w.heap.size w w'))
    case atStart => exact ⟨(([] : List (S35))), (0), (by first | rfl | (simp; done) | (simp [*]; done)), H', ⟨Nat.le_refl _⟩, ⟨by (with_reducible repeat (first | apply Kd.V_alloc | apply Kd.V_drewN | apply Kd.V_drew)); exact Kd.V_mono HO0.out (fun _ hk => ⟨hk.1.1, ⟨(by simp [Value.ownBlock]), hk.2⟩⟩)⟩, ⟨by first | exact Kd.R_nil _ _ _ _ _ | exact Kd.N_nil _ _ _ _ _ | exact Kd.V_nil _ _ _ _ _ | exact Kd.Q_nil _ _ _ _ _ | exact Kd.S_nil _ _ _ _ _⟩, ⟨by (with_reducible repeat (first | apply Kd.R_alloc | apply Kd.R_drewN | apply Kd.R_drew)); exact Kd.R_mono HO225.out (fun _ hk => hk.1.1)⟩, ⟨by repeat (first | (with_reducible first | exact HB.out | apply below_alloc | apply pw_below_drewN | apply below_drew1) | exact HB.out)⟩⟩
    case round =>
      clear H'
      try clear c1
      try clear p2
      try clear c4
      try clear c5
      obtain ⟨x8_1, x23_1, rfl, HA, HK1, HO_0, HO_8, HO_21, HB⟩ := hrel
      cases gk with
      | zero => exact absurd HA.out (by simp [spec_BatchedValues.l0])
      | succ k1 =>
        have H := HA.out
        clear HA
        simp only [spec_BatchedValues.l0] at H
        by_cases c10 : x23_1 < (t222.length : Int)
        · rw [if_pos c10] at H
          have c10b0 : decide (x23_1 < (t222.length : Int)) = true := decide_eq_true c10
          clear c10
          by_cases c11 : 0 ≤ x23_1
          · rw [if_pos c11] at H
            have c11b0 : decide (0 ≤ x23_1) = true := decide_eq_true c11
            clear c11
            by_cases c12 : x23_1 < (t222.length : Int)
            · rw [if_pos c12] at H
              have c12b0 : decide (x23_1 < (t222.length : Int)) = true := decide_eq_true c12
              clear c12
              by_cases c13 : 0 ≤ (rd t222 x23_1)
              · rw [if_pos c13] at H
                have c13b0 : decide (0 ≤ (rd t222 x23_1)) = true := decide_eq_true c13
                clear c13
                by_cases c14 : (rd t222 x23_1) < (l0.length : Int)
                · rw [if_pos c14] at H
                  have c14b0 : decide ((rd t222 x23_1) < (l0.length : Int)) = true := decide_eq_true c14
                  clear c14
                  by_cases c15 : x8_1.length < 2513169434916
                  · rw [if_pos c15] at H
                    have LMc15 := Aside0.mk c15
                    clear c15
                    obtain ⟨y228, hy228⟩ : ∃ y_ : List (S35), y_ = (x8_1 ++ [(⟨(rd_T35 l0 (rd t222 x23_1)).f0, (rd_T35 l0 (rd t222 x23_1)).f1, (rd_T35 l0 (rd t222 x23_1)).f2, (rd_T35 l0 (rd t222 x23_1)).f3⟩ : S35)]) := ⟨_, rfl⟩
                    replace H : (spec_BatchedValues.l0 k1 l0 y228 t222 (t222.length : Int) (wrap64 (x23_1 + 1))) = some (r1, r2) := by first | (rw [hy228]; with_reducible exact H) | (have H2_ := (Option.bind_some _ _).symm.trans H; rw [hy228]; with_reducible exact H2_) | (have H2_ := (Option.bind_some _ _).symm.trans H; with_reducible exact H2_) | with_reducible exact H | (rw [hy228]; exact H) | exact H
                    have Ny228 := Aside0.mk hy228
                    clear hy228
                    have H' := Aside0.mk H
                    clear H
                    have p226 : 0 ≤ (x23_1 : Int) := of_decide_eq_true (by first | (with_reducible assumption) | assumption)
                    have q226 : x23_1 < (t222.length : Int) := of_decide_eq_true (by first | (with_reducible assumption) | assumption)
                    obtain ⟨ad226, e226, hx226_0⟩ := Kd.at_int (Kd.R_reads' HO_21.out).2.2 x23_1 p226 q226
                    cases e226
                    replace p226 := eq_true p226
                    replace q226 := eq_true q226
                    have p227 : 0 ≤ ((rd t222 x23_1) : Int) := of_decide_eq_true (by first | (with_reducible assumption) | assumption)
                    have q227 : (rd t222 x23_1) < (l0.length : Int) := of_decide_eq_true (by first | (with_reducible assumption) | assumption)
                    obtain ⟨ad227, A227_3, c227_3, e227, hx227_0, hx227_1, hx227_2, hx227_3, hl227_3, hi227_3⟩ := at_T35 (Kd.V_reads' HO_0.out).2.2 (rd t222 x23_1) p227 q227
                    cases e227
                    obtain ⟨ce227, hce227, hMe227, hcc227⟩ := Kd.V_get HO_0.out z35 (rd t222 x23_1) p227 (by first | exact q227 | exact of_decide_eq_true (by first | (with_reducible assumption) | assumption) | (have e_ := (Kd.V_reads' HO_0.out).1; omega))
                    obtain ⟨ua227_3, uc227_3, rfl, ul227_3, ge227_3⟩ := k35_openF hMe227
                    have hv227_3 := hcc227 3 _ rfl
                    rw [add_field _ _ 3 (by omega)] at hv227_3
                    replace hv227_3 := Option.some.inj (hv227_3.symm.trans hx227_3)
                    injection hv227_3 with hva_ hvn_ hvc_
                    rw [hva_] at ge227_3
                    rw [hvc_] at ul227_3
                    have HL227_3 := Aside0.mk (show Kd.V k35 35 _ w.heap.size _ _ ((rd_T35 l0 (rd t222 x23_1)).f3) from Kd.V_mk ul227_3 ge227_3)
                    clear hva_ hvn_ hvc_ ge227_3 ul227_3
                    clear hcc227 hce227
                    have HR227_3 := Aside0.mk hi227_3
                    have HC227_3 := Aside0.mk hl227_3
                    clear hi227_3 hl227_3
                    replace p227 := eq_true p227
                    replace q227 := eq_true q227
                    go_wp2_with (first | ((with_reducible refine gate_builtin (b := .append) (xs := #[.tmp 27, .tmp 32]) rfl ?_); at_builtin; refine Kd.N_append k35 (w0 := w) w.heap.size rfl (.tmp 27) (.tmp 32) 22 35 (.agg #[(.bool false), (.int .u64 0), (.string ⟨#[]⟩), (.slice none 0 0)]) 56 rfl Tryz.underlying22 info35 rfl (by decide) (by omega) u8 x8_1 (⟨(rd_T35 l0 (rd t222 x23_1)).f0, (rd_T35 l0 (rd t222 x23_1)).f1, (rd_T35 l0 (rd t222 x23_1)).f2, (rd_T35 l0 (rd t222 x23_1)).f3⟩ : S35) [.bool ((rd_T35 l0 (rd t222 x23_1)).f0), .int .u64 ((rd_T35 l0 (rd t222 x23_1)).f1), .string ((rd_T35 l0 (rd t222 x23_1)).f2), .slice A227_3 ((rd_T35 l0 (rd t222 x23_1)).f3).length c227_3] (fun k_ => (P0_ k_ ∨ w.heap.size ≤ k_) ∧ some k_ ≠ (.slice (some ad226) t222.length co9 : Value).ownBlock) (fun k_ => ((fun k_ => (P0_ k_ ∨ w.heap.size ≤ k_) ∧ some k_ ≠ (.slice (some ad226) t222.length co9 : Value).ownBlock)) k_ ∧ some k_ ≠ (u8 : Value).ownBlock) rfl rfl ?aP (fun _ hk => hk) ?aF ?aO ?aB ?aS ?aL ?_; (case aP => exact (k35_mkF _ _ (⟨(rd_T35 l0 (rd t222 x23_1)).f0, (rd_T35 l0 (rd t222 x23_1)).f1, (rd_T35 l0 (rd t222 x23_1)).f2, (rd_T35 l0 (rd t222 x23_1)).f3⟩ : S35) (Kd.V_reads' (Kd.V_mono (ok' := (fun k_ => ((fun k_ => (P0_ k_ ∨ w.heap.size ≤ k_) ∧ some k_ ≠ (.slice (some ad226) t222.length co9 : Value).ownBlock)) k_ ∧ some k_ ≠ (u8 : Value).ownBlock)) (HL227_3.out) (fun k_ hk => ⟨⟨hk.1, hk.2.2⟩, hk.2.1⟩))).2.1 (Kd.V_F (Kd.V_mono (ok' := (fun k_ => ((fun k_ => (P0_ k_ ∨ w.heap.size ≤ k_) ∧ some k_ ≠ (.slice (some ad226) t222.length co9 : Value).ownBlock)) k_ ∧ some k_ ≠ (u8 : Value).ownBlock)) (HL227_3.out) (fun k_ hk => ⟨⟨hk.1, hk.2.2⟩, hk.2.1⟩))))); (case aB => exact (by repeat (first | (with_reducible first | exact HB.out | apply below_alloc | apply pw_below_drewN | apply below_drew1) | exact HB.out))); (case aF => exact (fun k_ hk => ⟨(.inr (Nat.le_trans (below_size (by repeat (first | (with_reducible first | exact HB.out | apply below_alloc | apply pw_below_drewN | apply below_drew1) | exact HB.out))) hk)), Kd.fresh' (Kd.R_lt (by (with_reducible repeat (first | apply Kd.R_alloc | apply Kd.R_drewN | apply Kd.R_drew)); exact HO_21.out)) k_ hk⟩)); (case aO => exact (by (with_reducible repeat (first | apply Kd.N_alloc | apply Kd.N_drewN | apply Kd.N_drew)); exact HO_8.out)); (case aS => exact (below_size (by repeat (first | (with_reducible first | exact HB.out | apply below_alloc | apply pw_below_drewN | apply below_drew1) | exact HB.out)))); (case aL => have := LMc15.out; omega); intro v229 w16 ho hb hg hat; rw [← Ny228.out] at ho; have n0_ := Aside0.mk (Kd.V_afterv (ok := (fun k_ => (P0_ k_ ∨ w.heap.size ≤ k_) ∧ some k_ ≠ (.slice (some ad226) t222.length co9 : Value).ownBlock)) (by (with_reducible repeat (first | apply Kd.V_alloc | apply Kd.V_drewN | apply Kd.V_drew)); exact Kd.V_mono HO_0.out (fun _ hk => ⟨⟨hk.1, hk.2.2⟩, hk.2.1⟩)) hg hat); have n1_ := Aside0.mk (Kd.R_over' (by (with_reducible repeat (first | apply Kd.R_alloc | apply Kd.R_drewN | apply Kd.R_drew)); exact HO_21.out) (Kd.N_typed (by (with_reducible repeat (first | apply Kd.N_alloc | apply Kd.N_drewN | apply Kd.N_drew)); exact HO_8.out)) (by decide) hg); have n2_ := Aside0.mk (Kd.V_afterv (ok := (fun k_ => (P0_ k_ ∨ w.heap.size ≤ k_) ∧ some k_ ≠ (.slice (some ad226) t222.length co9 : Value).ownBlock)) (by (with_reducible repeat (first | apply Kd.V_alloc | apply Kd.V_drewN | apply Kd.V_drew)); exact Kd.V_mono HL227_3.out (fun _ hk => ⟨⟨hk.1, hk.2.2⟩, hk.2.1⟩)) hg hat); have n3_ := Aside0.mk (hb); have n4_ := Aside0.mk (ho); clear HO_0; clear HO_21; clear HL227_3; clear HB; clear HO_8; have HO_0 := n0_; have HO_21 := n1_; have HL227_3 := n2_; have HB := n3_; have HO230 := n4_; clear n0_ n1_ n2_ n3_ n4_; clear ho hb hg hat))
                    go_roundg k1
                    case measure => have := HK1.out; omega
                    case rel => exact ⟨(y228), (wrap64 (x23_1 + 1)), (by first | rfl | (simp; done) | (simp [*]; done)), H', ⟨by have := HK1.out; omega⟩, ⟨by (with_reducible repeat (first | apply Kd.V_alloc | apply Kd.V_drewN | apply Kd.V_drew)); exact Kd.V_mono HO_0.out (fun _ hk => ⟨hk.1.1, ⟨hk.2, hk.1.2⟩⟩)⟩, ⟨by (with_reducible repeat (first | apply Kd.N_alloc | apply Kd.N_drewN | apply Kd.N_drew)); exact HO230.out⟩, ⟨by (with_reducible repeat (first | apply Kd.R_alloc | apply Kd.R_drewN | apply Kd.R_drew)); exact HO_21.out⟩, ⟨by repeat (first | (with_reducible first | exact HB.out | apply below_alloc | apply pw_below_drewN | apply below_drew1) | exact HB.out)⟩⟩
                  · rw [if_neg c15] at H
                    exact absurd H (by simp)
                · rw [if_neg c14] at H
                  exact absurd H (by simp)
              · rw [if_neg c13] at H
                exact absurd H (by simp)
            · rw [if_neg c12] at H
              exact absurd H (by simp)
          · rw [if_neg c11] at H
            exact absurd H (by simp)
        · rw [if_neg c10] at H
          have c10b0 : decide (x23_1 < (t222.length : Int)) = false := decide_eq_false c10
          clear c10
          simp only [Option.some.injEq, Prod.mk.injEq] at H
          obtain ⟨rfl, rfl⟩ := H
          go_wp2
          go_ret2
          exact ⟨_, by first | rfl | (simp [errW_none, errW_some] <;> rfl) | (simp [*, errW_none, errW_some] <;> rfl), by (with_reducible repeat (first | apply Kd.N_alloc | apply Kd.N_drewN | apply Kd.N_drew)); exact Kd.N_mono HO_8.out (fun _ hk => hk.1), by repeat (first | (with_reducible first | exact HB.out | apply below_alloc | apply pw_below_drewN | apply below_drew1) | exact HB.out)⟩
  · replace c5 := Bool.eq_false_iff.mpr c5
    subst c5
    have H1 : (some (([] : List (S35)), false)) = some (r1, r2) := by rw [if_neg (show ¬ (false = true) by decide)] at H; exact H
    clear H
    have H := H1
    clear H1
    simp only [Option.some.injEq, Prod.mk.injEq] at H
    obtain ⟨rfl, rfl⟩ := H
    go_enter Tryz.func18, Tryz.ntmps18
    go_wp2_with (first | ((with_reducible refine gate_callee (f := 46) rfl ?_); refine goesL_ (some 14) rfl rfl Tryz.func46 (by kernel_rfl) rfl #[.int .i64 (l0.length : Int)] rfl (by (try simp only [List.map_toArray, List.map_cons, List.map_nil]); first | done | rfl | (simp only [List.length_drop, List.length_take]; rfl)) ?_; (with_reducible refine (spec_Counted0.calls k (l0.length : Int) t219 _ A3.out).mono ?_); rintro e w17 ⟨v220, rfl, ho0, hb⟩; refine ⟨_, rfl, ?_⟩; have n0_ := Aside0.mk (Kd.V_elder' (by (with_reducible repeat (first | apply Kd.V_alloc | apply Kd.V_drewN | apply Kd.V_drew)); exact HO0.out) (Kd.R_base ho0) hb); have n1_ := Aside0.mk (Kd.R_lower (Kd.R_newM (M := fun k_ => (w.heap.size ≤ k_)) ho0 (below_size (by repeat (first | (with_reducible first | exact HB.out | apply below_alloc | apply pw_below_drewN | apply below_drew1) | exact HB.out))) (fun k_ h_ => h_)) (below_size (by repeat (first | (with_reducible first | exact HB.out | apply below_alloc | apply pw_below_drewN | apply below_drew1) | exact HB.out)))); have n2_ := Aside0.mk (below_step (by repeat (first | (with_reducible first | exact HB.out | apply below_alloc | apply pw_below_drewN | apply below_drew1) | exact HB.out)) hb); clear HO0; clear HB; have HO0 := n0_; have HO221 := n1_; have HB := n2_; clear n0_ n1_ n2_; (try clear hb); (try clear hb2); (try clear hk); (try clear hi); (try clear ho0); obtain ⟨Ao18, co18, eo18⟩ := Kd.R_slice HO221.out; subst eo18) | ((with_reducible refine gate_callee (f := 45) rfl ?_); refine goesL_ (some 16) rfl rfl Tryz.func45 (by kernel_rfl) rfl #[.slice Ao18 t219.length co18, .slice A1 l1.length c1] rfl (by (try simp only [List.map_toArray, List.map_cons, List.map_nil]); first | done | rfl | (simp only [List.length_drop, List.length_take]; rfl)) ?_; (with_reducible refine (spec_Batched.calls k _ _ t219 _ _ l1 t222 false _ ?side1 ?side2 ?side3 ?side4 A4.out).mono ?_); (case side1 => repeat (first | exact (Kd.R_reads' HO221.out).2.2 | (with_reducible refine Kd.C_alloc ?_ _) | (with_reducible refine Kd.C_drewN ?_ _) | (with_reducible refine Kd.C_drew ?_))); (case side2 => exact (Kd.R_reads' HO221.out).2.1); (case side3 => repeat (first | exact (Kd.C_below HR1.out HB.out) | (with_reducible refine Kd.C_alloc ?_ _) | (with_reducible refine Kd.C_drewN ?_ _) | (with_reducible refine Kd.C_drew ?_))); (case side4 => exact HC1.out); rintro e w19 ⟨v224, rfl, ho0, hb⟩; refine ⟨_, rfl, ?_⟩; have n0_ := Aside0.mk (Kd.V_elder' (by (with_reducible repeat (first | apply Kd.V_alloc | apply Kd.V_drewN | apply Kd.V_drew)); exact HO0.out) (Kd.R_base ho0) hb); have n1_ := Aside0.mk (Kd.R_elder' (by (with_reducible repeat (first | apply Kd.R_alloc | apply Kd.R_drewN | apply Kd.R_drew)); exact HO221.out) (Kd.R_base ho0) hb); have n2_ := Aside0.mk (Kd.R_lower (Kd.R_new' (Kd.R_newM (M := fun k_ => (w.heap.size ≤ k_)) ho0 (below_size (by repeat (first | (with_reducible first | exact HB.out | apply below_alloc | apply pw_below_drewN | apply below_drew1) | exact HB.out))) (fun k_ h_ => h_)) (Kd.R_lt (by (with_reducible repeat (first | apply Kd.R_alloc | apply Kd.R_drewN | apply Kd.R_drew)); exact HO221.out))) (below_size (by repeat (first | (with_reducible first | exact HB.out | apply below_alloc | apply pw_below_drewN | apply below_drew1) | exact HB.out)))); have n3_ := Aside0.mk (below_step (by repeat (first | (with_reducible first | exact HB.out | apply below_alloc | apply pw_below_drewN | apply below_drew1) | exact HB.out)) hb); clear HO0; clear HO221; clear HB; have HO0 := n0_; have HO221 := n1_; have HO225 := n2_; have HB := n3_; clear n0_ n1_ n2_ n3_; (try clear hb); (try clear hb2); (try clear hk); (try clear hi); (try clear ho0)))
    go_ret2
    exact ⟨_, by first | rfl | (simp [errW_none, errW_some] <;> rfl) | (simp [*, errW_none, errW_some] <;> rfl), by first | exact Kd.R_nil _ _ _ _ _ | exact Kd.N_nil _ _ _ _ _ | exact Kd.V_nil _ _ _ _ _ | exact Kd.Q_nil _ _ _ _ _ | exact Kd.S_nil _ _ _ _ _, by repeat (first | (with_reducible first | exact HB.out | apply below_alloc | apply pw_below_drewN | apply below_drew1) | exact HB.out)⟩
end Go.Proofs.YtmcjpnijldhelaaGreatDoor.PFnDictionaryFloat64Read
