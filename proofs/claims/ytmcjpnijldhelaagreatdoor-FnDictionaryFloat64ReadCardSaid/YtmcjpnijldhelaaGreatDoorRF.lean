/- Printed by program out of the translation, and struck smaller. -/
import Derived.Test.YtmcjpnijldhelaaGreatDoorPFnDictionaryFloat64Readx0
namespace Go.Proofs.YtmcjpnijldhelaaGreatDoor.PFnDictionaryFloat64Read
open Go.RowKit Go.Proofs.YtmcjpnijldhelaaGreatDoorW.PrintWords Go.Proofs.YtmcjpnijldhelaaGreatDoorW.PrintLast Go.Proofs.YtmcjpnijldhelaaGreatDoorW.PrintMore
attribute [local go_sem] max2_int min2_int max_two min_two max_three min_three max_four min_four
set_option linter.unusedVariables false
set_option linter.unusedSimpArgs false
mutual
def spec_RunsFit.j0 : Nat → List (S53) → Int → List Int → Bool → Option (List Int × Bool)
  | 0, _, _, _, _ => none
  | k + 1, x0, x1, x6, x23 => if x23 = true then (some (([] : List Int), false)) else (spec_RunsFit.l0 k x1 x6 x0 (x0.length : Int) 0)
def spec_RunsFit.l0 : Nat → Int → List Int → List (S53) → Int → Int → Option (List Int × Bool)
  | 0, _, _, _, _, _ => none
  | k + 1, x1, x6, x24, x25, x26 => if x26 < x25 then (if 0 ≤ x26 then (if x26 < (x24.length : Int) then (if ((rd_T53 x24 x26).f1) < 1 then (spec_RunsFit.j2 k x1 x6 x24 x25 x26 true ((rd_T53 x24 x26).f0) ((rd_T53 x24 x26).f1) ((rd_T53 x24 x26).f2)) else (if (rd_T53 x24 x26).f0 = true then (if ((rd_T53 x24 x26).f1) > 20 then (spec_RunsFit.j2 k x1 x6 x24 x25 x26 true ((rd_T53 x24 x26).f0) ((rd_T53 x24 x26).f1) ((rd_T53 x24 x26).f2)) else (if (((rd_T53 x24 x26).f2).length : Int) > (wrap64 (8 * ((rd_T53 x24 x26).f1))) then (spec_RunsFit.j2 k x1 x6 x24 x25 x26 true ((rd_T53 x24 x26).f0) ((rd_T53 x24 x26).f1) ((rd_T53 x24 x26).f2)) else (if ((rd_T53 x24 x26).f0 = true) then (spec_RunsFit.j2 k x1 x6 x24 x25 x26 false ((rd_T53 x24 x26).f0) ((rd_T53 x24 x26).f1) ((rd_T53 x24 x26).f2)) else (if ((rd_T53 x24 x26).f1) > 300 then (spec_RunsFit.j2 k x1 x6 x24 x25 x26 true ((rd_T53 x24 x26).f0) ((rd_T53 x24 x26).f1) ((rd_T53 x24 x26).f2)) else (spec_RunsFit.j2 k x1 x6 x24 x25 x26 ((((rd_T53 x24 x26).f2).length : Int) != 1) ((rd_T53 x24 x26).f0) ((rd_T53 x24 x26).f1) ((rd_T53 x24 x26).f2)))))) else (if ((rd_T53 x24 x26).f0 = true) then (spec_RunsFit.j2 k x1 x6 x24 x25 x26 false ((rd_T53 x24 x26).f0) ((rd_T53 x24 x26).f1) ((rd_T53 x24 x26).f2)) else (if ((rd_T53 x24 x26).f1) > 300 then (spec_RunsFit.j2 k x1 x6 x24 x25 x26 true ((rd_T53 x24 x26).f0) ((rd_T53 x24 x26).f1) ((rd_T53 x24 x26).f2)) else (spec_RunsFit.j2 k x1 x6 x24 x25 x26 ((((rd_T53 x24 x26).f2).length : Int) != 1) ((rd_T53 x24 x26).f0) ((rd_T53 x24 x26).f1) ((rd_T53 x24 x26).f2)))))) else (none)) else (none)) else (some (x6, true))
def spec_RunsFit.j2 : Nat → Int → List Int → List (S53) → Int → Int → Bool → Bool → Int → List Int → Option (List Int × Bool)
  | 0, _, _, _, _, _, _, _, _, _ => none
  | k + 1, x1, x6, x24, x25, x26, x66, x122000, x122001, x122002 => if x66 = true then (some (([] : List Int), false)) else (spec_RunsFit.l1 k x1 x6 x24 x25 x26 x122002 (x122002.length : Int) 0 x122000 x122001 x122002)
def spec_RunsFit.l1 : Nat → Int → List Int → List (S53) → Int → Int → List Int → Int → Int → Bool → Int → List Int → Option (List Int × Bool)
  | 0, _, _, _, _, _, _, _, _, _, _, _ => none
  | k + 1, x1, x6, x24, x25, x26, x68, x69, x70, x122000, x122001, x122002 => if x70 < x69 then (if 0 ≤ x70 then (if x70 < (x68.length : Int) then (if x1 < 64 then (if 0 ≤ x1 then (if (shr .u64 (rd x68 x70) x1) > 0 then (some (([] : List Int), false)) else (spec_RunsFit.l1 k x1 x6 x24 x25 x26 x68 x69 (wrap64 (x70 + 1)) x122000 x122001 x122002)) else (none)) else (spec_RunsFit.l1 k x1 x6 x24 x25 x26 x68 x69 (wrap64 (x70 + 1)) x122000 x122001 x122002)) else (none)) else (none)) else (if x122000 = true then (if x6.length + x122002.length < 17592186044416 then (spec_RunsFit.l2 k x1 (x6 ++ x122002) (x122002.length : Int) x24 x25 x26 x122000 x122001 x122002) else (none)) else (spec_RunsFit.l3 k x1 x6 0 x24 x25 x26 x122000 x122001 x122002))
def spec_RunsFit.l2 : Nat → Int → List Int → Int → List (S53) → Int → Int → Bool → Int → List Int → Option (List Int × Bool)
  | 0, _, _, _, _, _, _, _, _, _ => none
  | k + 1, x1, x6, x11, x24, x25, x26, x122000, x122001, x122002 => if x11 < (wrap64 (8 * x122001)) then (if x6.length < 17592186044416 then (spec_RunsFit.l2 k x1 (x6 ++ [0]) (wrap64 (x11 + 1)) x24 x25 x26 x122000 x122001 x122002) else (none)) else (spec_RunsFit.l0 k x1 x6 x24 x25 (wrap64 (x26 + 1)))
def spec_RunsFit.l3 : Nat → Int → List Int → Int → List (S53) → Int → Int → Bool → Int → List Int → Option (List Int × Bool)
  | 0, _, _, _, _, _, _, _, _, _ => none
  | k + 1, x1, x6, x12, x24, x25, x26, x122000, x122001, x122002 => if x12 < x122001 then (if 0 < (x122002.length : Int) then (if x6.length < 17592186044416 then (spec_RunsFit.l3 k x1 (x6 ++ [rd x122002 0]) (wrap64 (x12 + 1)) x24 x25 x26 x122000 x122001 x122002) else (none)) else (none)) else (spec_RunsFit.l0 k x1 x6 x24 x25 (wrap64 (x26 + 1)))
end
def spec_RunsFit.f (k : Nat) (l0 : List (S53)) (a1 : Int) : Option (List Int × Bool) := if (l0.length : Int) > 40 then (spec_RunsFit.j0 k l0 a1 ([] : List Int) true) else (if a1 < 1 then (spec_RunsFit.j0 k l0 a1 ([] : List Int) true) else (spec_RunsFit.j0 k l0 a1 ([] : List Int) (decide (a1 > 64))))
theorem spec_RunsFit.mono_l : ∀ k, (∀ y0 y1 y2 y3, LeO (spec_RunsFit.j0 k y0 y1 y2 y3) (spec_RunsFit.j0 (k + 1) y0 y1 y2 y3)) ∧ (∀ y0 y1 y2 y3 y4, LeO (spec_RunsFit.l0 k y0 y1 y2 y3 y4) (spec_RunsFit.l0 (k + 1) y0 y1 y2 y3 y4)) ∧ (∀ y0 y1 y2 y3 y4 y5 y6 y7 y8, LeO (spec_RunsFit.j2 k y0 y1 y2 y3 y4 y5 y6 y7 y8) (spec_RunsFit.j2 (k + 1) y0 y1 y2 y3 y4 y5 y6 y7 y8)) ∧ (∀ y0 y1 y2 y3 y4 y5 y6 y7 y8 y9 y10, LeO (spec_RunsFit.l1 k y0 y1 y2 y3 y4 y5 y6 y7 y8 y9 y10) (spec_RunsFit.l1 (k + 1) y0 y1 y2 y3 y4 y5 y6 y7 y8 y9 y10)) ∧ (∀ y0 y1 y2 y3 y4 y5 y6 y7 y8, LeO (spec_RunsFit.l2 k y0 y1 y2 y3 y4 y5 y6 y7 y8) (spec_RunsFit.l2 (k + 1) y0 y1 y2 y3 y4 y5 y6 y7 y8)) ∧ (∀ y0 y1 y2 y3 y4 y5 y6 y7 y8, LeO (spec_RunsFit.l3 k y0 y1 y2 y3 y4 y5 y6 y7 y8) (spec_RunsFit.l3 (k + 1) y0 y1 y2 y3 y4 y5 y6 y7 y8))
  | 0 => ⟨fun _ _ _ _ r h => by simp [spec_RunsFit.j0] at h, fun _ _ _ _ _ r h => by simp [spec_RunsFit.l0] at h, fun _ _ _ _ _ _ _ _ _ r h => by simp [spec_RunsFit.j2] at h, fun _ _ _ _ _ _ _ _ _ _ _ r h => by simp [spec_RunsFit.l1] at h, fun _ _ _ _ _ _ _ _ _ r h => by simp [spec_RunsFit.l2] at h, fun _ _ _ _ _ _ _ _ _ r h => by simp [spec_RunsFit.l3] at h⟩
  | k + 1 => by
    obtain ⟨ih0, ih1, ih2, ih3, ih4, ih5⟩ := spec_RunsFit.mono_l k
    refine ⟨?_, ?_, ?_, ?_, ?_, ?_⟩
    · intro y0 y1 y2 y3
      unfold spec_RunsFit.j0
      repeat' first
      | (with_reducible exact ih0 _ _ _ _)
      | (with_reducible exact ih1 _ _ _ _ _)
      | (with_reducible exact ih2 _ _ _ _ _ _ _ _ _)
      | (with_reducible exact ih3 _ _ _ _ _ _ _ _ _ _ _)
      | (with_reducible exact ih4 _ _ _ _ _ _ _ _ _)
      | (with_reducible exact ih5 _ _ _ _ _ _ _ _ _)
      | (with_reducible exact LeO.refl _)
      | (with_reducible exact LeO.none _)
      | (with_reducible refine LeO.ite ?_ ?_)
      | (with_reducible refine LeO.bind ?_ (fun _ => ?_))
      | exact ih0 _ _ _ _
      | exact ih1 _ _ _ _ _
      | exact ih2 _ _ _ _ _ _ _ _ _
      | exact ih3 _ _ _ _ _ _ _ _ _ _ _
      | exact ih4 _ _ _ _ _ _ _ _ _
      | exact ih5 _ _ _ _ _ _ _ _ _
      | exact LeO.none _
      | refine LeO.ite ?_ ?_
      | refine LeO.bind ?_ (fun _ => ?_)
    · intro y0 y1 y2 y3 y4
      unfold spec_RunsFit.l0
      repeat' first
      | (with_reducible exact ih0 _ _ _ _)
      | (with_reducible exact ih1 _ _ _ _ _)
      | (with_reducible exact ih2 _ _ _ _ _ _ _ _ _)
      | (with_reducible exact ih3 _ _ _ _ _ _ _ _ _ _ _)
      | (with_reducible exact ih4 _ _ _ _ _ _ _ _ _)
      | (with_reducible exact ih5 _ _ _ _ _ _ _ _ _)
      | (with_reducible exact LeO.refl _)
      | (with_reducible exact LeO.none _)
      | (with_reducible refine LeO.ite ?_ ?_)
      | (with_reducible refine LeO.bind ?_ (fun _ => ?_))
      | exact ih0 _ _ _ _
      | exact ih1 _ _ _ _ _
      | exact ih2 _ _ _ _ _ _ _ _ _
      | exact ih3 _ _ _ _ _ _ _ _ _ _ _
      | exact ih4 _ _ _ _ _ _ _ _ _
      | exact ih5 _ _ _ _ _ _ _ _ _
      | exact LeO.none _
      | refine LeO.ite ?_ ?_
      | refine LeO.bind ?_ (fun _ => ?_)
    · intro y0 y1 y2 y3 y4 y5 y6 y7 y8
      unfold spec_RunsFit.j2
      repeat' first
      | (with_reducible exact ih0 _ _ _ _)
      | (with_reducible exact ih1 _ _ _ _ _)
      | (with_reducible exact ih2 _ _ _ _ _ _ _ _ _)
      | (with_reducible exact ih3 _ _ _ _ _ _ _ _ _ _ _)
      | (with_reducible exact ih4 _ _ _ _ _ _ _ _ _)
      | (with_reducible exact ih5 _ _ _ _ _ _ _ _ _)
      | (with_reducible exact LeO.refl _)
      | (with_reducible exact LeO.none _)
      | (with_reducible refine LeO.ite ?_ ?_)
      | (with_reducible refine LeO.bind ?_ (fun _ => ?_))
      | exact ih0 _ _ _ _
      | exact ih1 _ _ _ _ _
      | exact ih2 _ _ _ _ _ _ _ _ _
      | exact ih3 _ _ _ _ _ _ _ _ _ _ _
      | exact ih4 _ _ _ _ _ _ _ _ _
      | exact ih5 _ _ _ _ _ _ _ _ _
      | exact LeO.none _
      | refine LeO.ite ?_ ?_
      | refine LeO.bind ?_ (fun _ => ?_)
    · intro y0 y1 y2 y3 y4 y5 y6 y7 y8 y9 y10
      unfold spec_RunsFit.l1
      repeat' first
      | (with_reducible exact ih0 _ _ _ _)
      | (with_reducible exact ih1 _ _ _ _ _)
      | (with_reducible exact ih2 _ _ _ _ _ _ _ _ _)
      | (with_reducible exact ih3 _ _ _ _ _ _ _ _ _ _ _)
      | (with_reducible exact ih4 _ _ _ _ _ _ _ _ _)
      | (with_reducible exact ih5 _ _ _ _ _ _ _ _ _)
      | (with_reducible exact LeO.refl _)
      | (with_reducible exact LeO.none _)
      | (with_reducible refine LeO.ite ?_ ?_)
      | (with_reducible refine LeO.bind ?_ (fun _ => ?_))
      | exact ih0 _ _ _ _
      | exact ih1 _ _ _ _ _
      | exact ih2 _ _ _ _ _ _ _ _ _
      | exact ih3 _ _ _ _ _ _ _ _ _ _ _
      | exact ih4 _ _ _ _ _ _ _ _ _
      | exact ih5 _ _ _ _ _ _ _ _ _
      | exact LeO.none _
      | refine LeO.ite ?_ ?_
      | refine LeO.bind ?_ (fun _ => ?_)
    · intro y0 y1 y2 y3 y4 y5 y6 y7 y8
      unfold spec_RunsFit.l2
      repeat' first
      | (with_reducible exact ih0 _ _ _ _)
      | (with_reducible exact ih1 _ _ _ _ _)
      | (with_reducible exact ih2 _ _ _ _ _ _ _ _ _)
      | (with_reducible exact ih3 _ _ _ _ _ _ _ _ _ _ _)
      | (with_reducible exact ih4 _ _ _ _ _ _ _ _ _)
      | (with_reducible exact ih5 _ _ _ _ _ _ _ _ _)
      | (with_reducible exact LeO.refl _)
      | (with_reducible exact LeO.none _)
      | (with_reducible refine LeO.ite ?_ ?_)
      | (with_reducible refine LeO.bind ?_ (fun _ => ?_))
      | exact ih0 _ _ _ _
      | exact ih1 _ _ _ _ _
      | exact ih2 _ _ _ _ _ _ _ _ _
      | exact ih3 _ _ _ _ _ _ _ _ _ _ _
      | exact ih4 _ _ _ _ _ _ _ _ _
      | exact ih5 _ _ _ _ _ _ _ _ _
      | exact LeO.none _
      | refine LeO.ite ?_ ?_
      | refine LeO.bind ?_ (fun _ => ?_)
    · intro y0 y1 y2 y3 y4 y5 y6 y7 y8
      unfold spec_RunsFit.l3
      repeat' first
      | (with_reducible exact ih0 _ _ _ _)
      | (with_reducible exact ih1 _ _ _ _ _)
      | (with_reducible exact ih2 _ _ _ _ _ _ _ _ _)
      | (with_reducible exact ih3 _ _ _ _ _ _ _ _ _ _ _)
      | (with_reducible exact ih4 _ _ _ _ _ _ _ _ _)
      | (with_reducible exact ih5 _ _ _ _ _ _ _ _ _)
      | (with_reducible exact LeO.refl _)
      | (with_reducible exact LeO.none _)
      | (with_reducible refine LeO.ite ?_ ?_)
      | (with_reducible refine LeO.bind ?_ (fun _ => ?_))
      | exact ih0 _ _ _ _
      | exact ih1 _ _ _ _ _
      | exact ih2 _ _ _ _ _ _ _ _ _
      | exact ih3 _ _ _ _ _ _ _ _ _ _ _
      | exact ih4 _ _ _ _ _ _ _ _ _
      | exact ih5 _ _ _ _ _ _ _ _ _
      | exact LeO.none _
      | refine LeO.ite ?_ ?_
      | refine LeO.bind ?_ (fun _ => ?_)
theorem spec_RunsFit.mono : ∀ a0 a1 k, LeO (spec_RunsFit.f k a0 a1) (spec_RunsFit.f (k + 1) a0 a1) := by
  intro a0 a1 k
  obtain ⟨ih0, ih1, ih2, ih3, ih4, ih5⟩ := spec_RunsFit.mono_l k
  unfold spec_RunsFit.f
  repeat' first
      | (with_reducible exact ih0 _ _ _ _)
      | (with_reducible exact ih1 _ _ _ _ _)
      | (with_reducible exact ih2 _ _ _ _ _ _ _ _ _)
      | (with_reducible exact ih3 _ _ _ _ _ _ _ _ _ _ _)
      | (with_reducible exact ih4 _ _ _ _ _ _ _ _ _)
      | (with_reducible exact ih5 _ _ _ _ _ _ _ _ _)
      | (with_reducible exact LeO.refl _)
      | (with_reducible exact LeO.none _)
      | (with_reducible refine LeO.ite ?_ ?_)
      | (with_reducible refine LeO.bind ?_ (fun _ => ?_))
      | exact ih0 _ _ _ _
      | exact ih1 _ _ _ _ _
      | exact ih2 _ _ _ _ _ _ _ _ _
      | exact ih3 _ _ _ _ _ _ _ _ _ _ _
      | exact ih4 _ _ _ _ _ _ _ _ _
      | exact ih5 _ _ _ _ _ _ _ _ _
      | exact LeO.none _
      | refine LeO.ite ?_ ?_
      | refine LeO.bind ?_ (fun _ => ?_)
set_option maxHeartbeats 8000000 in
set_option maxRecDepth 100000 in
theorem spec_RunsFit.calls (k : Nat) (A0 : Option Addr) (c0 : Nat) (l0 : List (S53)) (a1 : Int) (r1 : List Int) (r2 : Bool) (w : World) (hr0 : Kd.C k53 w A0 l0.length l0) (hc0 : l0.length ≤ c0) (h : spec_RunsFit.f k l0 a1 = some (r1, r2)) :
    Calls Tryz.prog 32 #[.slice A0 l0.length c0, .int .i64 a1] w fun e w' => ∃ v0_ : Value, e = .returned (.tuple #[v0_, .bool r2]) ∧ Kd.R (Kd.int .u64) 33 w' w.heap.size (fun _ => True) v0_ r1 ∧ Below w.heap.size w w' := by
  have hu53 := Tryz.underlying53
  have HR0 := Aside0.mk hr0
  have HC0 := Aside0.mk hc0
  clear hr0 hc0
  have HB := Aside0.mk (Below.refl w.heap.size w)
  have H : (if (l0.length : Int) > 40 then (spec_RunsFit.j0 k l0 a1 ([] : List Int) true) else (if a1 < 1 then (spec_RunsFit.j0 k l0 a1 ([] : List Int) true) else (spec_RunsFit.j0 k l0 a1 ([] : List Int) (decide (a1 > 64))))) = some (r1, r2) := h
  clear h
  have HC3 := Aside0.mk H
  clear H
  go_enter Tryz.func32, Tryz.ntmps32
  go_upto_region 2 with (fail)
  go_cut [23] (fun v23 wc => ∃ (kq : Nat) (x23_2 : Bool), v23 = .bool x23_2 ∧ Aside0 (spec_RunsFit.j0 kq l0 a1 ([] : List Int) x23_2 = some (r1, r2)) ∧ Aside0 (kq ≤ k) ∧ Aside0 (Kd.R (Kd.int .u64) 33 wc w.heap.size (fun _ => True) (.slice none 0 0) ([] : List Int)) ∧ Aside0 (Below w.heap.size w wc))
  case first =>
    have H := HC3.out
    clear HC3
    by_cases c4 : (l0.length : Int) > 40
    · rw [if_pos c4] at H
      have c4b0 : decide (40 < (l0.length : Int)) = true := decide_eq_true c4
      have c4b1 : decide (40 < l0.length) = true := decide_eq_true (by omega)
      clear c4
      (first | rw [c4b0] | (simp only [i64_w, i32_w]; rw [c4b0]) | skip)
      have H' := Aside0.mk H
      clear H
      go_wp2
      go_meet
      case rel => (try rw [← Nbq15.out]); exact ⟨_, (true), (by first | rfl | (simp; done) | (simp [*]; done)), H', ⟨by first | omega | exact Nat.le_refl _⟩, ⟨by first | exact Kd.R_nil _ _ _ _ _ | exact Kd.N_nil _ _ _ _ _ | exact Kd.V_nil _ _ _ _ _ | exact Kd.Q_nil _ _ _ _ _ | exact Kd.S_nil _ _ _ _ _⟩, ⟨by repeat (first | (with_reducible first | exact HB.out | apply below_alloc | apply pw_below_drewN | apply below_drew1) | exact HB.out)⟩⟩
    · rw [if_neg c4] at H
      have c4b0 : decide (40 < (l0.length : Int)) = false := decide_eq_false c4
      have c4b1 : decide (40 < l0.length) = false := decide_eq_false (by omega)
      clear c4
      (first | rw [c4b0] | (simp only [i64_w, i32_w]; rw [c4b0]) | skip)
      by_cases c5 : a1 < 1
      · rw [if_pos c5] at H
        have c5b0 : decide (a1 < 1) = true := decide_eq_true c5
        clear c5
        have H' := Aside0.mk H
        clear H
        go_wp2
        go_meet
        case rel => (try rw [← Nbq15.out]); exact ⟨_, (true), (by first | rfl | (simp; done) | (simp [*]; done)), H', ⟨by first | omega | exact Nat.le_refl _⟩, ⟨by first | exact Kd.R_nil _ _ _ _ _ | exact Kd.N_nil _ _ _ _ _ | exact Kd.V_nil _ _ _ _ _ | exact Kd.Q_nil _ _ _ _ _ | exact Kd.S_nil _ _ _ _ _⟩, ⟨by repeat (first | (with_reducible first | exact HB.out | apply below_alloc | apply pw_below_drewN | apply below_drew1) | exact HB.out)⟩⟩
      · rw [if_neg c5] at H
        have c5b0 : decide (a1 < 1) = false := decide_eq_false c5
        clear c5
        have H' := Aside0.mk H
        clear H
        go_wp2
        go_meet
        case rel => (try rw [← Nbq15.out]); exact ⟨_, (decide (a1 > 64)), (by first | rfl | (simp; done) | (simp [*]; done)), H', ⟨by first | omega | exact Nat.le_refl _⟩, ⟨by first | exact Kd.R_nil _ _ _ _ _ | exact Kd.N_nil _ _ _ _ _ | exact Kd.V_nil _ _ _ _ _ | exact Kd.Q_nil _ _ _ _ _ | exact Kd.S_nil _ _ _ _ _⟩, ⟨by repeat (first | (with_reducible first | exact HB.out | apply below_alloc | apply pw_below_drewN | apply below_drew1) | exact HB.out)⟩⟩
  case rest =>
    clear HC3
    try clear p2
    try clear c3
    try clear c4
    try clear c4b0
    try clear c4b1
    try clear c5
    try clear c5b0
    obtain ⟨kq, x23_2, rfl, HA, HJ2, HO_6, HB⟩ := hcut
    cases kq with
    | zero => exact absurd HA.out (by simp [spec_RunsFit.j0])
    | succ kj2 =>
      have H := HA.out
      clear HA
      simp only [spec_RunsFit.j0] at H
      by_cases c6 : x23_2 = true
      · subst c6
        have H1 : (some (([] : List Int), false)) = some (r1, r2) := by rw [if_pos rfl] at H; exact H
        clear H
        have H := H1
        clear H1
        simp only [Option.some.injEq, Prod.mk.injEq] at H
        obtain ⟨rfl, rfl⟩ := H
        go_wp2
        go_ret2
        exact ⟨_, by first | rfl | (simp [errW_none, errW_some] <;> rfl) | (simp [*, errW_none, errW_some] <;> rfl), by first | exact Kd.R_nil _ _ _ _ _ | exact Kd.N_nil _ _ _ _ _ | exact Kd.V_nil _ _ _ _ _ | exact Kd.Q_nil _ _ _ _ _ | exact Kd.S_nil _ _ _ _ _, by repeat (first | (with_reducible first | exact HB.out | apply below_alloc | apply pw_below_drewN | apply below_drew1) | exact HB.out)⟩
      · replace c6 := Bool.eq_false_iff.mpr c6
        subst c6
        have H1 : (spec_RunsFit.l0 kj2 a1 ([] : List Int) l0 (l0.length : Int) 0) = some (r1, r2) := by rw [if_neg (show ¬ (false = true) by decide)] at H; exact H
        clear H
        have H := H1
        clear H1
        have H' := Aside0.mk H
        clear H
        go_wp2
        go_loopg [6, 26] kj2 (fun kq v6 v26 w' => ∃ (x6_2 : List Int) (x26_2 : Int), v26 = .int .i64 x26_2 ∧ Aside0 (spec_RunsFit.l0 kq a1 x6_2 l0 (l0.length : Int) x26_2 = some (r1, r2)) ∧ Aside0 (kq ≤ kj2) ∧ Aside0 (Kd.R (Kd.int .u64) 33 w' w.heap.size (fun _ => True) v6 x6_2) ∧ Aside0 (Below w.heap.size w w'))
        case atStart => exact ⟨(([] : List Int)), (0), (by first | rfl | (simp; done) | (simp [*]; done)), H', ⟨Nat.le_refl _⟩, ⟨by (with_reducible repeat (first | apply Kd.R_alloc | apply Kd.R_drewN | apply Kd.R_drew)); exact HO_6.out⟩, ⟨by repeat (first | (with_reducible first | exact HB.out | apply below_alloc | apply pw_below_drewN | apply below_drew1) | exact HB.out)⟩⟩
        case round =>
          clear H'
          try clear p2
          try clear c3
          try clear c4
          try clear c4b0
          try clear c4b1
          try clear c5
          try clear c5b0
          try clear c6
          try clear p2
          obtain ⟨x6_2, x26_2, rfl, HA, HK2, HO_6, HB⟩ := hrel
          cases gk with
          | zero => exact absurd HA.out (by simp [spec_RunsFit.l0])
          | succ k2 =>
            have H := HA.out
            clear HA
            simp only [spec_RunsFit.l0] at H
            by_cases c7 : x26_2 < (l0.length : Int)
            · rw [if_pos c7] at H
              have c7b0 : decide (x26_2 < (l0.length : Int)) = true := decide_eq_true c7
              clear c7
              by_cases c8 : 0 ≤ x26_2
              · rw [if_pos c8] at H
                have c8b0 : decide (0 ≤ x26_2) = true := decide_eq_true c8
                clear c8
                by_cases c9 : x26_2 < (l0.length : Int)
                · rw [if_pos c9] at H
                  have c9b0 : decide (x26_2 < (l0.length : Int)) = true := decide_eq_true c9
                  clear c9
                  have HC10 := Aside0.mk H
                  clear H
                  have p120 : 0 ≤ (x26_2 : Int) := of_decide_eq_true (by first | (with_reducible assumption) | assumption)
                  have q120 : x26_2 < (l0.length : Int) := of_decide_eq_true (by first | (with_reducible assumption) | assumption)
                  obtain ⟨ad120, A120_2, c120_2, e120, hx120_0, hx120_1, hx120_2, hl120_2, hi120_2⟩ := at_T53 HR0.out x26_2 p120 q120
                  cases e120
                  replace hx120_0 := (HB.out.cell (World.block_lt_of_cell? w _ hx120_0)).trans hx120_0
                  replace hx120_1 := (HB.out.cell (World.block_lt_of_cell? w _ hx120_1)).trans hx120_1
                  replace hx120_2 := (HB.out.cell (World.block_lt_of_cell? w _ hx120_2)).trans hx120_2
                  have HR120_2 := Aside0.mk hi120_2
                  have HC120_2 := Aside0.mk hl120_2
                  clear hi120_2 hl120_2
                  replace p120 := eq_true p120
                  replace q120 := eq_true q120
                  go_upto_region 7 with (first | ((with_reducible refine gate_dst (N := 8) rfl ?_); (try (refine gate_guard (by rfl) ?_; dsimp only)); refine box_event ?hg (N := 8) ?hd (cs := #[.bool false, .int .i64 0, .slice none 0 0]) (t := 53) ?hr ?_; (case hd => rfl); (case hg => rfl); (case hr => first | (go_simp; done) | (go_simp; rfl)); intro gb121 hg w11 hbox hb; have n0_ := Aside0.mk (Kd.R_below (by (with_reducible repeat (first | apply Kd.R_alloc | apply Kd.R_drewN | apply Kd.R_drew)); exact HO_6.out) hb); have n1_ := Aside0.mk (below_step (by repeat (first | (with_reducible first | exact HB.out | apply below_alloc | apply pw_below_drewN | apply below_drew1) | exact HB.out)) hb); have n2_ := Aside0.mk (hbox); have n3_ := Aside0.mk ((by rw [hg]; exact (below_size (by repeat (first | (with_reducible first | exact HB.out | apply below_alloc | apply pw_below_drewN | apply below_drew1) | exact HB.out))) : w.heap.size ≤ gb121)); have n4_ := Aside0.mk ((by rw [hg]; exact (below_size (by repeat (first | (with_reducible first | exact HB.out | apply below_alloc | apply pw_below_drewN | apply below_drew1) | exact HB.out))) : w.heap.size ≤ gb121)); clear HO_6; clear HB; have HO_6 := n0_; have HB := n1_; have BK121 := n2_; have GW121 := n3_; have GE121 := n4_; clear n0_ n1_ n2_ n3_ n4_; clear hb hbox hg; have hcz12_0 : w11.cell? ⟨gb121, 0, none⟩ = some (.bool false) := (blk_cell BK121.out 0).trans rfl; have hcz12_1 : w11.cell? ⟨gb121, 1, none⟩ = some (.int .i64 0) := (blk_cell BK121.out 1).trans rfl; have hcz12_2 : w11.cell? ⟨gb121, 2, none⟩ = some (.slice none 0 0) := (blk_cell BK121.out 2).trans rfl; have hfz12_0 := blk_frozen BK121.out 0; have hfz12_1 := blk_frozen BK121.out 1; have hfz12_2 := blk_frozen BK121.out 2))
                  (try simp only [Act.put, List.setIfInBounds_toArray, List.set_cons_zero, List.set_cons_succ])
                  go_cut [66] (fun v66 wc => ∃ (kq : Nat) (x66_9 : Bool), v66 = .bool x66_9 ∧ Aside0 (spec_RunsFit.j2 kq a1 x6_2 l0 (l0.length : Int) x26_2 x66_9 ((rd_T53 l0 x26_2).f0) ((rd_T53 l0 x26_2).f1) ((rd_T53 l0 x26_2).f2) = some (r1, r2)) ∧ Aside0 (kq ≤ k2) ∧ Aside0 (Kd.R (Kd.int .u64) 33 wc w.heap.size (fun _ => True) u6 x6_2) ∧ Aside0 (wc.heap[gb121]? = some (.cells #[.bool ((rd_T53 l0 x26_2).f0), .int .i64 ((rd_T53 l0 x26_2).f1), (.slice A120_2 ((rd_T53 l0 x26_2).f2).length c120_2)] 53 (0, 0))) ∧ Aside0 (Below w.heap.size w wc))
                  case first =>
                    have H := HC10.out
                    clear HC10
                    by_cases c13 : ((rd_T53 l0 x26_2).f1) < 1
                    · rw [if_pos c13] at H
                      have c13b0 : decide (((rd_T53 l0 x26_2).f1) < 1) = true := decide_eq_true c13
                      clear c13
                      (first | rw [c13b0] | (simp only [i64_w, i32_w]; rw [c13b0]) | skip)
                      have H' := Aside0.mk H
                      clear H
                      have hcz14_0 : w11.cell? ⟨gb121, 0, none⟩ = some (.bool false) := (blk_cell BK121.out 0).trans rfl
                      have hcz14_1 : w11.cell? ⟨gb121, 1, none⟩ = some (.int .i64 0) := (blk_cell BK121.out 1).trans rfl
                      have hcz14_2 : w11.cell? ⟨gb121, 2, none⟩ = some (.slice none 0 0) := (blk_cell BK121.out 2).trans rfl
                      have hfz14_0 := blk_frozen BK121.out 0
                      have hfz14_1 := blk_frozen BK121.out 1
                      have hfz14_2 := blk_frozen BK121.out 2
                      go_wp2
                      go_meet
                      case rel => (try rw [← Nbq15.out]); exact ⟨_, (true), (by first | rfl | (simp; done) | (simp [*]; done)), H', ⟨by have := HJ2.out; have := HK2.out; first | omega | exact Nat.le_refl _⟩, ⟨by (with_reducible repeat (first | apply Kd.R_alloc | apply Kd.R_drewN | apply Kd.R_drew)); exact Kd.R_mono (Kd.R_far (p := ⟨gb121, 2, none⟩) (Kd.R_far (p := ⟨gb121, 1, none⟩) (Kd.R_far (p := ⟨gb121, 0, none⟩) (Kd.R_types HO_6.out BK121.out (by decide)) (fun _ hk => hk.2) (.bool ((rd_T53 l0 x26_2).f0))) (fun _ hk => hk.2) (.int .i64 ((rd_T53 l0 x26_2).f1))) (fun _ hk => hk.2) (.slice A120_2 ((rd_T53 l0 x26_2).f2).length c120_2)) (fun _ hk => trivial)⟩, ⟨by (with_reducible repeat (first | refine blk_drewN ?_ _ | refine blk_drew ?_ | refine blk_alloc ?_ _)); refine blk_put (cs := #[.bool ((rd_T53 l0 x26_2).f0), .int .i64 ((rd_T53 l0 x26_2).f1), .slice none 0 0]) ?_ 2 _ rfl; (with_reducible repeat (first | refine blk_drewN ?_ _ | refine blk_drew ?_ | refine blk_alloc ?_ _)); refine blk_put (cs := #[.bool ((rd_T53 l0 x26_2).f0), .int .i64 0, .slice none 0 0]) ?_ 1 _ rfl; (with_reducible repeat (first | refine blk_drewN ?_ _ | refine blk_drew ?_ | refine blk_alloc ?_ _)); refine blk_put (cs := #[.bool false, .int .i64 0, .slice none 0 0]) ?_ 0 _ rfl; (with_reducible repeat (first | refine blk_drewN ?_ _ | refine blk_drew ?_ | refine blk_alloc ?_ _)); exact BK121.out⟩, ⟨by repeat (first | (with_reducible first | exact HB.out | apply below_alloc | apply pw_below_drewN | apply below_drew1 | refine below_set ?_ GE121.out) | exact HB.out)⟩⟩
                    · rw [if_neg c13] at H
                      have c13b0 : decide (((rd_T53 l0 x26_2).f1) < 1) = false := decide_eq_false c13
                      clear c13
                      (first | rw [c13b0] | (simp only [i64_w, i32_w]; rw [c13b0]) | skip)
                      obtain ⟨bq15, hbq15⟩ : ∃ b_ : Bool, b_ = ((rd_T53 l0 x26_2).f0) := ⟨_, rfl⟩
                      replace H : (if bq15 = true then (if ((rd_T53 l0 x26_2).f1) > 20 then (spec_RunsFit.j2 k2 a1 x6_2 l0 (l0.length : Int) x26_2 true bq15 ((rd_T53 l0 x26_2).f1) ((rd_T53 l0 x26_2).f2)) else (if (((rd_T53 l0 x26_2).f2).length : Int) > (wrap64 (8 * ((rd_T53 l0 x26_2).f1))) then (spec_RunsFit.j2 k2 a1 x6_2 l0 (l0.length : Int) x26_2 true bq15 ((rd_T53 l0 x26_2).f1) ((rd_T53 l0 x26_2).f2)) else (if (bq15 = true) then (spec_RunsFit.j2 k2 a1 x6_2 l0 (l0.length : Int) x26_2 false bq15 ((rd_T53 l0 x26_2).f1) ((rd_T53 l0 x26_2).f2)) else (if ((rd_T53 l0 x26_2).f1) > 300 then (spec_RunsFit.j2 k2 a1 x6_2 l0 (l0.length : Int) x26_2 true bq15 ((rd_T53 l0 x26_2).f1) ((rd_T53 l0 x26_2).f2)) else (spec_RunsFit.j2 k2 a1 x6_2 l0 (l0.length : Int) x26_2 ((((rd_T53 l0 x26_2).f2).length : Int) != 1) bq15 ((rd_T53 l0 x26_2).f1) ((rd_T53 l0 x26_2).f2)))))) else (if (bq15 = true) then (spec_RunsFit.j2 k2 a1 x6_2 l0 (l0.length : Int) x26_2 false bq15 ((rd_T53 l0 x26_2).f1) ((rd_T53 l0 x26_2).f2)) else (if ((rd_T53 l0 x26_2).f1) > 300 then (spec_RunsFit.j2 k2 a1 x6_2 l0 (l0.length : Int) x26_2 true bq15 ((rd_T53 l0 x26_2).f1) ((rd_T53 l0 x26_2).f2)) else (spec_RunsFit.j2 k2 a1 x6_2 l0 (l0.length : Int) x26_2 ((((rd_T53 l0 x26_2).f2).length : Int) != 1) bq15 ((rd_T53 l0 x26_2).f1) ((rd_T53 l0 x26_2).f2))))) = some (r1, r2) := by rw [← hbq15] at H; exact H
                      have Nbq15 := Aside0.mk hbq15
                      clear hbq15
                      by_cases c16 : bq15 = true
                      · subst c16
                        (try rw [← Nbq15.out])
                        have H1 : (if ((rd_T53 l0 x26_2).f1) > 20 then (spec_RunsFit.j2 k2 a1 x6_2 l0 (l0.length : Int) x26_2 true true ((rd_T53 l0 x26_2).f1) ((rd_T53 l0 x26_2).f2)) else (if (((rd_T53 l0 x26_2).f2).length : Int) > (wrap64 (8 * ((rd_T53 l0 x26_2).f1))) then (spec_RunsFit.j2 k2 a1 x6_2 l0 (l0.length : Int) x26_2 true true ((rd_T53 l0 x26_2).f1) ((rd_T53 l0 x26_2).f2)) else (if (true = true) then (spec_RunsFit.j2 k2 a1 x6_2 l0 (l0.length : Int) x26_2 false true ((rd_T53 l0 x26_2).f1) ((rd_T53 l0 x26_2).f2)) else (if ((rd_T53 l0 x26_2).f1) > 300 then (spec_RunsFit.j2 k2 a1 x6_2 l0 (l0.length : Int) x26_2 true true ((rd_T53 l0 x26_2).f1) ((rd_T53 l0 x26_2).f2)) else (spec_RunsFit.j2 k2 a1 x6_2 l0 (l0.length : Int) x26_2 ((((rd_T53 l0 x26_2).f2).length : Int) != 1) true ((rd_T53 l0 x26_2).f1) ((rd_T53 l0 x26_2).f2)))))) = some (r1, r2) := by rw [if_pos rfl] at H; exact H
                        clear H
                        have H := H1
                        clear H1
                        by_cases c17 : ((rd_T53 l0 x26_2).f1) > 20
                        · rw [if_pos c17] at H
                          have c17b0 : decide (20 < ((rd_T53 l0 x26_2).f1)) = true := decide_eq_true c17
                          clear c17
                          have H' := Aside0.mk H
                          clear H
                          have hcz18_0 : w11.cell? ⟨gb121, 0, none⟩ = some (.bool false) := (blk_cell BK121.out 0).trans rfl
                          have hcz18_1 : w11.cell? ⟨gb121, 1, none⟩ = some (.int .i64 0) := (blk_cell BK121.out 1).trans rfl
                          have hcz18_2 : w11.cell? ⟨gb121, 2, none⟩ = some (.slice none 0 0) := (blk_cell BK121.out 2).trans rfl
                          have hfz18_0 := blk_frozen BK121.out 0
                          have hfz18_1 := blk_frozen BK121.out 1
                          have hfz18_2 := blk_frozen BK121.out 2
                          go_wp2
                          go_meet
                          case rel => (try rw [← Nbq15.out]); exact ⟨_, (true), (by first | rfl | (simp; done) | (simp [*]; done)), H', ⟨by have := HJ2.out; have := HK2.out; first | omega | exact Nat.le_refl _⟩, ⟨by (with_reducible repeat (first | apply Kd.R_alloc | apply Kd.R_drewN | apply Kd.R_drew)); exact Kd.R_mono (Kd.R_far (p := ⟨gb121, 2, none⟩) (Kd.R_far (p := ⟨gb121, 1, none⟩) (Kd.R_far (p := ⟨gb121, 0, none⟩) (Kd.R_types HO_6.out BK121.out (by decide)) (fun _ hk => hk.2) (.bool (true))) (fun _ hk => hk.2) (.int .i64 ((rd_T53 l0 x26_2).f1))) (fun _ hk => hk.2) (.slice A120_2 ((rd_T53 l0 x26_2).f2).length c120_2)) (fun _ hk => trivial)⟩, ⟨by (with_reducible repeat (first | refine blk_drewN ?_ _ | refine blk_drew ?_ | refine blk_alloc ?_ _)); refine blk_put (cs := #[.bool (true), .int .i64 ((rd_T53 l0 x26_2).f1), .slice none 0 0]) ?_ 2 _ rfl; (with_reducible repeat (first | refine blk_drewN ?_ _ | refine blk_drew ?_ | refine blk_alloc ?_ _)); refine blk_put (cs := #[.bool (true), .int .i64 0, .slice none 0 0]) ?_ 1 _ rfl; (with_reducible repeat (first | refine blk_drewN ?_ _ | refine blk_drew ?_ | refine blk_alloc ?_ _)); refine blk_put (cs := #[.bool false, .int .i64 0, .slice none 0 0]) ?_ 0 _ rfl; (with_reducible repeat (first | refine blk_drewN ?_ _ | refine blk_drew ?_ | refine blk_alloc ?_ _)); exact BK121.out⟩, ⟨by repeat (first | (with_reducible first | exact HB.out | apply below_alloc | apply pw_below_drewN | apply below_drew1 | refine below_set ?_ GE121.out) | exact HB.out)⟩⟩
                        · rw [if_neg c17] at H
                          have c17b0 : decide (20 < ((rd_T53 l0 x26_2).f1)) = false := decide_eq_false c17
                          clear c17
                          by_cases c19 : (((rd_T53 l0 x26_2).f2).length : Int) > (wrap64 (8 * ((rd_T53 l0 x26_2).f1)))
                          · rw [if_pos c19] at H
                            have c19b0 : decide ((wrap64 (8 * ((rd_T53 l0 x26_2).f1))) < (((rd_T53 l0 x26_2).f2).length : Int)) = true := decide_eq_true c19
                            clear c19
                            have H' := Aside0.mk H
                            clear H
                            have hcz20_0 : w11.cell? ⟨gb121, 0, none⟩ = some (.bool false) := (blk_cell BK121.out 0).trans rfl
                            have hcz20_1 : w11.cell? ⟨gb121, 1, none⟩ = some (.int .i64 0) := (blk_cell BK121.out 1).trans rfl
                            have hcz20_2 : w11.cell? ⟨gb121, 2, none⟩ = some (.slice none 0 0) := (blk_cell BK121.out 2).trans rfl
                            have hfz20_0 := blk_frozen BK121.out 0
                            have hfz20_1 := blk_frozen BK121.out 1
                            have hfz20_2 := blk_frozen BK121.out 2
                            go_wp2
                            go_meet
                            case rel => (try rw [← Nbq15.out]); exact ⟨_, (true), (by first | rfl | (simp; done) | (simp [*]; done)), H', ⟨by have := HJ2.out; have := HK2.out; first | omega | exact Nat.le_refl _⟩, ⟨by (with_reducible repeat (first | apply Kd.R_alloc | apply Kd.R_drewN | apply Kd.R_drew)); exact Kd.R_mono (Kd.R_far (p := ⟨gb121, 2, none⟩) (Kd.R_far (p := ⟨gb121, 1, none⟩) (Kd.R_far (p := ⟨gb121, 0, none⟩) (Kd.R_types HO_6.out BK121.out (by decide)) (fun _ hk => hk.2) (.bool (true))) (fun _ hk => hk.2) (.int .i64 ((rd_T53 l0 x26_2).f1))) (fun _ hk => hk.2) (.slice A120_2 ((rd_T53 l0 x26_2).f2).length c120_2)) (fun _ hk => trivial)⟩, ⟨by (with_reducible repeat (first | refine blk_drewN ?_ _ | refine blk_drew ?_ | refine blk_alloc ?_ _)); refine blk_put (cs := #[.bool (true), .int .i64 ((rd_T53 l0 x26_2).f1), .slice none 0 0]) ?_ 2 _ rfl; (with_reducible repeat (first | refine blk_drewN ?_ _ | refine blk_drew ?_ | refine blk_alloc ?_ _)); refine blk_put (cs := #[.bool (true), .int .i64 0, .slice none 0 0]) ?_ 1 _ rfl; (with_reducible repeat (first | refine blk_drewN ?_ _ | refine blk_drew ?_ | refine blk_alloc ?_ _)); refine blk_put (cs := #[.bool false, .int .i64 0, .slice none 0 0]) ?_ 0 _ rfl; (with_reducible repeat (first | refine blk_drewN ?_ _ | refine blk_drew ?_ | refine blk_alloc ?_ _)); exact BK121.out⟩, ⟨by repeat (first | (with_reducible first | exact HB.out | apply below_alloc | apply pw_below_drewN | apply below_drew1 | refine below_set ?_ GE121.out) | exact HB.out)⟩⟩
                          · rw [if_neg c19] at H
                            have c19b0 : decide ((wrap64 (8 * ((rd_T53 l0 x26_2).f1))) < (((rd_T53 l0 x26_2).f2).length : Int)) = false := decide_eq_false c19
                            clear c19
                            by_cases c21 : (true = true)
                            · clear c21
                              have H1 : (spec_RunsFit.j2 k2 a1 x6_2 l0 (l0.length : Int) x26_2 false true ((rd_T53 l0 x26_2).f1) ((rd_T53 l0 x26_2).f2)) = some (r1, r2) := by rw [if_pos rfl] at H; exact H
                              clear H
                              have H := H1
                              clear H1
                              have H' := Aside0.mk H
                              clear H
                              have hcz22_0 : w11.cell? ⟨gb121, 0, none⟩ = some (.bool false) := (blk_cell BK121.out 0).trans rfl
                              have hcz22_1 : w11.cell? ⟨gb121, 1, none⟩ = some (.int .i64 0) := (blk_cell BK121.out 1).trans rfl
                              have hcz22_2 : w11.cell? ⟨gb121, 2, none⟩ = some (.slice none 0 0) := (blk_cell BK121.out 2).trans rfl
                              have hfz22_0 := blk_frozen BK121.out 0
                              have hfz22_1 := blk_frozen BK121.out 1
                              have hfz22_2 := blk_frozen BK121.out 2
                              go_wp2
                              go_meet
                              case rel => (try rw [← Nbq15.out]); exact ⟨_, (false), (by first | rfl | (simp; done) | (simp [*]; done)), H', ⟨by have := HJ2.out; have := HK2.out; first | omega | exact Nat.le_refl _⟩, ⟨by (with_reducible repeat (first | apply Kd.R_alloc | apply Kd.R_drewN | apply Kd.R_drew)); exact Kd.R_mono (Kd.R_far (p := ⟨gb121, 2, none⟩) (Kd.R_far (p := ⟨gb121, 1, none⟩) (Kd.R_far (p := ⟨gb121, 0, none⟩) (Kd.R_types HO_6.out BK121.out (by decide)) (fun _ hk => hk.2) (.bool (true))) (fun _ hk => hk.2) (.int .i64 ((rd_T53 l0 x26_2).f1))) (fun _ hk => hk.2) (.slice A120_2 ((rd_T53 l0 x26_2).f2).length c120_2)) (fun _ hk => trivial)⟩, ⟨by (with_reducible repeat (first | refine blk_drewN ?_ _ | refine blk_drew ?_ | refine blk_alloc ?_ _)); refine blk_put (cs := #[.bool (true), .int .i64 ((rd_T53 l0 x26_2).f1), .slice none 0 0]) ?_ 2 _ rfl; (with_reducible repeat (first | refine blk_drewN ?_ _ | refine blk_drew ?_ | refine blk_alloc ?_ _)); refine blk_put (cs := #[.bool (true), .int .i64 0, .slice none 0 0]) ?_ 1 _ rfl; (with_reducible repeat (first | refine blk_drewN ?_ _ | refine blk_drew ?_ | refine blk_alloc ?_ _)); refine blk_put (cs := #[.bool false, .int .i64 0, .slice none 0 0]) ?_ 0 _ rfl; (with_reducible repeat (first | refine blk_drewN ?_ _ | refine blk_drew ?_ | refine blk_alloc ?_ _)); exact BK121.out⟩, ⟨by repeat (first | (with_reducible first | exact HB.out | apply below_alloc | apply pw_below_drewN | apply below_drew1 | refine below_set ?_ GE121.out) | exact HB.out)⟩⟩
                            · exact absurd rfl c21
                      · replace c16 := Bool.eq_false_iff.mpr c16
                        subst c16
                        (try rw [← Nbq15.out])
                        have H1 : (if (false = true) then (spec_RunsFit.j2 k2 a1 x6_2 l0 (l0.length : Int) x26_2 false false ((rd_T53 l0 x26_2).f1) ((rd_T53 l0 x26_2).f2)) else (if ((rd_T53 l0 x26_2).f1) > 300 then (spec_RunsFit.j2 k2 a1 x6_2 l0 (l0.length : Int) x26_2 true false ((rd_T53 l0 x26_2).f1) ((rd_T53 l0 x26_2).f2)) else (spec_RunsFit.j2 k2 a1 x6_2 l0 (l0.length : Int) x26_2 ((((rd_T53 l0 x26_2).f2).length : Int) != 1) false ((rd_T53 l0 x26_2).f1) ((rd_T53 l0 x26_2).f2)))) = some (r1, r2) := by rw [if_neg (show ¬ (false = true) by decide)] at H; exact H
                        clear H
                        have H := H1
                        clear H1
                        by_cases c26 : (false = true)
                        · exact absurd c26 (by decide)
                        · clear c26
                          have H1 : (if ((rd_T53 l0 x26_2).f1) > 300 then (spec_RunsFit.j2 k2 a1 x6_2 l0 (l0.length : Int) x26_2 true false ((rd_T53 l0 x26_2).f1) ((rd_T53 l0 x26_2).f2)) else (spec_RunsFit.j2 k2 a1 x6_2 l0 (l0.length : Int) x26_2 ((((rd_T53 l0 x26_2).f2).length : Int) != 1) false ((rd_T53 l0 x26_2).f1) ((rd_T53 l0 x26_2).f2))) = some (r1, r2) := by rw [if_neg (show ¬ (false = true) by decide)] at H; exact H
                          clear H
                          have H := H1
                          clear H1
                          by_cases c28 : ((rd_T53 l0 x26_2).f1) > 300
                          · rw [if_pos c28] at H
                            have c28b0 : decide (300 < ((rd_T53 l0 x26_2).f1)) = true := decide_eq_true c28
                            clear c28
                            have H' := Aside0.mk H
                            clear H
                            have hcz29_0 : w11.cell? ⟨gb121, 0, none⟩ = some (.bool false) := (blk_cell BK121.out 0).trans rfl
                            have hcz29_1 : w11.cell? ⟨gb121, 1, none⟩ = some (.int .i64 0) := (blk_cell BK121.out 1).trans rfl
                            have hcz29_2 : w11.cell? ⟨gb121, 2, none⟩ = some (.slice none 0 0) := (blk_cell BK121.out 2).trans rfl
                            have hfz29_0 := blk_frozen BK121.out 0
                            have hfz29_1 := blk_frozen BK121.out 1
                            have hfz29_2 := blk_frozen BK121.out 2
                            go_wp2
                            go_meet
                            case rel => (try rw [← Nbq15.out]); exact ⟨_, (true), (by first | rfl | (simp; done) | (simp [*]; done)), H', ⟨by have := HJ2.out; have := HK2.out; first | omega | exact Nat.le_refl _⟩, ⟨by (with_reducible repeat (first | apply Kd.R_alloc | apply Kd.R_drewN | apply Kd.R_drew)); exact Kd.R_mono (Kd.R_far (p := ⟨gb121, 2, none⟩) (Kd.R_far (p := ⟨gb121, 1, none⟩) (Kd.R_far (p := ⟨gb121, 0, none⟩) (Kd.R_types HO_6.out BK121.out (by decide)) (fun _ hk => hk.2) (.bool (false))) (fun _ hk => hk.2) (.int .i64 ((rd_T53 l0 x26_2).f1))) (fun _ hk => hk.2) (.slice A120_2 ((rd_T53 l0 x26_2).f2).length c120_2)) (fun _ hk => trivial)⟩, ⟨by (with_reducible repeat (first | refine blk_drewN ?_ _ | refine blk_drew ?_ | refine blk_alloc ?_ _)); refine blk_put (cs := #[.bool (false), .int .i64 ((rd_T53 l0 x26_2).f1), .slice none 0 0]) ?_ 2 _ rfl; (with_reducible repeat (first | refine blk_drewN ?_ _ | refine blk_drew ?_ | refine blk_alloc ?_ _)); refine blk_put (cs := #[.bool (false), .int .i64 0, .slice none 0 0]) ?_ 1 _ rfl; (with_reducible repeat (first | refine blk_drewN ?_ _ | refine blk_drew ?_ | refine blk_alloc ?_ _)); refine blk_put (cs := #[.bool false, .int .i64 0, .slice none 0 0]) ?_ 0 _ rfl; (with_reducible repeat (first | refine blk_drewN ?_ _ | refine blk_drew ?_ | refine blk_alloc ?_ _)); exact BK121.out⟩, ⟨by repeat (first | (with_reducible first | exact HB.out | apply below_alloc | apply pw_below_drewN | apply below_drew1 | refine below_set ?_ GE121.out) | exact HB.out)⟩⟩
                          · rw [if_neg c28] at H
                            have c28b0 : decide (300 < ((rd_T53 l0 x26_2).f1)) = false := decide_eq_false c28
                            clear c28
                            have H' := Aside0.mk H
                            clear H
                            have hcz30_0 : w11.cell? ⟨gb121, 0, none⟩ = some (.bool false) := (blk_cell BK121.out 0).trans rfl
                            have hcz30_1 : w11.cell? ⟨gb121, 1, none⟩ = some (.int .i64 0) := (blk_cell BK121.out 1).trans rfl
                            have hcz30_2 : w11.cell? ⟨gb121, 2, none⟩ = some (.slice none 0 0) := (blk_cell BK121.out 2).trans rfl
                            have hfz30_0 := blk_frozen BK121.out 0
                            have hfz30_1 := blk_frozen BK121.out 1
                            have hfz30_2 := blk_frozen BK121.out 2
                            go_wp2
                            go_meet
                            case rel => (try rw [← Nbq15.out]); exact ⟨_, (((((rd_T53 l0 x26_2).f2).length : Int) != 1)), (by first | rfl | (simp; done) | (simp [*]; done)), H', ⟨by have := HJ2.out; have := HK2.out; first | omega | exact Nat.le_refl _⟩, ⟨by (with_reducible repeat (first | apply Kd.R_alloc | apply Kd.R_drewN | apply Kd.R_drew)); exact Kd.R_mono (Kd.R_far (p := ⟨gb121, 2, none⟩) (Kd.R_far (p := ⟨gb121, 1, none⟩) (Kd.R_far (p := ⟨gb121, 0, none⟩) (Kd.R_types HO_6.out BK121.out (by decide)) (fun _ hk => hk.2) (.bool (false))) (fun _ hk => hk.2) (.int .i64 ((rd_T53 l0 x26_2).f1))) (fun _ hk => hk.2) (.slice A120_2 ((rd_T53 l0 x26_2).f2).length c120_2)) (fun _ hk => trivial)⟩, ⟨by (with_reducible repeat (first | refine blk_drewN ?_ _ | refine blk_drew ?_ | refine blk_alloc ?_ _)); refine blk_put (cs := #[.bool (false), .int .i64 ((rd_T53 l0 x26_2).f1), .slice none 0 0]) ?_ 2 _ rfl; (with_reducible repeat (first | refine blk_drewN ?_ _ | refine blk_drew ?_ | refine blk_alloc ?_ _)); refine blk_put (cs := #[.bool (false), .int .i64 0, .slice none 0 0]) ?_ 1 _ rfl; (with_reducible repeat (first | refine blk_drewN ?_ _ | refine blk_drew ?_ | refine blk_alloc ?_ _)); refine blk_put (cs := #[.bool false, .int .i64 0, .slice none 0 0]) ?_ 0 _ rfl; (with_reducible repeat (first | refine blk_drewN ?_ _ | refine blk_drew ?_ | refine blk_alloc ?_ _)); exact BK121.out⟩, ⟨by repeat (first | (with_reducible first | exact HB.out | apply below_alloc | apply pw_below_drewN | apply below_drew1 | refine below_set ?_ GE121.out) | exact HB.out)⟩⟩
                  case rest =>
                    clear HC10
                    try clear c1
                    try clear p1
                    try clear q1
                    try clear hx1
                    try clear c2
                    try clear p2
                    try clear c3
                    try clear c4
                    try clear c4b0
                    try clear c4b1
                    try clear c5
                    try clear c5b0
                    try clear c6
                    try clear p6
                    try clear c7
                    try clear c7b0
                    try clear c8
                    try clear c8b0
                    try clear c9
                    try clear c9b0
                    try clear c12
                    try clear p12
                    try clear q12
                    try clear hx12
                    try clear c13
                    try clear c13b0
                    try clear q15
                    try clear c16
                    try clear c17
                    try clear c17b0
                    try clear c19
                    try clear c19b0
                    try clear c21
                    try clear c23
                    try clear c23b0
                    try clear c26
                    try clear c28
                    try clear c28b0
                    try clear hcz12_0
                    try clear hcz12_1
                    try clear hcz12_2
                    try clear hcz14_0
                    try clear hcz14_1
                    try clear hcz14_2
                    try clear hcz18_0
                    try clear hcz18_1
                    try clear hcz18_2
                    try clear hcz20_0
                    try clear hcz20_1
                    try clear hcz20_2
                    try clear hcz22_0
                    try clear hcz22_1
                    try clear hcz22_2
                    try clear hcz24_0
                    try clear hcz24_1
                    try clear hcz24_2
                    try clear hcz25_0
                    try clear hcz25_1
                    try clear hcz25_2
                    try clear hcz27_0
                    try clear hcz27_1
                    try clear hcz27_2
                    try clear hcz29_0
                    try clear hcz29_1
                    try clear hcz29_2
                    try clear hcz30_0
                    try clear hcz30_1
                    try clear hcz30_2
                    try clear hfz12_0
                    try clear hfz12_1
                    try clear hfz12_2
                    try clear hfz14_0
                    try clear hfz14_1
                    try clear hfz14_2
                    try clear hfz18_0
                    try clear hfz18_1
                    try clear hfz18_2
                    try clear hfz20_0
                    try clear hfz20_1
                    try clear hfz20_2
                    try clear hfz22_0
                    try clear hfz22_1
                    try clear hfz22_2
                    try clear hfz24_0
                    try clear hfz24_1
                    try clear hfz24_2
                    try clear hfz25_0
                    try clear hfz25_1
                    try clear hfz25_2
                    try clear hfz27_0
                    try clear hfz27_1
                    try clear hfz27_2
                    try clear hfz29_0
                    try clear hfz29_1
                    try clear hfz29_2
                    try clear hfz30_0
                    try clear hfz30_1
                    try clear hfz30_2
                    try clear hx120_0
                    try clear hx120_1
                    try clear hx120_2
                    try clear p120
                    try clear p2
                    try clear q120
                    obtain ⟨kq, x66_9, rfl, HA, HJ9, HO_6, BK121, HB⟩ := hcut
                    cases kq with
                    | zero => exact absurd HA.out (by simp [spec_RunsFit.j2])
                    | succ kj9 =>
                      have H := HA.out
                      clear HA
                      simp only [spec_RunsFit.j2] at H
                      by_cases c31 : x66_9 = true
                      · subst c31
                        have H1 : (some (([] : List Int), false)) = some (r1, r2) := by rw [if_pos rfl] at H; exact H
                        clear H
                        have H := H1
                        clear H1
                        simp only [Option.some.injEq, Prod.mk.injEq] at H
                        obtain ⟨rfl, rfl⟩ := H
                        go_wp2
                        go_ret2
                        exact ⟨_, by first | rfl | (simp [errW_none, errW_some] <;> rfl) | (simp [*, errW_none, errW_some] <;> rfl), by first | exact Kd.R_nil _ _ _ _ _ | exact Kd.N_nil _ _ _ _ _ | exact Kd.V_nil _ _ _ _ _ | exact Kd.Q_nil _ _ _ _ _ | exact Kd.S_nil _ _ _ _ _, by repeat (first | (with_reducible first | exact HB.out | apply below_alloc | apply pw_below_drewN | apply below_drew1 | refine below_set ?_ GE121.out) | exact HB.out)⟩
                      · replace c31 := Bool.eq_false_iff.mpr c31
                        subst c31
                        have H1 : (spec_RunsFit.l1 kj9 a1 x6_2 l0 (l0.length : Int) x26_2 ((rd_T53 l0 x26_2).f2) (((rd_T53 l0 x26_2).f2).length : Int) 0 ((rd_T53 l0 x26_2).f0) ((rd_T53 l0 x26_2).f1) ((rd_T53 l0 x26_2).f2)) = some (r1, r2) := by rw [if_neg (show ¬ (false = true) by decide)] at H; exact H
                        clear H
                        have H := H1
                        clear H1
                        have H' := Aside0.mk H
                        clear H
                        have hcz32_0 : wc.cell? ⟨gb121, 0, none⟩ = some (.bool ((rd_T53 l0 x26_2).f0)) := (blk_cell BK121.out 0).trans rfl
                        have hcz32_1 : wc.cell? ⟨gb121, 1, none⟩ = some (.int .i64 ((rd_T53 l0 x26_2).f1)) := (blk_cell BK121.out 1).trans rfl
                        have hcz32_2 : wc.cell? ⟨gb121, 2, none⟩ = some (.slice A120_2 ((rd_T53 l0 x26_2).f2).length c120_2) := (blk_cell BK121.out 2).trans rfl
                        have hfz32_0 := blk_frozen BK121.out 0
                        have hfz32_1 := blk_frozen BK121.out 1
                        have hfz32_2 := blk_frozen BK121.out 2
                        go_wp2
                        go_loopg [70] kj9 (fun kq v70 w' => ∃ (x70_4 : Int), v70 = .int .i64 x70_4 ∧ Aside0 (spec_RunsFit.l1 kq a1 x6_2 l0 (l0.length : Int) x26_2 ((rd_T53 l0 x26_2).f2) (((rd_T53 l0 x26_2).f2).length : Int) x70_4 ((rd_T53 l0 x26_2).f0) ((rd_T53 l0 x26_2).f1) ((rd_T53 l0 x26_2).f2) = some (r1, r2)) ∧ Aside0 (kq ≤ kj9) ∧ Aside0 (Kd.R (Kd.int .u64) 33 w' w.heap.size (fun _ => True) u6 x6_2) ∧ Aside0 (w'.heap[gb121]? = some (.cells #[.bool ((rd_T53 l0 x26_2).f0), .int .i64 ((rd_T53 l0 x26_2).f1), (.slice A120_2 ((rd_T53 l0 x26_2).f2).length c120_2)] 53 (0, 0))) ∧ Aside0 (Below w.heap.size w w'))
                        case atStart => exact ⟨(0), (by first | rfl | (simp; done) | (simp [*]; done)), H', ⟨Nat.le_refl _⟩, ⟨by (with_reducible repeat (first | apply Kd.R_alloc | apply Kd.R_drewN | apply Kd.R_drew)); exact HO_6.out⟩, ⟨by (with_reducible repeat (first | refine blk_drewN ?_ _ | refine blk_drew ?_ | refine blk_alloc ?_ _)); exact BK121.out⟩, ⟨by repeat (first | (with_reducible first | exact HB.out | apply below_alloc | apply pw_below_drewN | apply below_drew1 | refine below_set ?_ GE121.out) | exact HB.out)⟩⟩
                        case round =>
                          clear H'
                          try clear c1
                          try clear p1
                          try clear q1
                          try clear hx1
                          try clear c2
                          try clear p2
                          try clear c3
                          try clear c4
                          try clear c4b0
                          try clear c4b1
                          try clear c5
                          try clear c5b0
                          try clear c6
                          try clear p6
                          try clear c7
                          try clear c7b0
                          try clear c8
                          try clear c8b0
                          try clear c9
                          try clear c9b0
                          try clear c12
                          try clear p12
                          try clear q12
                          try clear hx12
                          try clear c13
                          try clear c13b0
                          try clear q15
                          try clear c16
                          try clear c17
                          try clear c17b0
                          try clear c19
                          try clear c19b0
                          try clear c21
                          try clear c23
                          try clear c23b0
                          try clear c26
                          try clear c28
                          try clear c28b0
                          try clear c31
                          try clear c32
                          try clear hcz12_0
                          try clear hcz12_1
                          try clear hcz12_2
                          try clear hcz14_0
                          try clear hcz14_1
                          try clear hcz14_2
                          try clear hcz18_0
                          try clear hcz18_1
                          try clear hcz18_2
                          try clear hcz20_0
                          try clear hcz20_1
                          try clear hcz20_2
                          try clear hcz22_0
                          try clear hcz22_1
                          try clear hcz22_2
                          try clear hcz24_0
                          try clear hcz24_1
                          try clear hcz24_2
                          try clear hcz25_0
                          try clear hcz25_1
                          try clear hcz25_2
                          try clear hcz27_0
                          try clear hcz27_1
                          try clear hcz27_2
                          try clear hcz29_0
                          try clear hcz29_1
                          try clear hcz29_2
                          try clear hcz30_0
                          try clear hcz30_1
                          try clear hcz30_2
                          try clear hcz32_0
                          try clear hcz32_1
                          try clear hcz32_2
                          try clear hfz12_0
                          try clear hfz12_1
                          try clear hfz12_2
                          try clear hfz14_0
                          try clear hfz14_1
                          try clear hfz14_2
                          try clear hfz18_0
                          try clear hfz18_1
                          try clear hfz18_2
                          try clear hfz20_0
                          try clear hfz20_1
                          try clear hfz20_2
                          try clear hfz22_0
                          try clear hfz22_1
                          try clear hfz22_2
                          try clear hfz24_0
                          try clear hfz24_1
                          try clear hfz24_2
                          try clear hfz25_0
                          try clear hfz25_1
                          try clear hfz25_2
                          try clear hfz27_0
                          try clear hfz27_1
                          try clear hfz27_2
                          try clear hfz29_0
                          try clear hfz29_1
                          try clear hfz29_2
                          try clear hfz30_0
                          try clear hfz30_1
                          try clear hfz30_2
                          try clear hfz32_0
                          try clear hfz32_1
                          try clear hfz32_2
                          try clear hx120_0
                          try clear hx120_1
                          try clear hx120_2
                          try clear p1
                          try clear p12
                          try clear p120
                          try clear p2
                          try clear p6
                          try clear q1
                          try clear q12
                          try clear q120
                          try clear q15
                          obtain ⟨x70_4, rfl, HA, HK4, HO_6, BK121, HB⟩ := hrel
                          cases gk with
                          | zero => exact absurd HA.out (by simp [spec_RunsFit.l1])
                          | succ k4 =>
                            have H := HA.out
                            clear HA
                            simp only [spec_RunsFit.l1] at H
                            by_cases c33 : x70_4 < (((rd_T53 l0 x26_2).f2).length : Int)
                            · rw [if_pos c33] at H
                              have c33b0 : decide (x70_4 < (((rd_T53 l0 x26_2).f2).length : Int)) = true := decide_eq_true c33
                              clear c33
                              by_cases c34 : 0 ≤ x70_4
                              · rw [if_pos c34] at H
                                have c34b0 : decide (0 ≤ x70_4) = true := decide_eq_true c34
                                clear c34
                                by_cases c35 : x70_4 < (((rd_T53 l0 x26_2).f2).length : Int)
                                · rw [if_pos c35] at H
                                  have c35b0 : decide (x70_4 < (((rd_T53 l0 x26_2).f2).length : Int)) = true := decide_eq_true c35
                                  clear c35
                                  by_cases c36 : a1 < 64
                                  · rw [if_pos c36] at H
                                    have c36b0 : decide (a1 < 64) = true := decide_eq_true c36
                                    clear c36
                                    by_cases c37 : 0 ≤ a1
                                    · rw [if_pos c37] at H
                                      have c37b0 := eq_true c37
                                      have c37b1 : decide (0 ≤ a1) = true := decide_eq_true c37
                                      clear c37
                                      obtain ⟨ji38, hji38⟩ : ∃ j_ : Int, (shr .u64 (rd ((rd_T53 l0 x26_2).f2) x70_4) a1) = j_ := ⟨_, rfl⟩
                                      replace H : (if (ji38) > 0 then (some (([] : List Int), false)) else (spec_RunsFit.l1 k4 a1 x6_2 l0 (l0.length : Int) x26_2 ((rd_T53 l0 x26_2).f2) (((rd_T53 l0 x26_2).f2).length : Int) (wrap64 (x70_4 + 1)) ((rd_T53 l0 x26_2).f0) ((rd_T53 l0 x26_2).f1) ((rd_T53 l0 x26_2).f2))) = some (r1, r2) := by first | (rw [hji38] at H; exact H) | (simp only [hji38] at H ⊢; exact H)
                                      have hji38_ : ((rd ((rd_T53 l0 x26_2).f2) x70_4) / 2 ^ min a1.toNat 64) = ji38 := hji38
                                      have hji38z : a1 ≤ 64 → ((rd ((rd_T53 l0 x26_2).f2) x70_4) / 2 ^ a1.toNat) = ji38 := shr_small hji38
                                      by_cases c39 : (ji38) > 0
                                      · rw [if_pos c39] at H
                                        have c39b0 : decide (0 < (ji38)) = true := decide_eq_true c39
                                        clear c39
                                        simp only [Option.some.injEq, Prod.mk.injEq] at H
                                        obtain ⟨rfl, rfl⟩ := H
                                        have p122 : 0 ≤ (x70_4 : Int) := of_decide_eq_true (by first | (with_reducible assumption) | assumption)
                                        have q122 : x70_4 < (((rd_T53 l0 x26_2).f2).length : Int) := of_decide_eq_true (by first | (with_reducible assumption) | assumption)
                                        obtain ⟨ad122, e122, hx122_0⟩ := Kd.at_int HR120_2.out x70_4 p122 q122
                                        cases e122
                                        replace hx122_0 := (HB.out.cell (World.block_lt_of_cell? w _ hx122_0)).trans hx122_0
                                        replace p122 := eq_true p122
                                        replace q122 := eq_true q122
                                        go_wp2
                                        go_ret2
                                        exact ⟨_, by first | rfl | (simp [errW_none, errW_some] <;> rfl) | (simp only [← hji38]; first | rfl | (simp [errW_none, errW_some] <;> rfl)) | (simp [*, errW_none, errW_some] <;> rfl), by first | exact Kd.R_nil _ _ _ _ _ | exact Kd.N_nil _ _ _ _ _ | exact Kd.V_nil _ _ _ _ _ | exact Kd.Q_nil _ _ _ _ _ | exact Kd.S_nil _ _ _ _ _, by repeat (first | (with_reducible first | exact HB.out | apply below_alloc | apply pw_below_drewN | apply below_drew1 | refine below_set ?_ GE121.out) | exact HB.out)⟩
                                      · rw [if_neg c39] at H
                                        have c39b0 : decide (0 < (ji38)) = false := decide_eq_false c39
                                        clear c39
                                        have H' := Aside0.mk H
                                        clear H
                                        have p122 : 0 ≤ (x70_4 : Int) := of_decide_eq_true (by first | (with_reducible assumption) | assumption)
                                        have q122 : x70_4 < (((rd_T53 l0 x26_2).f2).length : Int) := of_decide_eq_true (by first | (with_reducible assumption) | assumption)
                                        obtain ⟨ad122, e122, hx122_0⟩ := Kd.at_int HR120_2.out x70_4 p122 q122
                                        cases e122
                                        replace hx122_0 := (HB.out.cell (World.block_lt_of_cell? w _ hx122_0)).trans hx122_0
                                        replace p122 := eq_true p122
                                        replace q122 := eq_true q122
                                        go_wp2
                                        go_roundg k4
                                        case measure => have := HJ2.out; have := HK2.out; have := HJ9.out; have := HK4.out; omega
                                        case rel => exact ⟨(wrap64 (x70_4 + 1)), (by first | rfl | (simp; done) | (simp [*]; done)), H', ⟨by have := HJ2.out; have := HK2.out; have := HJ9.out; have := HK4.out; omega⟩, ⟨by (with_reducible repeat (first | apply Kd.R_alloc | apply Kd.R_drewN | apply Kd.R_drew)); exact HO_6.out⟩, ⟨by (with_reducible repeat (first | refine blk_drewN ?_ _ | refine blk_drew ?_ | refine blk_alloc ?_ _)); exact BK121.out⟩, ⟨by repeat (first | (with_reducible first | exact HB.out | apply below_alloc | apply pw_below_drewN | apply below_drew1 | refine below_set ?_ GE121.out) | exact HB.out)⟩⟩
                                    · rw [if_neg c37] at H
                                      exact absurd H (by simp)
                                  · rw [if_neg c36] at H
                                    have c36b0 : decide (a1 < 64) = false := decide_eq_false c36
                                    clear c36
                                    have H' := Aside0.mk H
                                    clear H
                                    have p122 : 0 ≤ (x70_4 : Int) := of_decide_eq_true (by first | (with_reducible assumption) | assumption)
                                    have q122 : x70_4 < (((rd_T53 l0 x26_2).f2).length : Int) := of_decide_eq_true (by first | (with_reducible assumption) | assumption)
                                    obtain ⟨ad122, e122, hx122_0⟩ := Kd.at_int HR120_2.out x70_4 p122 q122
                                    cases e122
                                    replace hx122_0 := (HB.out.cell (World.block_lt_of_cell? w _ hx122_0)).trans hx122_0
                                    replace p122 := eq_true p122
                                    replace q122 := eq_true q122
                                    go_wp2
                                    go_roundg k4
                                    case measure => have := HJ2.out; have := HK2.out; have := HJ9.out; have := HK4.out; omega
                                    case rel => exact ⟨(wrap64 (x70_4 + 1)), (by first | rfl | (simp; done) | (simp [*]; done)), H', ⟨by have := HJ2.out; have := HK2.out; have := HJ9.out; have := HK4.out; omega⟩, ⟨by (with_reducible repeat (first | apply Kd.R_alloc | apply Kd.R_drewN | apply Kd.R_drew)); exact HO_6.out⟩, ⟨by (with_reducible repeat (first | refine blk_drewN ?_ _ | refine blk_drew ?_ | refine blk_alloc ?_ _)); exact BK121.out⟩, ⟨by repeat (first | (with_reducible first | exact HB.out | apply below_alloc | apply pw_below_drewN | apply below_drew1 | refine below_set ?_ GE121.out) | exact HB.out)⟩⟩
                                · rw [if_neg c35] at H
                                  exact absurd H (by simp)
                              · rw [if_neg c34] at H
                                exact absurd H (by simp)
                            · rw [if_neg c33] at H
                              have c33b0 : decide (x70_4 < (((rd_T53 l0 x26_2).f2).length : Int)) = false := decide_eq_false c33
                              clear c33
                              by_cases c40 : ((rd_T53 l0 x26_2).f0) = true
                              · rw [if_pos c40] at H
                                have c40b0 : ((rd_T53 l0 x26_2).f0) = true := c40
                                clear c40
                                by_cases c41 : x6_2.length + ((rd_T53 l0 x26_2).f2).length < 17592186044416
                                · rw [if_pos c41] at H
                                  have LMc41 := Aside0.mk c41
                                  clear c41
                                  obtain ⟨y123, hy123⟩ : ∃ y_ : List Int, y_ = (x6_2 ++ ((rd_T53 l0 x26_2).f2)) := ⟨_, rfl⟩
                                  replace H : (spec_RunsFit.l2 k4 a1 y123 (((rd_T53 l0 x26_2).f2).length : Int) l0 (l0.length : Int) x26_2 ((rd_T53 l0 x26_2).f0) ((rd_T53 l0 x26_2).f1) ((rd_T53 l0 x26_2).f2)) = some (r1, r2) := by first | (rw [hy123]; with_reducible exact H) | (have H2_ := (Option.bind_some _ _).symm.trans H; rw [hy123]; with_reducible exact H2_) | (have H2_ := (Option.bind_some _ _).symm.trans H; with_reducible exact H2_) | with_reducible exact H | (rw [hy123]; exact H) | exact H
                                  have Ny123 := Aside0.mk hy123
                                  clear hy123
                                  have H' := Aside0.mk H
                                  clear H
                                  have hcz42_0 : wr.cell? ⟨gb121, 0, none⟩ = some (.bool ((rd_T53 l0 x26_2).f0)) := (blk_cell BK121.out 0).trans rfl
                                  have hcz42_1 : wr.cell? ⟨gb121, 1, none⟩ = some (.int .i64 ((rd_T53 l0 x26_2).f1)) := (blk_cell BK121.out 1).trans rfl
                                  have hcz42_2 : wr.cell? ⟨gb121, 2, none⟩ = some (.slice A120_2 ((rd_T53 l0 x26_2).f2).length c120_2) := (blk_cell BK121.out 2).trans rfl
                                  have hfz42_0 := blk_frozen BK121.out 0
                                  have hfz42_1 := blk_frozen BK121.out 1
                                  have hfz42_2 := blk_frozen BK121.out 2
                                  go_wp2_with (first | ((with_reducible refine gate_builtin (b := .append) (xs := #[.tmp 85, .tmp 87]) rfl ?_); (try (refine gate_guard (by rfl) ?_; dsimp only)); at_builtin; refine Kd.R_append_rows (Kd.int .u64) (w0 := w) w.heap.size rfl (.tmp 85) (.tmp 87) 37 33 (.int .u64 0) 8 rfl Tryz.underlying37 info33 rfl (by decide) (by omega) u6 x6_2 ((rd_T53 l0 x26_2).f2) _ _ _ (fun _ => True) (fun _ => False) rfl rfl ?aO ?aR (fun _ _ h => h) (fun _ h => h.elim) ?aF ?aB ?aS ?aL ?_; (case aR => repeat (first | exact (Kd.C_below HR120_2.out HB.out) | (with_reducible refine Kd.C_alloc ?_ _) | (with_reducible refine Kd.C_drewN ?_ _) | (with_reducible refine Kd.C_drew ?_))); (case aB => exact (by repeat (first | (with_reducible first | exact HB.out | apply below_alloc | apply pw_below_drewN | apply below_drew1 | refine below_set ?_ GE121.out) | exact HB.out))); (case aF => exact (fun _ _ => trivial)); (case aO => exact (by (with_reducible repeat (first | apply Kd.R_alloc | apply Kd.R_drewN | apply Kd.R_drew)); exact HO_6.out)); (case aS => exact (below_size (by repeat (first | (with_reducible first | exact HB.out | apply below_alloc | apply pw_below_drewN | apply below_drew1 | refine below_set ?_ GE121.out) | exact HB.out)))); (case aL => have := LMc41.out; omega); intro v124 w43 ho hb hg hat; rw [← Ny123.out] at ho; have n0_ := Aside0.mk (blk_grown (g := gb121) (o := .cells #[.bool ((rd_T53 l0 x26_2).f0), .int .i64 ((rd_T53 l0 x26_2).f1), .slice A120_2 ((rd_T53 l0 x26_2).f2).length c120_2] 53 (0, 0)) (by (with_reducible repeat (first | refine blk_drewN ?_ _ | refine blk_drew ?_ | refine blk_alloc ?_ _)); exact BK121.out) hg (Kd.R_ne HO_6.out BK121.out (by decide))); have n1_ := Aside0.mk (hb); have n2_ := Aside0.mk (ho); clear BK121; clear HB; clear HO_6; have BK121 := n0_; have HB := n1_; have HO125 := n2_; clear n0_ n1_ n2_; clear ho hb hg hat; have hcz44_0 : w43.cell? ⟨gb121, 0, none⟩ = some (.bool ((rd_T53 l0 x26_2).f0)) := (blk_cell BK121.out 0).trans rfl; have hcz44_1 : w43.cell? ⟨gb121, 1, none⟩ = some (.int .i64 ((rd_T53 l0 x26_2).f1)) := (blk_cell BK121.out 1).trans rfl; have hcz44_2 : w43.cell? ⟨gb121, 2, none⟩ = some (.slice A120_2 ((rd_T53 l0 x26_2).f2).length c120_2) := (blk_cell BK121.out 2).trans rfl; have hfz44_0 := blk_frozen BK121.out 0; have hfz44_1 := blk_frozen BK121.out 1; have hfz44_2 := blk_frozen BK121.out 2))
                                  go_loopg [6, 11] k4 (fun kq v6 v11 w' => ∃ (x6_5 : List Int) (x11_5 : Int), v11 = .int .i64 x11_5 ∧ Aside0 (spec_RunsFit.l2 kq a1 x6_5 x11_5 l0 (l0.length : Int) x26_2 ((rd_T53 l0 x26_2).f0) ((rd_T53 l0 x26_2).f1) ((rd_T53 l0 x26_2).f2) = some (r1, r2)) ∧ Aside0 (kq ≤ k4) ∧ Aside0 (Kd.R (Kd.int .u64) 33 w' w.heap.size (fun _ => True) v6 x6_5) ∧ Aside0 (w'.heap[gb121]? = some (.cells #[.bool ((rd_T53 l0 x26_2).f0), .int .i64 ((rd_T53 l0 x26_2).f1), (.slice A120_2 ((rd_T53 l0 x26_2).f2).length c120_2)] 53 (0, 0))) ∧ Aside0 (Below w.heap.size w w'))
                                  case atStart => exact ⟨(y123), ((((rd_T53 l0 x26_2).f2).length : Int)), (by first | rfl | (simp; done) | (simp [*]; done)), H', ⟨Nat.le_refl _⟩, ⟨by (with_reducible repeat (first | apply Kd.R_alloc | apply Kd.R_drewN | apply Kd.R_drew)); exact HO125.out⟩, ⟨by (with_reducible repeat (first | refine blk_drewN ?_ _ | refine blk_drew ?_ | refine blk_alloc ?_ _)); exact BK121.out⟩, ⟨by repeat (first | (with_reducible first | exact HB.out | apply below_alloc | apply pw_below_drewN | apply below_drew1 | refine below_set ?_ GE121.out) | exact HB.out)⟩⟩
                                  case round =>
                                    clear H'
                                    try clear c1
                                    try clear p1
                                    try clear q1
                                    try clear hx1
                                    try clear c2
                                    try clear p2
                                    try clear c3
                                    try clear c4
                                    try clear c4b0
                                    try clear c4b1
                                    try clear c5
                                    try clear c5b0
                                    try clear c6
                                    try clear p6
                                    try clear c7
                                    try clear c7b0
                                    try clear c8
                                    try clear c8b0
                                    try clear c9
                                    try clear c9b0
                                    try clear c12
                                    try clear p12
                                    try clear q12
                                    try clear hx12
                                    try clear c13
                                    try clear c13b0
                                    try clear q15
                                    try clear c16
                                    try clear c17
                                    try clear c17b0
                                    try clear c19
                                    try clear c19b0
                                    try clear c21
                                    try clear c23
                                    try clear c23b0
                                    try clear c26
                                    try clear c28
                                    try clear c28b0
                                    try clear c31
                                    try clear c32
                                    try clear c33
                                    try clear c33b0
                                    try clear c34
                                    try clear c34b0
                                    try clear c35
                                    try clear c35b0
                                    try clear c36
                                    try clear c36b0
                                    try clear c37
                                    try clear c37b0
                                    try clear c37b1
                                    try clear c39
                                    try clear c39b0
                                    try clear c40
                                    try clear c40b0
                                    try clear c41
                                    try clear hcz12_0
                                    try clear hcz12_1
                                    try clear hcz12_2
                                    try clear hcz14_0
                                    try clear hcz14_1
                                    try clear hcz14_2
                                    try clear hcz18_0
                                    try clear hcz18_1
                                    try clear hcz18_2
                                    try clear hcz20_0
                                    try clear hcz20_1
                                    try clear hcz20_2
                                    try clear hcz22_0
                                    try clear hcz22_1
                                    try clear hcz22_2
                                    try clear hcz24_0
                                    try clear hcz24_1
                                    try clear hcz24_2
                                    try clear hcz25_0
                                    try clear hcz25_1
                                    try clear hcz25_2
                                    try clear hcz27_0
                                    try clear hcz27_1
                                    try clear hcz27_2
                                    try clear hcz29_0
                                    try clear hcz29_1
                                    try clear hcz29_2
                                    try clear hcz30_0
                                    try clear hcz30_1
                                    try clear hcz30_2
                                    try clear hcz32_0
                                    try clear hcz32_1
                                    try clear hcz32_2
                                    try clear hcz42_0
                                    try clear hcz42_1
                                    try clear hcz42_2
                                    try clear hcz44_0
                                    try clear hcz44_1
                                    try clear hcz44_2
                                    try clear hfz12_0
                                    try clear hfz12_1
                                    try clear hfz12_2
                                    try clear hfz14_0
                                    try clear hfz14_1
                                    try clear hfz14_2
                                    try clear hfz18_0
                                    try clear hfz18_1
                                    try clear hfz18_2
                                    try clear hfz20_0
                                    try clear hfz20_1
                                    try clear hfz20_2
                                    try clear hfz22_0
                                    try clear hfz22_1
                                    try clear hfz22_2
                                    try clear hfz24_0
                                    try clear hfz24_1
                                    try clear hfz24_2
                                    try clear hfz25_0
                                    try clear hfz25_1
                                    try clear hfz25_2
                                    try clear hfz27_0
                                    try clear hfz27_1
                                    try clear hfz27_2
                                    try clear hfz29_0
                                    try clear hfz29_1
                                    try clear hfz29_2
                                    try clear hfz30_0
                                    try clear hfz30_1
                                    try clear hfz30_2
                                    try clear hfz32_0
                                    try clear hfz32_1
                                    try clear hfz32_2
                                    try clear hfz42_0
                                    try clear hfz42_1
                                    try clear hfz42_2
                                    try clear hfz44_0
                                    try clear hfz44_1
                                    try clear hfz44_2
                                    try clear hx120_0
                                    try clear hx120_1
                                    try clear hx120_2
                                    try clear hx122_0
                                    try clear p1
                                    try clear p12
                                    try clear p120
                                    try clear p122
                                    try clear p2
                                    try clear p6
                                    try clear q1
                                    try clear q12
                                    try clear q120
                                    try clear q122
                                    try clear q15
                                    obtain ⟨x6_5, x11_5, rfl, HA, HK5, HO_6, BK121, HB⟩ := hrel
                                    cases gk with
                                    | zero => exact absurd HA.out (by simp [spec_RunsFit.l2])
                                    | succ k5 =>
                                      have H := HA.out
                                      clear HA
                                      simp only [spec_RunsFit.l2] at H
                                      by_cases c45 : x11_5 < (wrap64 (8 * ((rd_T53 l0 x26_2).f1)))
                                      · rw [if_pos c45] at H
                                        have c45b0 : decide (x11_5 < (wrap64 (8 * ((rd_T53 l0 x26_2).f1)))) = true := decide_eq_true c45
                                        clear c45
                                        by_cases c46 : x6_5.length < 17592186044416
                                        · rw [if_pos c46] at H
                                          have LMc46 := Aside0.mk c46
                                          clear c46
                                          obtain ⟨y126, hy126⟩ : ∃ y_ : List Int, y_ = (x6_5 ++ [0]) := ⟨_, rfl⟩
                                          replace H : (spec_RunsFit.l2 k5 a1 y126 (wrap64 (x11_5 + 1)) l0 (l0.length : Int) x26_2 ((rd_T53 l0 x26_2).f0) ((rd_T53 l0 x26_2).f1) ((rd_T53 l0 x26_2).f2)) = some (r1, r2) := by first | (rw [hy126]; with_reducible exact H) | (have H2_ := (Option.bind_some _ _).symm.trans H; rw [hy126]; with_reducible exact H2_) | (have H2_ := (Option.bind_some _ _).symm.trans H; with_reducible exact H2_) | with_reducible exact H | (rw [hy126]; exact H) | exact H
                                          have Ny126 := Aside0.mk hy126
                                          clear hy126
                                          have H' := Aside0.mk H
                                          clear H
                                          have hcz47_0 : wr.cell? ⟨gb121, 0, none⟩ = some (.bool ((rd_T53 l0 x26_2).f0)) := (blk_cell BK121.out 0).trans rfl
                                          have hcz47_1 : wr.cell? ⟨gb121, 1, none⟩ = some (.int .i64 ((rd_T53 l0 x26_2).f1)) := (blk_cell BK121.out 1).trans rfl
                                          have hcz47_2 : wr.cell? ⟨gb121, 2, none⟩ = some (.slice A120_2 ((rd_T53 l0 x26_2).f2).length c120_2) := (blk_cell BK121.out 2).trans rfl
                                          have hfz47_0 := blk_frozen BK121.out 0
                                          have hfz47_1 := blk_frozen BK121.out 1
                                          have hfz47_2 := blk_frozen BK121.out 2
                                          go_wp2_with (first | ((with_reducible refine gate_builtin (b := .append) (xs := #[.tmp 99, .tmp 100]) rfl ?_); (try (refine gate_guard (by rfl) ?_; dsimp only)); at_builtin; refine Kd.R_append (Kd.int .u64) (w0 := w) w.heap.size rfl (.tmp 99) (.tmp 100) 37 33 (.int .u64 0) 8 rfl Tryz.underlying37 info33 rfl (by decide) (by omega) u6 x6_5 0 [.int .u64 0] (fun _ => True) (fun _ => False) rfl rfl ?aP (fun _ hk => hk.elim) ?aF ?aO ?aB ?aS ?aL ?_; (case aP => exact rfl); (case aB => exact (by repeat (first | (with_reducible first | exact HB.out | apply below_alloc | apply pw_below_drewN | apply below_drew1 | refine below_set ?_ GE121.out) | exact HB.out))); (case aF => exact (fun _ _ => trivial)); (case aO => exact (by (with_reducible repeat (first | apply Kd.R_alloc | apply Kd.R_drewN | apply Kd.R_drew)); exact HO_6.out)); (case aS => exact (below_size (by repeat (first | (with_reducible first | exact HB.out | apply below_alloc | apply pw_below_drewN | apply below_drew1 | refine below_set ?_ GE121.out) | exact HB.out)))); (case aL => have := LMc46.out; omega); intro v127 w48 ho hb hg hat; rw [← Ny126.out] at ho; have n0_ := Aside0.mk (blk_grown (g := gb121) (o := .cells #[.bool ((rd_T53 l0 x26_2).f0), .int .i64 ((rd_T53 l0 x26_2).f1), .slice A120_2 ((rd_T53 l0 x26_2).f2).length c120_2] 53 (0, 0)) (by (with_reducible repeat (first | refine blk_drewN ?_ _ | refine blk_drew ?_ | refine blk_alloc ?_ _)); exact BK121.out) hg (Kd.R_ne HO_6.out BK121.out (by decide))); have n1_ := Aside0.mk (hb); have n2_ := Aside0.mk (ho); clear BK121; clear HB; clear HO_6; have BK121 := n0_; have HB := n1_; have HO128 := n2_; clear n0_ n1_ n2_; clear ho hb hg hat))
                                          go_roundg k5
                                          case measure => have := HJ2.out; have := HK2.out; have := HJ9.out; have := HK4.out; have := HK5.out; omega
                                          case rel => exact ⟨(y126), (wrap64 (x11_5 + 1)), (by first | rfl | (simp; done) | (simp [*]; done)), H', ⟨by have := HJ2.out; have := HK2.out; have := HJ9.out; have := HK4.out; have := HK5.out; omega⟩, ⟨by (with_reducible repeat (first | apply Kd.R_alloc | apply Kd.R_drewN | apply Kd.R_drew)); exact HO128.out⟩, ⟨by (with_reducible repeat (first | refine blk_drewN ?_ _ | refine blk_drew ?_ | refine blk_alloc ?_ _)); exact BK121.out⟩, ⟨by repeat (first | (with_reducible first | exact HB.out | apply below_alloc | apply pw_below_drewN | apply below_drew1 | refine below_set ?_ GE121.out) | exact HB.out)⟩⟩
                                        · rw [if_neg c46] at H
                                          exact absurd H (by simp)
                                      · rw [if_neg c45] at H
                                        have c45b0 : decide (x11_5 < (wrap64 (8 * ((rd_T53 l0 x26_2).f1)))) = false := decide_eq_false c45
                                        clear c45
                                        have H' := Aside0.mk H
                                        clear H
                                        have hcz49_0 : wr.cell? ⟨gb121, 0, none⟩ = some (.bool ((rd_T53 l0 x26_2).f0)) := (blk_cell BK121.out 0).trans rfl
                                        have hcz49_1 : wr.cell? ⟨gb121, 1, none⟩ = some (.int .i64 ((rd_T53 l0 x26_2).f1)) := (blk_cell BK121.out 1).trans rfl
                                        have hcz49_2 : wr.cell? ⟨gb121, 2, none⟩ = some (.slice A120_2 ((rd_T53 l0 x26_2).f2).length c120_2) := (blk_cell BK121.out 2).trans rfl
                                        have hfz49_0 := blk_frozen BK121.out 0
                                        have hfz49_1 := blk_frozen BK121.out 1
                                        have hfz49_2 := blk_frozen BK121.out 2
                                        go_wp2
                                        go_roundg k5
                                        case measure => have := HJ2.out; have := HK2.out; have := HJ9.out; have := HK4.out; have := HK5.out; omega
                                        case rel => exact ⟨(x6_5), (wrap64 (x26_2 + 1)), (by first | rfl | (simp; done) | (simp [*]; done)), H', ⟨by have := HJ2.out; have := HK2.out; have := HJ9.out; have := HK4.out; have := HK5.out; omega⟩, ⟨by (with_reducible repeat (first | apply Kd.R_alloc | apply Kd.R_drewN | apply Kd.R_drew)); exact HO_6.out⟩, ⟨by repeat (first | (with_reducible first | exact HB.out | apply below_alloc | apply pw_below_drewN | apply below_drew1 | refine below_set ?_ GE121.out) | exact HB.out)⟩⟩
                                · rw [if_neg c41] at H
                                  exact absurd H (by simp)
                              · rw [if_neg c40] at H
                                have c40b0 : ((rd_T53 l0 x26_2).f0) = false := by simpa using c40
                                clear c40
                                have H' := Aside0.mk H
                                clear H
                                have hcz50_0 : wr.cell? ⟨gb121, 0, none⟩ = some (.bool ((rd_T53 l0 x26_2).f0)) := (blk_cell BK121.out 0).trans rfl
                                have hcz50_1 : wr.cell? ⟨gb121, 1, none⟩ = some (.int .i64 ((rd_T53 l0 x26_2).f1)) := (blk_cell BK121.out 1).trans rfl
                                have hcz50_2 : wr.cell? ⟨gb121, 2, none⟩ = some (.slice A120_2 ((rd_T53 l0 x26_2).f2).length c120_2) := (blk_cell BK121.out 2).trans rfl
                                have hfz50_0 := blk_frozen BK121.out 0
                                have hfz50_1 := blk_frozen BK121.out 1
                                have hfz50_2 := blk_frozen BK121.out 2
                                go_wp2
                                go_loopg [6, 12] k4 (fun kq v6 v12 w' => ∃ (x6_5 : List Int) (x12_5 : Int), v12 = .int .i64 x12_5 ∧ Aside0 (spec_RunsFit.l3 kq a1 x6_5 x12_5 l0 (l0.length : Int) x26_2 ((rd_T53 l0 x26_2).f0) ((rd_T53 l0 x26_2).f1) ((rd_T53 l0 x26_2).f2) = some (r1, r2)) ∧ Aside0 (kq ≤ k4) ∧ Aside0 (Kd.R (Kd.int .u64) 33 w' w.heap.size (fun _ => True) v6 x6_5) ∧ Aside0 (w'.heap[gb121]? = some (.cells #[.bool ((rd_T53 l0 x26_2).f0), .int .i64 ((rd_T53 l0 x26_2).f1), (.slice A120_2 ((rd_T53 l0 x26_2).f2).length c120_2)] 53 (0, 0))) ∧ Aside0 (Below w.heap.size w w'))
                                case atStart => exact ⟨(x6_2), (0), (by first | rfl | (simp; done) | (simp [*]; done)), H', ⟨Nat.le_refl _⟩, ⟨by (with_reducible repeat (first | apply Kd.R_alloc | apply Kd.R_drewN | apply Kd.R_drew)); exact HO_6.out⟩, ⟨by (with_reducible repeat (first | refine blk_drewN ?_ _ | refine blk_drew ?_ | refine blk_alloc ?_ _)); exact BK121.out⟩, ⟨by repeat (first | (with_reducible first | exact HB.out | apply below_alloc | apply pw_below_drewN | apply below_drew1 | refine below_set ?_ GE121.out) | exact HB.out)⟩⟩
                                case round =>
                                  clear H'
                                  try clear c1
                                  try clear p1
                                  try clear q1
                                  try clear hx1
                                  try clear c2
                                  try clear p2
                                  try clear c3
                                  try clear c4
                                  try clear c4b0
                                  try clear c4b1
                                  try clear c5
                                  try clear c5b0
                                  try clear c6
                                  try clear p6
                                  try clear c7
                                  try clear c7b0
                                  try clear c8
                                  try clear c8b0
                                  try clear c9
                                  try clear c9b0
                                  try clear c12
                                  try clear p12
                                  try clear q12
                                  try clear hx12
                                  try clear c13
                                  try clear c13b0
                                  try clear q15
                                  try clear c16
                                  try clear c17
                                  try clear c17b0
                                  try clear c19
                                  try clear c19b0
                                  try clear c21
                                  try clear c23
                                  try clear c23b0
                                  try clear c26
                                  try clear c28
                                  try clear c28b0
                                  try clear c31
                                  try clear c32
                                  try clear c33
                                  try clear c33b0
                                  try clear c34
                                  try clear c34b0
                                  try clear c35
                                  try clear c35b0
                                  try clear c36
                                  try clear c36b0
                                  try clear c37
                                  try clear c37b0
                                  try clear c37b1
                                  try clear c39
                                  try clear c39b0
                                  try clear c40
                                  try clear c40b0
                                  try clear c41
                                  try clear c45
                                  try clear c45b0
                                  try clear c46
                                  try clear hcz12_0
                                  try clear hcz12_1
                                  try clear hcz12_2
                                  try clear hcz14_0
                                  try clear hcz14_1
                                  try clear hcz14_2
                                  try clear hcz18_0
                                  try clear hcz18_1
                                  try clear hcz18_2
                                  try clear hcz20_0
                                  try clear hcz20_1
                                  try clear hcz20_2
                                  try clear hcz22_0
                                  try clear hcz22_1
                                  try clear hcz22_2
                                  try clear hcz24_0
                                  try clear hcz24_1
                                  try clear hcz24_2
                                  try clear hcz25_0
                                  try clear hcz25_1
                                  try clear hcz25_2
                                  try clear hcz27_0
                                  try clear hcz27_1
                                  try clear hcz27_2
                                  try clear hcz29_0
                                  try clear hcz29_1
                                  try clear hcz29_2
                                  try clear hcz30_0
                                  try clear hcz30_1
                                  try clear hcz30_2
                                  try clear hcz32_0
                                  try clear hcz32_1
                                  try clear hcz32_2
                                  try clear hcz42_0
                                  try clear hcz42_1
                                  try clear hcz42_2
                                  try clear hcz44_0
                                  try clear hcz44_1
                                  try clear hcz44_2
                                  try clear hcz47_0
                                  try clear hcz47_1
                                  try clear hcz47_2
                                  try clear hcz49_0
                                  try clear hcz49_1
                                  try clear hcz49_2
                                  try clear hcz50_0
                                  try clear hcz50_1
                                  try clear hcz50_2
                                  try clear hfz12_0
                                  try clear hfz12_1
                                  try clear hfz12_2
                                  try clear hfz14_0
                                  try clear hfz14_1
                                  try clear hfz14_2
                                  try clear hfz18_0
                                  try clear hfz18_1
                                  try clear hfz18_2
                                  try clear hfz20_0
                                  try clear hfz20_1
                                  try clear hfz20_2
                                  try clear hfz22_0
                                  try clear hfz22_1
                                  try clear hfz22_2
                                  try clear hfz24_0
                                  try clear hfz24_1
                                  try clear hfz24_2
                                  try clear hfz25_0
                                  try clear hfz25_1
                                  try clear hfz25_2
                                  try clear hfz27_0
                                  try clear hfz27_1
                                  try clear hfz27_2
                                  try clear hfz29_0
                                  try clear hfz29_1
                                  try clear hfz29_2
                                  try clear hfz30_0
                                  try clear hfz30_1
                                  try clear hfz30_2
                                  try clear hfz32_0
                                  try clear hfz32_1
                                  try clear hfz32_2
                                  try clear hfz42_0
                                  try clear hfz42_1
                                  try clear hfz42_2
                                  try clear hfz44_0
                                  try clear hfz44_1
                                  try clear hfz44_2
                                  try clear hfz47_0
                                  try clear hfz47_1
                                  try clear hfz47_2
                                  try clear hfz49_0
                                  try clear hfz49_1
                                  try clear hfz49_2
                                  try clear hfz50_0
                                  try clear hfz50_1
                                  try clear hfz50_2
                                  try clear hx120_0
                                  try clear hx120_1
                                  try clear hx120_2
                                  try clear hx122_0
                                  try clear p1
                                  try clear p12
                                  try clear p120
                                  try clear p122
                                  try clear p2
                                  try clear p6
                                  try clear q1
                                  try clear q12
                                  try clear q120
                                  try clear q122
                                  try clear q15
                                  obtain ⟨x6_5, x12_5, rfl, HA, HK5, HO_6, BK121, HB⟩ := hrel
                                  cases gk with
                                  | zero => exact absurd HA.out (by simp [spec_RunsFit.l3])
                                  | succ k5 =>
                                    have H := HA.out
                                    clear HA
                                    simp only [spec_RunsFit.l3] at H
                                    by_cases c51 : x12_5 < ((rd_T53 l0 x26_2).f1)
                                    · rw [if_pos c51] at H
                                      have c51b0 : decide (x12_5 < ((rd_T53 l0 x26_2).f1)) = true := decide_eq_true c51
                                      clear c51
                                      by_cases c52 : 0 < (((rd_T53 l0 x26_2).f2).length : Int)
                                      · rw [if_pos c52] at H
                                        have c52b0 : decide (0 < (((rd_T53 l0 x26_2).f2).length : Int)) = true := decide_eq_true c52
                                        have c52b1 : decide (0 < ((rd_T53 l0 x26_2).f2).length) = true := decide_eq_true (by omega)
                                        clear c52
                                        by_cases c53 : x6_5.length < 17592186044416
                                        · rw [if_pos c53] at H
                                          have LMc53 := Aside0.mk c53
                                          clear c53
                                          obtain ⟨y130, hy130⟩ : ∃ y_ : List Int, y_ = (x6_5 ++ [rd ((rd_T53 l0 x26_2).f2) 0]) := ⟨_, rfl⟩
                                          replace H : (spec_RunsFit.l3 k5 a1 y130 (wrap64 (x12_5 + 1)) l0 (l0.length : Int) x26_2 ((rd_T53 l0 x26_2).f0) ((rd_T53 l0 x26_2).f1) ((rd_T53 l0 x26_2).f2)) = some (r1, r2) := by first | (rw [hy130]; with_reducible exact H) | (have H2_ := (Option.bind_some _ _).symm.trans H; rw [hy130]; with_reducible exact H2_) | (have H2_ := (Option.bind_some _ _).symm.trans H; with_reducible exact H2_) | with_reducible exact H | (rw [hy130]; exact H) | exact H
                                          have Ny130 := Aside0.mk hy130
                                          clear hy130
                                          have H' := Aside0.mk H
                                          clear H
                                          have hcz54_0 : wr.cell? ⟨gb121, 0, none⟩ = some (.bool ((rd_T53 l0 x26_2).f0)) := (blk_cell BK121.out 0).trans rfl
                                          have hcz54_1 : wr.cell? ⟨gb121, 1, none⟩ = some (.int .i64 ((rd_T53 l0 x26_2).f1)) := (blk_cell BK121.out 1).trans rfl
                                          have hcz54_2 : wr.cell? ⟨gb121, 2, none⟩ = some (.slice A120_2 ((rd_T53 l0 x26_2).f2).length c120_2) := (blk_cell BK121.out 2).trans rfl
                                          have hfz54_0 := blk_frozen BK121.out 0
                                          have hfz54_1 := blk_frozen BK121.out 1
                                          have hfz54_2 := blk_frozen BK121.out 2
                                          have p129 : 0 ≤ (0 : Int) := (by omega)
                                          have q129 : 0 < (((rd_T53 l0 x26_2).f2).length : Int) := of_decide_eq_true (by first | (with_reducible assumption) | assumption)
                                          obtain ⟨ad129, e129, hx129_0⟩ := Kd.at_int HR120_2.out 0 p129 q129
                                          cases e129
                                          have qi129 : (0 < ((rd_T53 l0 x26_2).f2).length) = True := eq_true (by omega)
                                          (try rw [show ((0 : Int)).toNat = 0 from rfl] at hx129_0)
                                          (try rw [Addr.add_zero'] at hx129_0)
                                          replace hx129_0 := (HB.out.cell (World.block_lt_of_cell? w _ hx129_0)).trans hx129_0
                                          replace p129 := eq_true p129
                                          replace q129 := eq_true q129
                                          go_wp2_with (first | ((with_reducible refine gate_builtin (b := .append) (xs := #[.tmp 108, .tmp 113]) rfl ?_); (try (refine gate_guard (by rfl) ?_; dsimp only)); at_builtin; refine Kd.R_append (Kd.int .u64) (w0 := w) w.heap.size rfl (.tmp 108) (.tmp 113) 37 33 (.int .u64 0) 8 rfl Tryz.underlying37 info33 rfl (by decide) (by omega) u6 x6_5 (rd ((rd_T53 l0 x26_2).f2) 0) [.int .u64 (rd ((rd_T53 l0 x26_2).f2) 0)] (fun _ => True) (fun _ => False) rfl rfl ?aP (fun _ hk => hk.elim) ?aF ?aO ?aB ?aS ?aL ?_; (case aP => exact rfl); (case aB => exact (by repeat (first | (with_reducible first | exact HB.out | apply below_alloc | apply pw_below_drewN | apply below_drew1 | refine below_set ?_ GE121.out) | exact HB.out))); (case aF => exact (fun _ _ => trivial)); (case aO => exact (by (with_reducible repeat (first | apply Kd.R_alloc | apply Kd.R_drewN | apply Kd.R_drew)); exact HO_6.out)); (case aS => exact (below_size (by repeat (first | (with_reducible first | exact HB.out | apply below_alloc | apply pw_below_drewN | apply below_drew1 | refine below_set ?_ GE121.out) | exact HB.out)))); (case aL => have := LMc53.out; omega); intro v131 w55 ho hb hg hat; rw [← Ny130.out] at ho; have n0_ := Aside0.mk (blk_grown (g := gb121) (o := .cells #[.bool ((rd_T53 l0 x26_2).f0), .int .i64 ((rd_T53 l0 x26_2).f1), .slice (some ad129) ((rd_T53 l0 x26_2).f2).length c120_2] 53 (0, 0)) (by (with_reducible repeat (first | refine blk_drewN ?_ _ | refine blk_drew ?_ | refine blk_alloc ?_ _)); exact BK121.out) hg (Kd.R_ne HO_6.out BK121.out (by decide))); have n1_ := Aside0.mk (hb); have n2_ := Aside0.mk (ho); clear BK121; clear HB; clear HO_6; have BK121 := n0_; have HB := n1_; have HO132 := n2_; clear n0_ n1_ n2_; clear ho hb hg hat))
                                          go_roundg k5
                                          case measure => have := HJ2.out; have := HK2.out; have := HJ9.out; have := HK4.out; have := HK5.out; omega
                                          case rel => exact ⟨(y130), (wrap64 (x12_5 + 1)), (by first | rfl | (simp; done) | (simp [*]; done)), H', ⟨by have := HJ2.out; have := HK2.out; have := HJ9.out; have := HK4.out; have := HK5.out; omega⟩, ⟨by (with_reducible repeat (first | apply Kd.R_alloc | apply Kd.R_drewN | apply Kd.R_drew)); exact HO132.out⟩, ⟨by (with_reducible repeat (first | refine blk_drewN ?_ _ | refine blk_drew ?_ | refine blk_alloc ?_ _)); exact BK121.out⟩, ⟨by repeat (first | (with_reducible first | exact HB.out | apply below_alloc | apply pw_below_drewN | apply below_drew1 | refine below_set ?_ GE121.out) | exact HB.out)⟩⟩
                                        · rw [if_neg c53] at H
                                          exact absurd H (by simp)
                                      · rw [if_neg c52] at H
                                        exact absurd H (by simp)
                                    · rw [if_neg c51] at H
                                      have c51b0 : decide (x12_5 < ((rd_T53 l0 x26_2).f1)) = false := decide_eq_false c51
                                      clear c51
                                      have H' := Aside0.mk H
                                      clear H
                                      have hcz56_0 : wr.cell? ⟨gb121, 0, none⟩ = some (.bool ((rd_T53 l0 x26_2).f0)) := (blk_cell BK121.out 0).trans rfl
                                      have hcz56_1 : wr.cell? ⟨gb121, 1, none⟩ = some (.int .i64 ((rd_T53 l0 x26_2).f1)) := (blk_cell BK121.out 1).trans rfl
                                      have hcz56_2 : wr.cell? ⟨gb121, 2, none⟩ = some (.slice A120_2 ((rd_T53 l0 x26_2).f2).length c120_2) := (blk_cell BK121.out 2).trans rfl
                                      have hfz56_0 := blk_frozen BK121.out 0
                                      have hfz56_1 := blk_frozen BK121.out 1
                                      have hfz56_2 := blk_frozen BK121.out 2
                                      go_wp2
                                      go_roundg k5
                                      case measure => have := HJ2.out; have := HK2.out; have := HJ9.out; have := HK4.out; have := HK5.out; omega
                                      case rel => exact ⟨(x6_5), (wrap64 (x26_2 + 1)), (by first | rfl | (simp; done) | (simp [*]; done)), H', ⟨by have := HJ2.out; have := HK2.out; have := HJ9.out; have := HK4.out; have := HK5.out; omega⟩, ⟨by (with_reducible repeat (first | apply Kd.R_alloc | apply Kd.R_drewN | apply Kd.R_drew)); exact HO_6.out⟩, ⟨by repeat (first | (with_reducible first | exact HB.out | apply below_alloc | apply pw_below_drewN | apply below_drew1 | refine below_set ?_ GE121.out) | exact HB.out)⟩⟩
                · rw [if_neg c9] at H
                  exact absurd H (by simp)
              · rw [if_neg c8] at H
                exact absurd H (by simp)
            · rw [if_neg c7] at H
              have c7b0 : decide (x26_2 < (l0.length : Int)) = false := decide_eq_false c7
              clear c7
              simp only [Option.some.injEq, Prod.mk.injEq] at H
              obtain ⟨rfl, rfl⟩ := H
              go_wp2
              go_ret2
              exact ⟨_, by first | rfl | (simp [errW_none, errW_some] <;> rfl) | (simp [*, errW_none, errW_some] <;> rfl), by (with_reducible repeat (first | apply Kd.R_alloc | apply Kd.R_drewN | apply Kd.R_drew)); exact HO_6.out, by repeat (first | (with_reducible first | exact HB.out | apply below_alloc | apply pw_below_drewN | apply below_drew1) | exact HB.out)⟩
end Go.Proofs.YtmcjpnijldhelaaGreatDoor.PFnDictionaryFloat64Read
