/- Printed by program out of the translation, and struck smaller. -/
import Derived.Test.YtmcjpnijldhelaaGreatDoorPFnDictionaryFloat64Readx0
namespace Go.Proofs.YtmcjpnijldhelaaGreatDoor.PFnDictionaryFloat64Read
open Go.RowKit Go.Proofs.YtmcjpnijldhelaaGreatDoorW.PrintWords Go.Proofs.YtmcjpnijldhelaaGreatDoorW.PrintLast Go.Proofs.YtmcjpnijldhelaaGreatDoorW.PrintMore
attribute [local go_sem] max2_int min2_int max_two min_two max_three min_three max_four min_four
set_option linter.unusedVariables false
set_option linter.unusedSimpArgs false
def spec_PutVLQ.l0 : Nat → Int → List Int → Option (List Int)
  | 0, _, _ => none
  | k + 1, x0, x3 => if x0 ≥ 128 then (if x3.length < 140737488355328 then (spec_PutVLQ.l0 k (x0 / 128) (x3 ++ [Go.bits .or .u8 ((x0) % 256) 128])) else (none)) else (if x3.length < 140737488355328 then (some (x3 ++ [(x0) % 256])) else (none))
def spec_PutVLQ.f (k : Nat) (a0 : Int) : Option (List Int) := spec_PutVLQ.l0 k a0 ([] : List Int)
theorem spec_PutVLQ.mono_l : ∀ k, (∀ y0 y1, LeO (spec_PutVLQ.l0 k y0 y1) (spec_PutVLQ.l0 (k + 1) y0 y1))
  | 0 => fun _ _ r h => by simp [spec_PutVLQ.l0] at h
  | k + 1 => by
    have ih0 := spec_PutVLQ.mono_l k
    · intro y0 y1
      unfold spec_PutVLQ.l0
      repeat' first
      | (with_reducible exact ih0 _ _)
      | (with_reducible exact LeO.refl _)
      | (with_reducible exact LeO.none _)
      | (with_reducible refine LeO.ite ?_ ?_)
      | (with_reducible refine LeO.bind ?_ (fun _ => ?_))
      | exact ih0 _ _
      | exact LeO.none _
      | refine LeO.ite ?_ ?_
      | refine LeO.bind ?_ (fun _ => ?_)
theorem spec_PutVLQ.mono : ∀ a0 k, LeO (spec_PutVLQ.f k a0) (spec_PutVLQ.f (k + 1) a0) := by
  intro a0 k
  have ih0 := spec_PutVLQ.mono_l k
  unfold spec_PutVLQ.f
  repeat' first
      | (with_reducible exact ih0 _ _)
      | (with_reducible exact LeO.refl _)
      | (with_reducible exact LeO.none _)
      | (with_reducible refine LeO.ite ?_ ?_)
      | (with_reducible refine LeO.bind ?_ (fun _ => ?_))
      | exact ih0 _ _
      | exact LeO.none _
      | refine LeO.ite ?_ ?_
      | refine LeO.bind ?_ (fun _ => ?_)
set_option maxHeartbeats 8000000 in
set_option maxRecDepth 100000 in
theorem spec_PutVLQ.calls (k : Nat) (a0 : Int) (r : List Int) (w : World) (h : spec_PutVLQ.f k a0 = some r) :
    Calls Tryz.prog 60 #[.int .u64 a0] w fun e w' => ∃ v0_ : Value, e = .returned (v0_) ∧ Kd.R (Kd.int .u8) 5 w' w.heap.size (fun _ => True) v0_ r ∧ Below w.heap.size w w' := by
  have HB := Aside0.mk (Below.refl w.heap.size w)
  have H : (spec_PutVLQ.l0 k a0 ([] : List Int)) = some r := h
  clear h
  have H' := Aside0.mk H
  clear H
  go_enter Tryz.func60, Tryz.ntmps60
  go_wp2
  go_loopg [0, 3] k (fun kq v0 v3 w' => ∃ (x0_1 : Int) (x3_1 : List Int), v0 = .int .u64 x0_1 ∧ Aside0 (spec_PutVLQ.l0 kq x0_1 x3_1 = some r) ∧ Aside0 (kq ≤ k) ∧ Aside0 (Kd.R (Kd.int .u8) 5 w' w.heap.size (fun _ => True) v3 x3_1) ∧ Aside0 (Below w.heap.size w w'))
  case atStart => exact ⟨(a0), (([] : List Int)), (by first | rfl | (simp; done) | (simp [*]; done)), H', ⟨Nat.le_refl _⟩, ⟨by first | exact Kd.R_nil _ _ _ _ _ | exact Kd.N_nil _ _ _ _ _ | exact Kd.V_nil _ _ _ _ _ | exact Kd.Q_nil _ _ _ _ _ | exact Kd.S_nil _ _ _ _ _⟩, ⟨by repeat (first | (with_reducible first | exact HB.out | apply below_alloc | apply pw_below_drewN | apply below_drew1) | exact HB.out)⟩⟩
  case round =>
    clear H'
    obtain ⟨x0_1, x3_1, rfl, HA, HK1, HO_3, HB⟩ := hrel
    cases gk with
    | zero => exact absurd HA.out (by simp [spec_PutVLQ.l0])
    | succ k1 =>
      have H := HA.out
      clear HA
      simp only [spec_PutVLQ.l0] at H
      by_cases c2 : x0_1 ≥ 128
      · rw [if_pos c2] at H
        have c2b0 : decide (128 ≤ x0_1) = true := decide_eq_true c2
        clear c2
        by_cases c3 : x3_1.length < 140737488355328
        · rw [if_pos c3] at H
          have LMc3 := Aside0.mk c3
          clear c3
          obtain ⟨y133, hy133⟩ : ∃ y_ : List Int, y_ = (x3_1 ++ [Go.bits .or .u8 ((x0_1) % 256) 128]) := ⟨_, rfl⟩
          replace H : (spec_PutVLQ.l0 k1 (x0_1 / 128) y133) = some r := by first | (rw [hy133]; with_reducible exact H) | (have H2_ := (Option.bind_some _ _).symm.trans H; rw [hy133]; with_reducible exact H2_) | (have H2_ := (Option.bind_some _ _).symm.trans H; with_reducible exact H2_) | with_reducible exact H | (rw [hy133]; exact H) | exact H
          have Ny133 := Aside0.mk hy133
          clear hy133
          have H' := Aside0.mk H
          clear H
          go_wp2_with (first | ((with_reducible refine gate_builtin (b := .append) (xs := #[.tmp 6, .tmp 10]) rfl ?_); at_builtin; refine Kd.R_append (Kd.int .u8) (w0 := w) w.heap.size rfl (.tmp 6) (.tmp 10) 24 5 (.int .u8 0) 1 rfl Tryz.underlying24 info5 rfl (by decide) (by omega) u3 x3_1 (Go.bits .or .u8 ((x0_1) % 256) 128) [.int .u8 (Go.bits .or .u8 ((x0_1) % 256) 128)] (fun _ => True) (fun _ => False) rfl rfl ?aP (fun _ hk => hk.elim) ?aF ?aO ?aB ?aS ?aL ?_; (case aP => exact rfl); (case aB => exact (by repeat (first | (with_reducible first | exact HB.out | apply below_alloc | apply pw_below_drewN | apply below_drew1) | exact HB.out))); (case aF => exact (fun _ _ => trivial)); (case aO => exact (by (with_reducible repeat (first | apply Kd.R_alloc | apply Kd.R_drewN | apply Kd.R_drew)); exact HO_3.out)); (case aS => exact (below_size (by repeat (first | (with_reducible first | exact HB.out | apply below_alloc | apply pw_below_drewN | apply below_drew1) | exact HB.out)))); (case aL => have := LMc3.out; omega); intro v134 w4 ho hb hg hat; rw [← Ny133.out] at ho; have n0_ := Aside0.mk (hb); have n1_ := Aside0.mk (ho); clear HB; clear HO_3; have HB := n0_; have HO135 := n1_; clear n0_ n1_; clear ho hb hg hat))
          go_roundg k1
          case measure => have := HK1.out; omega
          case rel => exact ⟨(x0_1 / 128), (y133), (by first | rfl | (simp; done) | (simp [*]; done)), H', ⟨by have := HK1.out; omega⟩, ⟨by (with_reducible repeat (first | apply Kd.R_alloc | apply Kd.R_drewN | apply Kd.R_drew)); exact HO135.out⟩, ⟨by repeat (first | (with_reducible first | exact HB.out | apply below_alloc | apply pw_below_drewN | apply below_drew1) | exact HB.out)⟩⟩
        · rw [if_neg c3] at H
          exact absurd H (by simp)
      · rw [if_neg c2] at H
        have c2b0 : decide (128 ≤ x0_1) = false := decide_eq_false c2
        clear c2
        by_cases c5 : x3_1.length < 140737488355328
        · rw [if_pos c5] at H
          have LMc5 := Aside0.mk c5
          clear c5
          obtain ⟨y136, hy136⟩ : ∃ y_ : List Int, y_ = (x3_1 ++ [(x0_1) % 256]) := ⟨_, rfl⟩
          replace H : (some y136) = some r := by first | (rw [hy136]; with_reducible exact H) | (have H2_ := (Option.bind_some _ _).symm.trans H; rw [hy136]; with_reducible exact H2_) | (have H2_ := (Option.bind_some _ _).symm.trans H; with_reducible exact H2_) | with_reducible exact H | (rw [hy136]; exact H) | exact H
          have Ny136 := Aside0.mk hy136
          clear hy136
          obtain rfl := Option.some.inj H
          go_wp2_with (first | ((with_reducible refine gate_builtin (b := .append) (xs := #[.tmp 14, .tmp 17]) rfl ?_); at_builtin; refine Kd.R_append (Kd.int .u8) (w0 := w) w.heap.size rfl (.tmp 14) (.tmp 17) 24 5 (.int .u8 0) 1 rfl Tryz.underlying24 info5 rfl (by decide) (by omega) u3 x3_1 ((x0_1) % 256) [.int .u8 ((x0_1) % 256)] (fun _ => True) (fun _ => False) rfl rfl ?aP (fun _ hk => hk.elim) ?aF ?aO ?aB ?aS ?aL ?_; (case aP => exact rfl); (case aB => exact (by repeat (first | (with_reducible first | exact HB.out | apply below_alloc | apply pw_below_drewN | apply below_drew1) | exact HB.out))); (case aF => exact (fun _ _ => trivial)); (case aO => exact (by (with_reducible repeat (first | apply Kd.R_alloc | apply Kd.R_drewN | apply Kd.R_drew)); exact HO_3.out)); (case aS => exact (below_size (by repeat (first | (with_reducible first | exact HB.out | apply below_alloc | apply pw_below_drewN | apply below_drew1) | exact HB.out)))); (case aL => have := LMc5.out; omega); intro v137 w6 ho hb hg hat; rw [← Ny136.out] at ho; have n0_ := Aside0.mk (hb); have n1_ := Aside0.mk (ho); clear HB; clear HO_3; have HB := n0_; have HO138 := n1_; clear n0_ n1_; clear ho hb hg hat))
          go_ret
          exact ⟨_, by first | rfl | (simp [errW_none, errW_some] <;> rfl) | (simp [*, errW_none, errW_some] <;> rfl), by (with_reducible repeat (first | apply Kd.R_alloc | apply Kd.R_drewN | apply Kd.R_drew)); exact HO138.out, by repeat (first | (with_reducible first | exact HB.out | apply below_alloc | apply pw_below_drewN | apply below_drew1) | exact HB.out)⟩
        · rw [if_neg c5] at H
          exact absurd H (by simp)
def spec_PackBits.l0 : Nat → List Int → Int → List Int → Int → Option (List Int)
  | 0, _, _, _, _ => none
  | k + 1, x0, x1, x5, x6 => if x6 < (wrap64 ((x0.length : Int) * x1)) then (if x1 = 0 then (none) else (if 0 ≤ (wrap64 (Int.tdiv x6 x1)) then (if (wrap64 (Int.tdiv x6 x1)) < (x0.length : Int) then (if 0 ≤ (Int.tmod x6 x1) then (if (Go.bits .and .u64 (shr .u64 (rd x0 (wrap64 (Int.tdiv x6 x1))) (Int.tmod x6 x1)) 1) = 1 then (if 0 ≤ (wrap64 (Int.tdiv x6 8)) then (if (wrap64 (Int.tdiv x6 8)) < (x5.length : Int) then (if 0 ≤ (Int.tmod x6 8) then (spec_PackBits.l0 k x0 x1 (x5.set ((wrap64 (Int.tdiv x6 8)) : Int).toNat (Go.bits .or .u8 (rd x5 (wrap64 (Int.tdiv x6 8))) (shl .u8 1 (Int.tmod x6 8)))) (wrap64 (x6 + 1))) else (none)) else (none)) else (none)) else (spec_PackBits.l0 k x0 x1 x5 (wrap64 (x6 + 1)))) else (none)) else (none)) else (none))) else (some x5)
def spec_PackBits.f (k : Nat) (l0 : List Int) (a1 : Int) : Option (List Int) := if 0 ≤ (wrap64 (Int.tdiv (wrap64 ((wrap64 ((l0.length : Int) * a1)) + 7)) 8)) then (if (wrap64 (Int.tdiv (wrap64 ((wrap64 ((l0.length : Int) * a1)) + 7)) 8) : Int).toNat ≤ 281474976710656 then (spec_PackBits.l0 k l0 a1 (List.replicate (wrap64 (Int.tdiv (wrap64 ((wrap64 ((l0.length : Int) * a1)) + 7)) 8) : Int).toNat 0) 0) else (none)) else (none)
theorem spec_PackBits.mono_l : ∀ k, (∀ y0 y1 y2 y3, LeO (spec_PackBits.l0 k y0 y1 y2 y3) (spec_PackBits.l0 (k + 1) y0 y1 y2 y3))
  | 0 => fun _ _ _ _ r h => by simp [spec_PackBits.l0] at h
  | k + 1 => by
    have ih0 := spec_PackBits.mono_l k
    · intro y0 y1 y2 y3
      unfold spec_PackBits.l0
      repeat' first
      | (with_reducible exact ih0 _ _ _ _)
      | (with_reducible exact LeO.refl _)
      | (with_reducible exact LeO.none _)
      | (with_reducible refine LeO.ite ?_ ?_)
      | (with_reducible refine LeO.bind ?_ (fun _ => ?_))
      | exact ih0 _ _ _ _
      | exact LeO.none _
      | refine LeO.ite ?_ ?_
      | refine LeO.bind ?_ (fun _ => ?_)
theorem spec_PackBits.mono : ∀ a0 a1 k, LeO (spec_PackBits.f k a0 a1) (spec_PackBits.f (k + 1) a0 a1) := by
  intro a0 a1 k
  have ih0 := spec_PackBits.mono_l k
  unfold spec_PackBits.f
  repeat' first
      | (with_reducible exact ih0 _ _ _ _)
      | (with_reducible exact LeO.refl _)
      | (with_reducible exact LeO.none _)
      | (with_reducible refine LeO.ite ?_ ?_)
      | (with_reducible refine LeO.bind ?_ (fun _ => ?_))
      | exact ih0 _ _ _ _
      | exact LeO.none _
      | refine LeO.ite ?_ ?_
      | refine LeO.bind ?_ (fun _ => ?_)
def spec_PackBits.T5 : Bool × List (List Nat × List Nat) := (true, [([], []), ([], []), ([], []), ([1, 2], [1, 2]), ([0, 3], [0, 3]), ([4], [4]), ([], []), ([], []), ([6, 7], [6, 7]), ([5, 8], [5, 8]), ([9], [9]), ([10], [10])])
def spec_PackBits.B5 : List Nat := [0, 0, 0, 6, 15, 31, 0, 0, 192, 511, 1023, 2047]
theorem spec_PackBits.tab5 : rtab .any (opsOf Tryz.f61 5) = spec_PackBits.T5 := by kernel_rfl
theorem spec_PackBits.bits5 : waitsOk spec_PackBits.T5.2 spec_PackBits.B5 = true := by kernel_rfl
def spec_PackBits.T6 : Bool × List (List Nat × List Nat) := (true, [([], []), ([], []), ([1], [1]), ([0, 2], [0, 2]), ([3], [3]), ([], []), ([5], [5]), ([6], [6]), ([4, 7], [4, 7]), ([0, 2, 0, 1, 2, 3, 4, 5, 6, 7, 8], [0, 2]), ([9, 8, 0, 1, 2, 3, 4, 5, 6, 7, 8], [8, 9])])
def spec_PackBits.B6 : List Nat := [0, 0, 2, 7, 15, 0, 32, 96, 255, 511, 1023]
theorem spec_PackBits.tab6 : rtab .any (opsOf Tryz.f61 6) = spec_PackBits.T6 := by kernel_rfl
theorem spec_PackBits.bits6 : waitsOk spec_PackBits.T6.2 spec_PackBits.B6 = true := by kernel_rfl
set_option maxHeartbeats 8000000 in
set_option maxRecDepth 100000 in
theorem spec_PackBits.calls (k : Nat) (A0 : Option Addr) (c0 : Nat) (l0 : List Int) (a1 : Int) (r : List Int) (w : World) (hr0 : Kd.C (Kd.int .u64) w A0 l0.length l0) (hc0 : l0.length ≤ c0) (h : spec_PackBits.f k l0 a1 = some r) :
    Calls Tryz.prog 61 #[.slice A0 l0.length c0, .int .i64 a1] w fun e w' => ∃ v0_ : Value, e = .returned (v0_) ∧ Kd.R (Kd.int .u8) 5 w' w.heap.size (fun _ => True) v0_ r ∧ Below w.heap.size w w' := by
  have HR0 := Aside0.mk hr0
  have HC0 := Aside0.mk hc0
  clear hr0 hc0
  have HB := Aside0.mk (Below.refl w.heap.size w)
  have H : (if 0 ≤ (wrap64 (Int.tdiv (wrap64 ((wrap64 ((l0.length : Int) * a1)) + 7)) 8)) then (if (wrap64 (Int.tdiv (wrap64 ((wrap64 ((l0.length : Int) * a1)) + 7)) 8) : Int).toNat ≤ 281474976710656 then (spec_PackBits.l0 k l0 a1 (List.replicate (wrap64 (Int.tdiv (wrap64 ((wrap64 ((l0.length : Int) * a1)) + 7)) 8) : Int).toNat 0) 0) else (none)) else (none)) = some r := h
  clear h
  obtain ⟨ji3, hji3⟩ : ∃ j_ : Int, (wrap64 (Int.tdiv (wrap64 ((wrap64 ((l0.length : Int) * a1)) + 7)) 8)) = j_ := ⟨_, rfl⟩
  replace H : (if 0 ≤ (ji3) then (if (ji3 : Int).toNat ≤ 281474976710656 then (spec_PackBits.l0 k l0 a1 (List.replicate (ji3 : Int).toNat 0) 0) else (none)) else (none)) = some r := by first | (rw [hji3] at H; exact H) | (simp only [hji3] at H ⊢; exact H)
  have hji3w : (IntKind.i64.wrap (Int.tdiv (wrap64 ((wrap64 ((l0.length : Int) * a1)) + 7)) 8)) = ji3 := (i64_w _).trans hji3
  by_cases c4 : 0 ≤ (ji3)
  · rw [if_pos c4] at H
    have c4b0 := eq_true c4
    have c4b1 : decide (0 ≤ (ji3)) = true := decide_eq_true c4
    clear c4
    by_cases c5 : (ji3 : Int).toNat ≤ 281474976710656
    · rw [if_pos c5] at H
      have c5b0 := eq_true c5
      have c5b1 : decide ((ji3 : Int).toNat ≤ 281474976710656) = true := decide_eq_true c5
      clear c5
      obtain ⟨y139, hy139⟩ : ∃ y_ : List Int, y_ = (List.replicate (ji3 : Int).toNat 0) := ⟨_, rfl⟩
      replace H : (spec_PackBits.l0 k l0 a1 y139 0) = some r := by first | (rw [hy139]; with_reducible exact H) | (have H2_ := (Option.bind_some _ _).symm.trans H; rw [hy139]; with_reducible exact H2_) | (have H2_ := (Option.bind_some _ _).symm.trans H; with_reducible exact H2_) | with_reducible exact H | (rw [hy139]; exact H) | exact H
      have Ny139 := Aside0.mk hy139
      clear hy139
      have H' := Aside0.mk H
      clear H
      go_enter Tryz.func61, Tryz.ntmps61
      go_wp2_with (first | ((with_reducible refine gate_dst (N := 13) rfl ?_); refine Kd.R_make (Kd.int .u8) _ 5 rfl (N := 13) rfl 24 _ _ rfl ji3 rfl rfl Tryz.underlying24 (.int .u8 0) 1 info5 rfl (by decide) (by omega) 0 (ok := fun _ => True) (okp := fun _ => True) rfl (fun _ hk => hk) trivial (of_decide_eq_true (by first | (with_reducible assumption) | assumption)) (Nat.le_trans (Nat.mul_le_mul_right _ (of_decide_eq_true (by first | (with_reducible assumption) | assumption) : ji3.toNat ≤ 281474976710656)) (by omega)) (Below.refl _ _) (Nat.le_refl _) ?_; intro v140 w6 ho7 hb hg_ hnew_; clear hg_ hnew_; (first | rw [← Ny139.out] at ho7 | (simp only [Int.reduceToNat] at ho7; rw [← Ny139.out] at ho7)); have n0_ := Aside0.mk (Kd.R_lower ho7 (below_size (by repeat (first | (with_reducible first | exact HB.out | apply below_alloc | apply pw_below_drewN | apply below_drew1) | exact HB.out)))); have n1_ := Aside0.mk (below_step (by repeat (first | (with_reducible first | exact HB.out | apply below_alloc | apply pw_below_drewN | apply below_drew1) | exact HB.out)) hb); clear HB; have HO141 := n0_; have HB := n1_; clear n0_ n1_; clear hb ho7))
      go_loopg [6] k (fun kq v6 w' => ∃ (x5_1 : List Int) (x6_1 : Int), v6 = .int .i64 x6_1 ∧ Aside0 (spec_PackBits.l0 kq l0 a1 x5_1 x6_1 = some r) ∧ Aside0 (kq ≤ k) ∧ Aside0 (Kd.R (Kd.int .u8) 5 w' w.heap.size (fun _ => True) v140 x5_1) ∧ Aside0 (Below w.heap.size w w'))
      case atStart => exact ⟨(y139), (0), (by first | rfl | (simp; done) | (simp [*]; done)), H', ⟨Nat.le_refl _⟩, ⟨by (with_reducible repeat (first | apply Kd.R_alloc | apply Kd.R_drewN | apply Kd.R_drew)); exact HO141.out⟩, ⟨by repeat (first | (with_reducible first | exact HB.out | apply below_alloc | apply pw_below_drewN | apply below_drew1) | exact HB.out)⟩⟩
      case round =>
        clear H'
        try clear p2
        try clear c4
        try clear c4b0
        try clear c4b1
        try clear c5
        try clear c5b0
        try clear c5b1
        try clear c6
        try clear p6
        obtain ⟨x5_1, x6_1, rfl, HA, HK1, HO_5, HB⟩ := hrel
        cases gk with
        | zero => exact absurd HA.out (by simp [spec_PackBits.l0])
        | succ k1 =>
          have H := HA.out
          clear HA
          simp only [spec_PackBits.l0] at H
          by_cases c8 : x6_1 < (wrap64 ((l0.length : Int) * a1))
          · rw [if_pos c8] at H
            have c8b0 : decide (x6_1 < (wrap64 ((l0.length : Int) * a1))) = true := decide_eq_true c8
            clear c8
            by_cases c9 : a1 = 0
            · rw [if_pos c9] at H
              exact absurd H (by simp)
            · rw [if_neg c9] at H
              have c9b0 : (a1 == 0) = false := beq_eq_false_iff_ne.mpr c9
              have c9b1 : (a1 != 0) = true := bne_iff_ne.mpr c9
              obtain ⟨ji10, hji10⟩ : ∃ j_ : Int, (wrap64 (Int.tdiv x6_1 a1)) = j_ := ⟨_, rfl⟩
              replace H : (if 0 ≤ (ji10) then (if (ji10) < (l0.length : Int) then (if 0 ≤ (Int.tmod x6_1 a1) then (if (Go.bits .and .u64 (shr .u64 (rd l0 (ji10)) (Int.tmod x6_1 a1)) 1) = 1 then (if 0 ≤ (wrap64 (Int.tdiv x6_1 8)) then (if (wrap64 (Int.tdiv x6_1 8)) < (x5_1.length : Int) then (if 0 ≤ (Int.tmod x6_1 8) then (spec_PackBits.l0 k1 l0 a1 (x5_1.set ((wrap64 (Int.tdiv x6_1 8)) : Int).toNat (Go.bits .or .u8 (rd x5_1 (wrap64 (Int.tdiv x6_1 8))) (shl .u8 1 (Int.tmod x6_1 8)))) (wrap64 (x6_1 + 1))) else (none)) else (none)) else (none)) else (spec_PackBits.l0 k1 l0 a1 x5_1 (wrap64 (x6_1 + 1)))) else (none)) else (none)) else (none)) = some r := by first | (rw [hji10] at H; exact H) | (simp only [hji10] at H ⊢; exact H)
              have hji10w : (IntKind.i64.wrap (Int.tdiv x6_1 a1)) = ji10 := (i64_w _).trans hji10
              by_cases c11 : 0 ≤ (ji10)
              · rw [if_pos c11] at H
                have c11b0 : decide (0 ≤ (ji10)) = true := decide_eq_true c11
                clear c11
                by_cases c12 : (ji10) < (l0.length : Int)
                · rw [if_pos c12] at H
                  have c12b0 : decide ((ji10) < (l0.length : Int)) = true := decide_eq_true c12
                  clear c12
                  obtain ⟨ji13, hji13⟩ : ∃ j_ : Int, (Int.tmod x6_1 a1) = j_ := ⟨_, rfl⟩
                  replace H : (if 0 ≤ (ji13) then (if (Go.bits .and .u64 (shr .u64 (rd l0 (ji10)) (ji13)) 1) = 1 then (if 0 ≤ (wrap64 (Int.tdiv x6_1 8)) then (if (wrap64 (Int.tdiv x6_1 8)) < (x5_1.length : Int) then (if 0 ≤ (Int.tmod x6_1 8) then (spec_PackBits.l0 k1 l0 a1 (x5_1.set ((wrap64 (Int.tdiv x6_1 8)) : Int).toNat (Go.bits .or .u8 (rd x5_1 (wrap64 (Int.tdiv x6_1 8))) (shl .u8 1 (Int.tmod x6_1 8)))) (wrap64 (x6_1 + 1))) else (none)) else (none)) else (none)) else (spec_PackBits.l0 k1 l0 a1 x5_1 (wrap64 (x6_1 + 1)))) else (none)) = some r := by first | (rw [hji13] at H; exact H) | (simp only [hji13] at H ⊢; exact H)
                  by_cases c14 : 0 ≤ (ji13)
                  · rw [if_pos c14] at H
                    have c14b0 := eq_true c14
                    have c14b1 : decide (0 ≤ (ji13)) = true := decide_eq_true c14
                    clear c14
                    obtain ⟨ji15, hji15⟩ : ∃ j_ : Int, (shr .u64 (rd l0 (ji10)) (ji13)) = j_ := ⟨_, rfl⟩
                    replace H : (if (Go.bits .and .u64 (ji15) 1) = 1 then (if 0 ≤ (wrap64 (Int.tdiv x6_1 8)) then (if (wrap64 (Int.tdiv x6_1 8)) < (x5_1.length : Int) then (if 0 ≤ (Int.tmod x6_1 8) then (spec_PackBits.l0 k1 l0 a1 (x5_1.set ((wrap64 (Int.tdiv x6_1 8)) : Int).toNat (Go.bits .or .u8 (rd x5_1 (wrap64 (Int.tdiv x6_1 8))) (shl .u8 1 (Int.tmod x6_1 8)))) (wrap64 (x6_1 + 1))) else (none)) else (none)) else (none)) else (spec_PackBits.l0 k1 l0 a1 x5_1 (wrap64 (x6_1 + 1)))) = some r := by first | (rw [hji15] at H; exact H) | (simp only [hji15] at H ⊢; exact H)
                    have hji15_ : ((rd l0 (ji10)) / 2 ^ min (ji13).toNat 64) = ji15 := hji15
                    have hji15z : (ji13) ≤ 64 → ((rd l0 (ji10)) / 2 ^ (ji13).toNat) = ji15 := shr_small hji15
                    by_cases c16 : (Go.bits .and .u64 (ji15) 1) = 1
                    · rw [if_pos c16] at H
                      have c16b0 : ((Go.bits .and .u64 (ji15) 1) == 1) = true := beq_iff_eq.mpr c16
                      have c16b1 : ((Go.bits .and .u64 (ji15) 1) != 1) = false := bne_eq_false_iff_eq.mpr c16
                      clear c16
                      obtain ⟨ji17, hji17⟩ : ∃ j_ : Int, (wrap64 (Int.tdiv x6_1 8)) = j_ := ⟨_, rfl⟩
                      replace H : (if 0 ≤ (ji17) then (if (ji17) < (x5_1.length : Int) then (if 0 ≤ (Int.tmod x6_1 8) then (spec_PackBits.l0 k1 l0 a1 (x5_1.set ((ji17) : Int).toNat (Go.bits .or .u8 (rd x5_1 (ji17)) (shl .u8 1 (Int.tmod x6_1 8)))) (wrap64 (x6_1 + 1))) else (none)) else (none)) else (none)) = some r := by first | (rw [hji17] at H; exact H) | (simp only [hji17] at H ⊢; exact H)
                      have hji17w : (IntKind.i64.wrap (Int.tdiv x6_1 8)) = ji17 := (i64_w _).trans hji17
                      by_cases c18 : 0 ≤ (ji17)
                      · rw [if_pos c18] at H
                        have c18b0 : decide (0 ≤ (ji17)) = true := decide_eq_true c18
                        clear c18
                        by_cases c19 : (ji17) < (x5_1.length : Int)
                        · rw [if_pos c19] at H
                          have c19b0 : decide ((ji17) < (x5_1.length : Int)) = true := decide_eq_true c19
                          clear c19
                          obtain ⟨ji20, hji20⟩ : ∃ j_ : Int, (Int.tmod x6_1 8) = j_ := ⟨_, rfl⟩
                          replace H : (if 0 ≤ (ji20) then (spec_PackBits.l0 k1 l0 a1 (x5_1.set ((ji17) : Int).toNat (Go.bits .or .u8 (rd x5_1 (ji17)) (shl .u8 1 (ji20)))) (wrap64 (x6_1 + 1))) else (none)) = some r := by first | (rw [hji20] at H; exact H) | (simp only [hji20] at H ⊢; exact H)
                          by_cases c21 : 0 ≤ (ji20)
                          · rw [if_pos c21] at H
                            have c21b0 := eq_true c21
                            have c21b1 : decide (0 ≤ (ji20)) = true := decide_eq_true c21
                            clear c21
                            obtain ⟨ji22, hji22⟩ : ∃ j_ : Int, (shl .u8 1 (ji20)) = j_ := ⟨_, rfl⟩
                            replace H : (spec_PackBits.l0 k1 l0 a1 (x5_1.set ((ji17) : Int).toNat (Go.bits .or .u8 (rd x5_1 (ji17)) (ji22))) (wrap64 (x6_1 + 1))) = some r := by first | (rw [hji22] at H; exact H) | (simp only [hji22] at H ⊢; exact H)
                            have hji22_ : (IntKind.u8.wrap (1 * 2 ^ min (ji20).toNat 8)) = ji22 := hji22
                            have hji22z : (ji20) ≤ 8 → (IntKind.u8.wrap (1 * 2 ^ (ji20).toNat)) = ji22 := shl_small hji22
                            have hji22u : (IntKind.u8.wrap (2 ^ min (ji20).toNat 8)) = ji22 := by have h_ := hji22_; rw [Int.one_mul] at h_; exact h_
                            have hji22v : (ji20) ≤ 8 → (IntKind.u8.wrap (2 ^ (ji20).toNat)) = ji22 := fun hle_ => by have h_ := hji22z hle_; rw [Int.one_mul] at h_; exact h_
                            obtain ⟨y144, hy144⟩ : ∃ y_ : List Int, y_ = (x5_1.set ((ji17) : Int).toNat (Go.bits .or .u8 (rd x5_1 (ji17)) (ji22))) := ⟨_, rfl⟩
                            replace H : (spec_PackBits.l0 k1 l0 a1 y144 (wrap64 (x6_1 + 1))) = some r := by first | (rw [hy144]; with_reducible exact H) | (have H2_ := (Option.bind_some _ _).symm.trans H; rw [hy144]; with_reducible exact H2_) | (have H2_ := (Option.bind_some _ _).symm.trans H; with_reducible exact H2_) | with_reducible exact H | (rw [hy144]; exact H) | exact H
                            have Ny144 := Aside0.mk hy144
                            clear hy144
                            have H' := Aside0.mk H
                            clear H
                            try go_wp2
                            have n0_ := Aside0.mk (Kd.R_drew HO_5.out)
                            have n1_ := Aside0.mk (below_drew1 HB.out)
                            clear HO_5
                            clear HB
                            have HO_5 := n0_
                            have HB := n1_
                            clear n0_ n1_
                            have p142 : 0 ≤ ((ji10) : Int) := of_decide_eq_true (by first | (with_reducible assumption) | assumption)
                            have q142 : (ji10) < (l0.length : Int) := of_decide_eq_true (by first | (with_reducible assumption) | assumption)
                            obtain ⟨ad142, e142, hx142_0⟩ := Kd.at_int HR0.out (ji10) p142 q142
                            have hw142_0 := hx142_0
                            cases e142
                            replace hx142_0 := (HB.out.cell (World.block_lt_of_cell? w _ hx142_0)).trans hx142_0
                            replace p142 := eq_true p142
                            replace q142 := eq_true q142
                            refine start_ (n := 12) (S := fun w' => w'.cell? (ad142.add ((ji10)).toNat) = some (.int .u64 (rd l0 (ji10)))) (ds := []) #[false, false, false, false, false, false, false, false, false, false, false, false] (by kernel_rfl) rfl rfl (((HB.out.cell (World.block_lt_of_cell? w _ hw142_0)).trans hw142_0)) (fun hHeld => ?_); refine with_tabW spec_PackBits.tab5 spec_PackBits.bits5 (fun HT_ HW_ => ?_)
                            generalize wr.drew = w24 at HO_5 HB hx142_0 hHeld ⊢
                            refine pure_ (i := 0) (N := some 22) (v := ?_) (a' := ?_) #[true, false, false, false, false, false, false, false, false, false, false, false] rfl rfl (any_of HT_.out (by kernel_rfl)) (fun _ _ _ h => h) (Or.inl ⟨by rfl, ?_⟩) ?_ ?_
                            rotate_left
                            · intro w'
                              go_simp
                              with_reducible rfl
                            rotate_left
                            · simp only [Act.put, List.setIfInBounds_toArray, List.set_cons_zero, List.set_cons_succ, i64_w, i32_w]
                              rfl
                            refine pure_ (i := 1) (N := some 23) (v := ?_) (a' := ?_) #[true, true, false, false, false, false, false, false, false, false, false, false] rfl rfl (any_of HT_.out (by kernel_rfl)) (fun _ _ _ h => h) (Or.inl ⟨by rfl, ?_⟩) ?_ ?_
                            rotate_left
                            · intro w'
                              go_simp
                              with_reducible rfl
                            rotate_left
                            · simp only [Act.put, List.setIfInBounds_toArray, List.set_cons_zero, List.set_cons_succ, i64_w, i32_w]
                              rfl
                            refine pure_ (i := 2) (N := some 24) (v := ?_) (a' := ?_) #[true, true, true, false, false, false, false, false, false, false, false, false] rfl rfl (any_of HT_.out (by kernel_rfl)) (fun _ _ _ h => h) (Or.inl ⟨by rfl, ?_⟩) ?_ ?_
                            rotate_left
                            · intro w'
                              go_simp
                              with_reducible rfl
                            rotate_left
                            · simp only [Act.put, List.setIfInBounds_toArray, List.set_cons_zero, List.set_cons_succ, i64_w, i32_w]
                              rfl
                            refine pure_ (i := 3) (N := some 25) (v := ?_) (a' := ?_) #[true, true, true, true, false, false, false, false, false, false, false, false] rfl rfl (any_of HT_.out (by kernel_rfl)) (fun _ _ _ h => h) (Or.inl ⟨by rfl, ?_⟩) ?_ ?_
                            rotate_left
                            · intro w'
                              go_simp
                              with_reducible rfl
                            rotate_left
                            · simp only [Act.put, List.setIfInBounds_toArray, List.set_cons_zero, List.set_cons_succ, i64_w, i32_w]
                              rfl
                            refine pure_ (i := 4) (N := some 26) (v := ?_) (a' := ?_) #[true, true, true, true, true, false, false, false, false, false, false, false] rfl rfl (any_of HT_.out (by kernel_rfl)) (fun _ _ _ h => h) (Or.inl ⟨by rfl, ?_⟩) ?_ ?_
                            rotate_left
                            · intro w'
                              go_simp
                              with_reducible rfl
                            rotate_left
                            · simp only [Act.put, List.setIfInBounds_toArray, List.set_cons_zero, List.set_cons_succ, i64_w, i32_w]
                              rfl
                            refine pure_ (i := 6) (N := some 28) (v := ?_) (a' := ?_) #[true, true, true, true, true, false, true, false, false, false, false, false] rfl rfl (any_of HT_.out (by kernel_rfl)) (fun _ _ _ h => h) (Or.inl ⟨by rfl, ?_⟩) ?_ ?_
                            rotate_left
                            · intro w'
                              go_simp
                              with_reducible rfl
                            rotate_left
                            · simp only [Act.put, List.setIfInBounds_toArray, List.set_cons_zero, List.set_cons_succ, i64_w, i32_w]
                              rfl
                            refine pure_ (i := 7) (N := some 29) (v := ?_) (a' := ?_) #[true, true, true, true, true, false, true, true, false, false, false, false] rfl rfl (any_of HT_.out (by kernel_rfl)) (fun _ _ _ h => h) (Or.inl ⟨by rfl, ?_⟩) ?_ ?_
                            rotate_left
                            · intro w'
                              go_simp
                              with_reducible rfl
                            rotate_left
                            · simp only [Act.put, List.setIfInBounds_toArray, List.set_cons_zero, List.set_cons_succ, i64_w, i32_w]
                              rfl
                            refine pure_ (i := 8) (N := some 30) (v := ?_) (a' := ?_) #[true, true, true, true, true, false, true, true, true, false, false, false] rfl rfl (any_of HT_.out (by kernel_rfl)) (fun _ _ _ h => h) (Or.inl ⟨by rfl, ?_⟩) ?_ ?_
                            rotate_left
                            · intro w'
                              go_simp
                              with_reducible rfl
                            rotate_left
                            · simp only [Act.put, List.setIfInBounds_toArray, List.set_cons_zero, List.set_cons_succ, i64_w, i32_w]
                              rfl
                            refine take_ (i := 5) (N := some 27) (v := ?_) (a' := ?_) #[true, true, true, true, true, true, true, true, true, false, false, false] rfl rfl (take_ofW HT_.out HW_.out (by kernel_rfl)) (fun _ _ _ h => h) (Or.inl ⟨by rfl, ?_⟩) hHeld ?_ ?_
                            rotate_left
                            · intro w' s0
                              go_simp
                              with_reducible rfl
                            rotate_left
                            · simp only [Act.put, List.setIfInBounds_toArray, List.set_cons_zero, List.set_cons_succ, i64_w, i32_w]
                              rfl
                            refine pure_ (i := 9) (N := some 31) (v := ?_) (a' := ?_) #[true, true, true, true, true, true, true, true, true, true, false, false] rfl rfl (any_of HT_.out (by kernel_rfl)) (fun _ _ _ h => h) (Or.inl ⟨by rfl, ?_⟩) ?_ ?_
                            rotate_left
                            · intro w'
                              go_simp
                              with_reducible rfl
                            rotate_left
                            · simp only [Act.put, List.setIfInBounds_toArray, List.set_cons_zero, List.set_cons_succ, i64_w, i32_w]
                              rfl
                            refine pure_ (i := 10) (N := some 32) (v := ?_) (a' := ?_) #[true, true, true, true, true, true, true, true, true, true, true, false] rfl rfl (any_of HT_.out (by kernel_rfl)) (fun _ _ _ h => h) (Or.inl ⟨by rfl, ?_⟩) ?_ ?_
                            rotate_left
                            · intro w'
                              go_simp
                              with_reducible rfl
                            rotate_left
                            · simp only [Act.put, List.setIfInBounds_toArray, List.set_cons_zero, List.set_cons_succ, i64_w, i32_w]
                              rfl
                            refine pure_ (i := 11) (N := some 33) (v := ?_) (a' := ?_) #[true, true, true, true, true, true, true, true, true, true, true, true] rfl rfl (any_of HT_.out (by kernel_rfl)) (fun _ _ _ h => h) (Or.inl ⟨by rfl, ?_⟩) ?_ ?_
                            rotate_left
                            · intro w'
                              go_simp
                              with_reducible rfl
                            rotate_left
                            · simp only [Act.put, List.setIfInBounds_toArray, List.set_cons_zero, List.set_cons_succ, i64_w, i32_w]
                              rfl
                            refine done_ (done_of HT_.out (by kernel_rfl)) ?_
                            try go_wp2
                            have n0_ := Aside0.mk (Kd.R_drew HO_5.out)
                            have n1_ := Aside0.mk (below_drew1 HB.out)
                            clear HO_5
                            clear HB
                            have HO_5 := n0_
                            have HB := n1_
                            clear n0_ n1_
                            obtain ⟨Ao26, co26, eo26⟩ := Kd.R_slice HO_5.out
                            (first | subst eo26 | (injection eo26 with f1_ f2_ f3_; have f4_ := f1_.symm; have f5_ := f3_.symm; clear f1_ f2_ f3_; subst f4_; subst f5_))
                            have p143 : 0 ≤ ((ji17) : Int) := of_decide_eq_true (by first | (with_reducible assumption) | assumption)
                            have q143 : (ji17) < (x5_1.length : Int) := of_decide_eq_true (by first | (with_reducible assumption) | assumption)
                            obtain ⟨ad143, e143, hx143_0⟩ := Kd.at_int (Kd.R_reads' HO_5.out).2.2 (ji17) p143 q143
                            cases e143
                            replace p143 := eq_true p143
                            replace q143 := eq_true q143
                            have p23 : 0 ≤ ((ji17) : Int) := of_decide_eq_true (by first | (with_reducible assumption) | assumption)
                            have q23 : ((ji17) : Int) < ((x5_1.length : Int) : Int) := of_decide_eq_true (by first | (with_reducible assumption) | assumption)
                            obtain ⟨go23, co23, eo23, gb23, gl23, cl23, HG23⟩ := Kd.R_form HO_5.out (by omega)
                            (first | cases eo23 | (injection eo23 with ea_ en_ ec_; (first | subst ea_ | (injection ea_ with ea_; subst ea_)); subst ec_; clear en_))
                            have GB23 := Aside0.mk gb23
                            have GG23 := Aside0.mk HG23
                            clear gb23 gl23 HG23
                            (first | simp only [add_plain] at hx143_0 | skip)
                            obtain ⟨hx23_0, hf23_0⟩ := Kd.R_celln 0 HO_5.out ((ji17) : Int) p23 q23
                            replace p23 := eq_true p23
                            replace q23 := eq_true q23
                            have HP27 := Kd.R_putn HO_5.out ((ji17) : Int) (Go.bits .or .u8 (rd x5_1 (ji17)) (ji22))
                            rw [← Ny144.out] at HP27
                            have HQ27 := Aside0.mk HP27
                            clear HP27
                            refine start_ (n := 11) (S := fun w' => w'.cell? ⟨go23, ((ji17)).toNat, none⟩ = some (.int .u8 (rd x5_1 (ji17)))) (ds := [10]) #[false, false, false, false, false, false, false, false, false, false, false] (by kernel_rfl) rfl rfl (hx143_0) (fun hHeld => ?_); refine with_tabW spec_PackBits.tab6 spec_PackBits.bits6 (fun HT_ HW_ => ?_)
                            generalize w24.drew = w25 at HO_5 HB GG23 HQ27 hf23_0 hx143_0 hx23_0 hHeld ⊢
                            refine pure_ (i := 0) (N := some 34) (v := ?_) (a' := ?_) #[true, false, false, false, false, false, false, false, false, false, false] rfl rfl (any_of HT_.out (by kernel_rfl)) (fun _ _ _ h => h) (Or.inl ⟨by rfl, ?_⟩) ?_ ?_
                            rotate_left
                            · intro w'
                              go_simp
                              with_reducible rfl
                            rotate_left
                            · simp only [Act.put, List.setIfInBounds_toArray, List.set_cons_zero, List.set_cons_succ, i64_w, i32_w]
                              rfl
                            refine pure_ (i := 1) (N := some 35) (v := ?_) (a' := ?_) #[true, true, false, false, false, false, false, false, false, false, false] rfl rfl (any_of HT_.out (by kernel_rfl)) (fun _ _ _ h => h) (Or.inl ⟨by rfl, ?_⟩) ?_ ?_
                            rotate_left
                            · intro w'
                              go_simp
                              with_reducible rfl
                            rotate_left
                            · simp only [Act.put, List.setIfInBounds_toArray, List.set_cons_zero, List.set_cons_succ, i64_w, i32_w]
                              rfl
                            refine pure_ (i := 2) (N := some 36) (v := ?_) (a' := ?_) #[true, true, true, false, false, false, false, false, false, false, false] rfl rfl (any_of HT_.out (by kernel_rfl)) (fun _ _ _ h => h) (Or.inl ⟨by rfl, ?_⟩) ?_ ?_
                            rotate_left
                            · intro w'
                              go_simp
                              with_reducible rfl
                            rotate_left
                            · simp only [Act.put, List.setIfInBounds_toArray, List.set_cons_zero, List.set_cons_succ, i64_w, i32_w]
                              rfl
                            refine pure_ (i := 3) (N := some 37) (v := ?_) (a' := ?_) #[true, true, true, true, false, false, false, false, false, false, false] rfl rfl (any_of HT_.out (by kernel_rfl)) (fun _ _ _ h => h) (Or.inl ⟨by rfl, ?_⟩) ?_ ?_
                            rotate_left
                            · intro w'
                              go_simp
                              with_reducible rfl
                            rotate_left
                            · simp only [Act.put, List.setIfInBounds_toArray, List.set_cons_zero, List.set_cons_succ, i64_w, i32_w]
                              rfl
                            refine pure_ (i := 5) (N := some 39) (v := ?_) (a' := ?_) #[true, true, true, true, false, true, false, false, false, false, false] rfl rfl (any_of HT_.out (by kernel_rfl)) (fun _ _ _ h => h) (Or.inl ⟨by rfl, ?_⟩) ?_ ?_
                            rotate_left
                            · intro w'
                              go_simp
                              with_reducible rfl
                            rotate_left
                            · simp only [Act.put, List.setIfInBounds_toArray, List.set_cons_zero, List.set_cons_succ, i64_w, i32_w]
                              rfl
                            refine pure_ (i := 6) (N := some 40) (v := ?_) (a' := ?_) #[true, true, true, true, false, true, true, false, false, false, false] rfl rfl (any_of HT_.out (by kernel_rfl)) (fun _ _ _ h => h) (Or.inl ⟨by rfl, ?_⟩) ?_ ?_
                            rotate_left
                            · intro w'
                              go_simp
                              with_reducible rfl
                            rotate_left
                            · simp only [Act.put, List.setIfInBounds_toArray, List.set_cons_zero, List.set_cons_succ, i64_w, i32_w]
                              rfl
                            refine pure_ (i := 7) (N := some 41) (v := ?_) (a' := ?_) #[true, true, true, true, false, true, true, true, false, false, false] rfl rfl (any_of HT_.out (by kernel_rfl)) (fun _ _ _ h => h) (Or.inl ⟨by rfl, ?_⟩) ?_ ?_
                            rotate_left
                            · intro w'
                              go_simp
                              with_reducible rfl
                            rotate_left
                            · simp only [Act.put, List.setIfInBounds_toArray, List.set_cons_zero, List.set_cons_succ, i64_w, i32_w]
                              rfl
                            refine take_ (i := 4) (N := some 38) (v := ?_) (a' := ?_) #[true, true, true, true, true, true, true, true, false, false, false] rfl rfl (take_ofW HT_.out HW_.out (by kernel_rfl)) (fun _ _ _ h => h) (Or.inl ⟨by rfl, ?_⟩) hHeld ?_ ?_
                            rotate_left
                            · intro w' s0
                              go_simp
                              with_reducible rfl
                            rotate_left
                            · simp only [Act.put, List.setIfInBounds_toArray, List.set_cons_zero, List.set_cons_succ, i64_w, i32_w]
                              rfl
                            refine pure_ (i := 8) (N := some 42) (v := ?_) (a' := ?_) #[true, true, true, true, true, true, true, true, true, false, false] rfl rfl (any_of HT_.out (by kernel_rfl)) (fun _ _ _ h => h) (Or.inl ⟨by rfl, ?_⟩) ?_ ?_
                            rotate_left
                            · intro w'
                              go_simp
                              with_reducible rfl
                            rotate_left
                            · simp only [Act.put, List.setIfInBounds_toArray, List.set_cons_zero, List.set_cons_succ, i64_w, i32_w]
                              rfl
                            refine pure_ (i := 9) (N := some 43) (v := ?_) (a' := ?_) #[true, true, true, true, true, true, true, true, true, true, false] rfl rfl (any_of HT_.out (by kernel_rfl)) (fun _ _ _ h => h) (Or.inl ⟨by rfl, ?_⟩) ?_ ?_
                            rotate_left
                            · intro w'
                              go_simp
                              with_reducible rfl
                            rotate_left
                            · simp only [Act.put, List.setIfInBounds_toArray, List.set_cons_zero, List.set_cons_succ, i64_w, i32_w]
                              rfl
                            refine last_ (i := 10) (N := none) #[true, true, true, true, true, true, true, true, true, true, true] rfl rfl (one_of HT_.out (by kernel_rfl)) (by decide) (fun K hK => ?_)
                            refine skip_ (w1 := ?_) (by rfl) rfl ?_ ?_
                            rotate_left
                            · go_simp
                              rfl
                            refine hK.out _ _ ?_
                            clear hK K
                            refine done_ (done_of HT_.out (by kernel_rfl)) ?_
                            try go_wp2
                            go_roundg k1
                            case measure => have := HK1.out; omega
                            case rel => exact ⟨(y144), (wrap64 (x6_1 + 1)), (by first | rfl | (simp; done) | (simp [*]; done)), H', ⟨by have := HK1.out; omega⟩, ⟨by (with_reducible repeat (first | apply Kd.R_alloc | apply Kd.R_drewN | apply Kd.R_drew)); exact HQ27.out⟩, ⟨by repeat (first | (with_reducible first | exact HB.out | apply below_alloc | apply pw_below_drewN | apply below_drew1 | refine below_set ?_ GB23.out) | exact HB.out)⟩⟩
                          · rw [if_neg c21] at H
                            exact absurd H (by simp)
                        · rw [if_neg c19] at H
                          exact absurd H (by simp)
                      · rw [if_neg c18] at H
                        exact absurd H (by simp)
                    · rw [if_neg c16] at H
                      have c16b0 : ((Go.bits .and .u64 (ji15) 1) == 1) = false := beq_eq_false_iff_ne.mpr c16
                      have c16b1 : ((Go.bits .and .u64 (ji15) 1) != 1) = true := bne_iff_ne.mpr c16
                      have H' := Aside0.mk H
                      clear H
                      try go_wp2
                      have n0_ := Aside0.mk (Kd.R_drew HO_5.out)
                      have n1_ := Aside0.mk (below_drew1 HB.out)
                      clear HO_5
                      clear HB
                      have HO_5 := n0_
                      have HB := n1_
                      clear n0_ n1_
                      have p142 : 0 ≤ ((ji10) : Int) := of_decide_eq_true (by first | (with_reducible assumption) | assumption)
                      have q142 : (ji10) < (l0.length : Int) := of_decide_eq_true (by first | (with_reducible assumption) | assumption)
                      obtain ⟨ad142, e142, hx142_0⟩ := Kd.at_int HR0.out (ji10) p142 q142
                      have hw142_0 := hx142_0
                      cases e142
                      replace hx142_0 := (HB.out.cell (World.block_lt_of_cell? w _ hx142_0)).trans hx142_0
                      replace p142 := eq_true p142
                      replace q142 := eq_true q142
                      refine start_ (n := 12) (S := fun w' => w'.cell? (ad142.add ((ji10)).toNat) = some (.int .u64 (rd l0 (ji10)))) (ds := []) #[false, false, false, false, false, false, false, false, false, false, false, false] (by kernel_rfl) rfl rfl (((HB.out.cell (World.block_lt_of_cell? w _ hw142_0)).trans hw142_0)) (fun hHeld => ?_); refine with_tabW spec_PackBits.tab5 spec_PackBits.bits5 (fun HT_ HW_ => ?_)
                      generalize wr.drew = w28 at HO_5 HB hx142_0 hHeld ⊢
                      refine pure_ (i := 0) (N := some 22) (v := ?_) (a' := ?_) #[true, false, false, false, false, false, false, false, false, false, false, false] rfl rfl (any_of HT_.out (by kernel_rfl)) (fun _ _ _ h => h) (Or.inl ⟨by rfl, ?_⟩) ?_ ?_
                      rotate_left
                      · intro w'
                        go_simp
                        with_reducible rfl
                      rotate_left
                      · simp only [Act.put, List.setIfInBounds_toArray, List.set_cons_zero, List.set_cons_succ, i64_w, i32_w]
                        rfl
                      refine pure_ (i := 1) (N := some 23) (v := ?_) (a' := ?_) #[true, true, false, false, false, false, false, false, false, false, false, false] rfl rfl (any_of HT_.out (by kernel_rfl)) (fun _ _ _ h => h) (Or.inl ⟨by rfl, ?_⟩) ?_ ?_
                      rotate_left
                      · intro w'
                        go_simp
                        with_reducible rfl
                      rotate_left
                      · simp only [Act.put, List.setIfInBounds_toArray, List.set_cons_zero, List.set_cons_succ, i64_w, i32_w]
                        rfl
                      refine pure_ (i := 2) (N := some 24) (v := ?_) (a' := ?_) #[true, true, true, false, false, false, false, false, false, false, false, false] rfl rfl (any_of HT_.out (by kernel_rfl)) (fun _ _ _ h => h) (Or.inl ⟨by rfl, ?_⟩) ?_ ?_
                      rotate_left
                      · intro w'
                        go_simp
                        with_reducible rfl
                      rotate_left
                      · simp only [Act.put, List.setIfInBounds_toArray, List.set_cons_zero, List.set_cons_succ, i64_w, i32_w]
                        rfl
                      refine pure_ (i := 3) (N := some 25) (v := ?_) (a' := ?_) #[true, true, true, true, false, false, false, false, false, false, false, false] rfl rfl (any_of HT_.out (by kernel_rfl)) (fun _ _ _ h => h) (Or.inl ⟨by rfl, ?_⟩) ?_ ?_
                      rotate_left
                      · intro w'
                        go_simp
                        with_reducible rfl
                      rotate_left
                      · simp only [Act.put, List.setIfInBounds_toArray, List.set_cons_zero, List.set_cons_succ, i64_w, i32_w]
                        rfl
                      refine pure_ (i := 4) (N := some 26) (v := ?_) (a' := ?_) #[true, true, true, true, true, false, false, false, false, false, false, false] rfl rfl (any_of HT_.out (by kernel_rfl)) (fun _ _ _ h => h) (Or.inl ⟨by rfl, ?_⟩) ?_ ?_
                      rotate_left
                      · intro w'
                        go_simp
                        with_reducible rfl
                      rotate_left
                      · simp only [Act.put, List.setIfInBounds_toArray, List.set_cons_zero, List.set_cons_succ, i64_w, i32_w]
                        rfl
                      refine pure_ (i := 6) (N := some 28) (v := ?_) (a' := ?_) #[true, true, true, true, true, false, true, false, false, false, false, false] rfl rfl (any_of HT_.out (by kernel_rfl)) (fun _ _ _ h => h) (Or.inl ⟨by rfl, ?_⟩) ?_ ?_
                      rotate_left
                      · intro w'
                        go_simp
                        with_reducible rfl
                      rotate_left
                      · simp only [Act.put, List.setIfInBounds_toArray, List.set_cons_zero, List.set_cons_succ, i64_w, i32_w]
                        rfl
                      refine pure_ (i := 7) (N := some 29) (v := ?_) (a' := ?_) #[true, true, true, true, true, false, true, true, false, false, false, false] rfl rfl (any_of HT_.out (by kernel_rfl)) (fun _ _ _ h => h) (Or.inl ⟨by rfl, ?_⟩) ?_ ?_
                      rotate_left
                      · intro w'
                        go_simp
                        with_reducible rfl
                      rotate_left
                      · simp only [Act.put, List.setIfInBounds_toArray, List.set_cons_zero, List.set_cons_succ, i64_w, i32_w]
                        rfl
                      refine pure_ (i := 8) (N := some 30) (v := ?_) (a' := ?_) #[true, true, true, true, true, false, true, true, true, false, false, false] rfl rfl (any_of HT_.out (by kernel_rfl)) (fun _ _ _ h => h) (Or.inl ⟨by rfl, ?_⟩) ?_ ?_
                      rotate_left
                      · intro w'
                        go_simp
                        with_reducible rfl
                      rotate_left
                      · simp only [Act.put, List.setIfInBounds_toArray, List.set_cons_zero, List.set_cons_succ, i64_w, i32_w]
                        rfl
                      refine take_ (i := 5) (N := some 27) (v := ?_) (a' := ?_) #[true, true, true, true, true, true, true, true, true, false, false, false] rfl rfl (take_ofW HT_.out HW_.out (by kernel_rfl)) (fun _ _ _ h => h) (Or.inl ⟨by rfl, ?_⟩) hHeld ?_ ?_
                      rotate_left
                      · intro w' s0
                        go_simp
                        with_reducible rfl
                      rotate_left
                      · simp only [Act.put, List.setIfInBounds_toArray, List.set_cons_zero, List.set_cons_succ, i64_w, i32_w]
                        rfl
                      refine pure_ (i := 9) (N := some 31) (v := ?_) (a' := ?_) #[true, true, true, true, true, true, true, true, true, true, false, false] rfl rfl (any_of HT_.out (by kernel_rfl)) (fun _ _ _ h => h) (Or.inl ⟨by rfl, ?_⟩) ?_ ?_
                      rotate_left
                      · intro w'
                        go_simp
                        with_reducible rfl
                      rotate_left
                      · simp only [Act.put, List.setIfInBounds_toArray, List.set_cons_zero, List.set_cons_succ, i64_w, i32_w]
                        rfl
                      refine pure_ (i := 10) (N := some 32) (v := ?_) (a' := ?_) #[true, true, true, true, true, true, true, true, true, true, true, false] rfl rfl (any_of HT_.out (by kernel_rfl)) (fun _ _ _ h => h) (Or.inl ⟨by rfl, ?_⟩) ?_ ?_
                      rotate_left
                      · intro w'
                        go_simp
                        with_reducible rfl
                      rotate_left
                      · simp only [Act.put, List.setIfInBounds_toArray, List.set_cons_zero, List.set_cons_succ, i64_w, i32_w]
                        rfl
                      refine pure_ (i := 11) (N := some 33) (v := ?_) (a' := ?_) #[true, true, true, true, true, true, true, true, true, true, true, true] rfl rfl (any_of HT_.out (by kernel_rfl)) (fun _ _ _ h => h) (Or.inl ⟨by rfl, ?_⟩) ?_ ?_
                      rotate_left
                      · intro w'
                        go_simp
                        with_reducible rfl
                      rotate_left
                      · simp only [Act.put, List.setIfInBounds_toArray, List.set_cons_zero, List.set_cons_succ, i64_w, i32_w]
                        rfl
                      refine done_ (done_of HT_.out (by kernel_rfl)) ?_
                      try go_wp2
                      go_roundg k1
                      case measure => have := HK1.out; omega
                      case rel => exact ⟨(x5_1), (wrap64 (x6_1 + 1)), (by first | rfl | (simp; done) | (simp [*]; done)), H', ⟨by have := HK1.out; omega⟩, ⟨by (with_reducible repeat (first | apply Kd.R_alloc | apply Kd.R_drewN | apply Kd.R_drew)); exact HO_5.out⟩, ⟨by repeat (first | (with_reducible first | exact HB.out | apply below_alloc | apply pw_below_drewN | apply below_drew1) | exact HB.out)⟩⟩
                  · rw [if_neg c14] at H
                    exact absurd H (by simp)
                · rw [if_neg c12] at H
                  exact absurd H (by simp)
              · rw [if_neg c11] at H
                exact absurd H (by simp)
          · rw [if_neg c8] at H
            have c8b0 : decide (x6_1 < (wrap64 ((l0.length : Int) * a1))) = false := decide_eq_false c8
            clear c8
            obtain rfl := Option.some.inj H
            go_wp2
            go_ret
            exact ⟨_, by first | rfl | (simp [errW_none, errW_some] <;> rfl) | (simp only [← hji3]; first | rfl | (simp [errW_none, errW_some] <;> rfl)) | (simp [*, errW_none, errW_some] <;> rfl), by (with_reducible repeat (first | apply Kd.R_alloc | apply Kd.R_drewN | apply Kd.R_drew)); exact HO_5.out, by repeat (first | (with_reducible first | exact HB.out | apply below_alloc | apply pw_below_drewN | apply below_drew1) | exact HB.out)⟩
    · rw [if_neg c5] at H
      exact absurd H (by simp)
  · rw [if_neg c4] at H
    exact absurd H (by simp)
end Go.Proofs.YtmcjpnijldhelaaGreatDoor.PFnDictionaryFloat64Read
