-- PRINTED BY print.sh 35421559b90ae4d0a3588c463048766b98c2df88dd9212a6774a882060cdf62d: not written by this session
import Derived.Test.YtflgbndhahcdnaaGreatDoorPFnBoolsReadx0
import Derived.Test.YtflgbndhahcdnaaGreatDoorPFnBoolsReadx2
import Derived.Test.YtflgbndhahcdnaaGreatDoorPFnBoolsReadx3
namespace Go.Proofs.YtflgbndhahcdnaaGreatDoor.PFnBoolsRead
open Go.RowKit Go.Proofs.YtflgbndhahcdnaaGreatDoorW.PrintWords Go.Proofs.YtflgbndhahcdnaaGreatDoorW.PrintLast Go.Proofs.YtflgbndhahcdnaaGreatDoorW.PrintMore
attribute [local go_sem] max2_int min2_int max_two min_two max_three min_three max_four min_four   -- for this text's walks alone
set_option linter.unusedVariables false
set_option linter.unusedSimpArgs false

/-! ### spec_PutRuns: function 9 -/
mutual
def spec_PutRuns.l0 : Nat → Int → List Int → List (S35) → Int → Int → Option (List Int)
  | 0, _, _, _, _, _ => none
  | k + 1, x1, x5, x10, x11, x12 => if x12 < x11 then (if 0 ≤ x12 then (if x12 < (x10.length : Int) then (if (rd_T35 x10 x12).f0 = true then ((spec_PutVLQ.f k (Go.bits .or .u64 (IntKind.u64.wrap ((IntKind.u64.wrap ((rd_T35 x10 x12).f1)) * 2)) 1)).bind fun t154 => (if x5.length + t154.length < 140737488355328 then ((some (([] : List Int) : List Int)).bind fun y160 => (if y160.length + ((rd_T35 x10 x12).f2).length < 17592186044416 then (spec_PutRuns.l1 k x1 (x5 ++ t154) (y160 ++ ((rd_T35 x10 x12).f2)) x10 x11 x12 ((rd_T35 x10 x12).f0) ((rd_T35 x10 x12).f1) ((rd_T35 x10 x12).f2)) else (none))) else (none))) else ((spec_PutVLQ.f k (IntKind.u64.wrap ((IntKind.u64.wrap ((rd_T35 x10 x12).f1)) * 2))).bind fun t175 => (if x5.length + t175.length < 140737488355328 then (spec_PutRuns.l2 k x1 (x5 ++ t175) 0 x10 x11 x12 ((rd_T35 x10 x12).f0) ((rd_T35 x10 x12).f1) ((rd_T35 x10 x12).f2)) else (none)))) else (none)) else (none)) else (some x5)
def spec_PutRuns.l1 : Nat → Int → List Int → List Int → List (S35) → Int → Int → Bool → Int → List Int → Option (List Int)
  | 0, _, _, _, _, _, _, _, _, _ => none
  | k + 1, x1, x5, x8, x10, x11, x12, x154000, x154001, x154002 => if (x8.length : Int) < (wrap64 (8 * x154001)) then (if x8.length < 17592186044416 then (spec_PutRuns.l1 k x1 x5 (x8 ++ [0]) x10 x11 x12 x154000 x154001 x154002) else (none)) else ((spec_PackBits.f k x8 x1).bind fun t169 => (if x5.length + t169.length < 140737488355328 then (spec_PutRuns.l0 k x1 (x5 ++ t169) x10 x11 (wrap64 (x12 + 1))) else (none)))
def spec_PutRuns.l2 : Nat → Int → List Int → Int → List (S35) → Int → Int → Bool → Int → List Int → Option (List Int)
  | 0, _, _, _, _, _, _, _, _, _ => none
  | k + 1, x1, x5, x9, x10, x11, x12, x154000, x154001, x154002 => if x9 < (wrap64 (Int.tdiv (wrap64 (x1 + 7)) 8)) then (if 0 < (x154002.length : Int) then (if 0 ≤ (wrap64 (8 * x9)) then (if x5.length < 140737488355328 then (spec_PutRuns.l2 k x1 (x5 ++ [(shr .u64 (rd x154002 0) (wrap64 (8 * x9))) % 256]) (wrap64 (x9 + 1)) x10 x11 x12 x154000 x154001 x154002) else (none)) else (none)) else (none)) else (spec_PutRuns.l0 k x1 x5 x10 x11 (wrap64 (x12 + 1)))
end
def spec_PutRuns.f (k : Nat) (l0 : List (S35)) (a1 : Int) : Option (List Int) := spec_PutRuns.l0 k a1 ([] : List Int) l0 (l0.length : Int) 0
theorem spec_PutRuns.mono_l : ∀ k, (∀ y0 y1 y2 y3 y4, LeO (spec_PutRuns.l0 k y0 y1 y2 y3 y4) (spec_PutRuns.l0 (k + 1) y0 y1 y2 y3 y4)) ∧ (∀ y0 y1 y2 y3 y4 y5 y6 y7 y8, LeO (spec_PutRuns.l1 k y0 y1 y2 y3 y4 y5 y6 y7 y8) (spec_PutRuns.l1 (k + 1) y0 y1 y2 y3 y4 y5 y6 y7 y8)) ∧ (∀ y0 y1 y2 y3 y4 y5 y6 y7 y8, LeO (spec_PutRuns.l2 k y0 y1 y2 y3 y4 y5 y6 y7 y8) (spec_PutRuns.l2 (k + 1) y0 y1 y2 y3 y4 y5 y6 y7 y8))
  | 0 => ⟨fun _ _ _ _ _ r h => by simp [spec_PutRuns.l0] at h, fun _ _ _ _ _ _ _ _ _ r h => by simp [spec_PutRuns.l1] at h, fun _ _ _ _ _ _ _ _ _ r h => by simp [spec_PutRuns.l2] at h⟩
  | k + 1 => by
    obtain ⟨ih0, ih1, ih2⟩ := spec_PutRuns.mono_l k
    refine ⟨?_, ?_, ?_⟩
    · intro y0 y1 y2 y3 y4
      unfold spec_PutRuns.l0
      repeat' first
      | (with_reducible exact ih0 _ _ _ _ _)
      | (with_reducible exact ih1 _ _ _ _ _ _ _ _ _)
      | (with_reducible exact ih2 _ _ _ _ _ _ _ _ _)
      | (with_reducible exact spec_PackBits.mono _ _ _)
      | (with_reducible exact spec_PutVLQ.mono _ _)
      | (with_reducible exact LeO.refl _)
      | (with_reducible exact LeO.none _)
      | (with_reducible refine LeO.ite ?_ ?_)
      | (with_reducible refine LeO.bind ?_ (fun _ => ?_))
      | exact ih0 _ _ _ _ _
      | exact ih1 _ _ _ _ _ _ _ _ _
      | exact ih2 _ _ _ _ _ _ _ _ _
      | exact spec_PackBits.mono _ _ _
      | exact spec_PutVLQ.mono _ _
      | exact LeO.none _
      | refine LeO.ite ?_ ?_
      | refine LeO.bind ?_ (fun _ => ?_)
    · intro y0 y1 y2 y3 y4 y5 y6 y7 y8
      unfold spec_PutRuns.l1
      repeat' first
      | (with_reducible exact ih0 _ _ _ _ _)
      | (with_reducible exact ih1 _ _ _ _ _ _ _ _ _)
      | (with_reducible exact ih2 _ _ _ _ _ _ _ _ _)
      | (with_reducible exact spec_PackBits.mono _ _ _)
      | (with_reducible exact spec_PutVLQ.mono _ _)
      | (with_reducible exact LeO.refl _)
      | (with_reducible exact LeO.none _)
      | (with_reducible refine LeO.ite ?_ ?_)
      | (with_reducible refine LeO.bind ?_ (fun _ => ?_))
      | exact ih0 _ _ _ _ _
      | exact ih1 _ _ _ _ _ _ _ _ _
      | exact ih2 _ _ _ _ _ _ _ _ _
      | exact spec_PackBits.mono _ _ _
      | exact spec_PutVLQ.mono _ _
      | exact LeO.none _
      | refine LeO.ite ?_ ?_
      | refine LeO.bind ?_ (fun _ => ?_)
    · intro y0 y1 y2 y3 y4 y5 y6 y7 y8
      unfold spec_PutRuns.l2
      repeat' first
      | (with_reducible exact ih0 _ _ _ _ _)
      | (with_reducible exact ih1 _ _ _ _ _ _ _ _ _)
      | (with_reducible exact ih2 _ _ _ _ _ _ _ _ _)
      | (with_reducible exact spec_PackBits.mono _ _ _)
      | (with_reducible exact spec_PutVLQ.mono _ _)
      | (with_reducible exact LeO.refl _)
      | (with_reducible exact LeO.none _)
      | (with_reducible refine LeO.ite ?_ ?_)
      | (with_reducible refine LeO.bind ?_ (fun _ => ?_))
      | exact ih0 _ _ _ _ _
      | exact ih1 _ _ _ _ _ _ _ _ _
      | exact ih2 _ _ _ _ _ _ _ _ _
      | exact spec_PackBits.mono _ _ _
      | exact spec_PutVLQ.mono _ _
      | exact LeO.none _
      | refine LeO.ite ?_ ?_
      | refine LeO.bind ?_ (fun _ => ?_)
theorem spec_PutRuns.mono : ∀ a0 a1 k, LeO (spec_PutRuns.f k a0 a1) (spec_PutRuns.f (k + 1) a0 a1) := by
  intro a0 a1 k
  obtain ⟨ih0, ih1, ih2⟩ := spec_PutRuns.mono_l k
  unfold spec_PutRuns.f
  repeat' first
      | (with_reducible exact ih0 _ _ _ _ _)
      | (with_reducible exact ih1 _ _ _ _ _ _ _ _ _)
      | (with_reducible exact ih2 _ _ _ _ _ _ _ _ _)
      | (with_reducible exact spec_PackBits.mono _ _ _)
      | (with_reducible exact spec_PutVLQ.mono _ _)
      | (with_reducible exact LeO.refl _)
      | (with_reducible exact LeO.none _)
      | (with_reducible refine LeO.ite ?_ ?_)
      | (with_reducible refine LeO.bind ?_ (fun _ => ?_))
      | exact ih0 _ _ _ _ _
      | exact ih1 _ _ _ _ _ _ _ _ _
      | exact ih2 _ _ _ _ _ _ _ _ _
      | exact spec_PackBits.mono _ _ _
      | exact spec_PutVLQ.mono _ _
      | exact LeO.none _
      | refine LeO.ite ?_ ?_
      | refine LeO.bind ?_ (fun _ => ?_)
set_option maxHeartbeats 8000000 in
set_option maxRecDepth 100000 in
theorem spec_PutRuns.calls (k : Nat) (A0 : Option Addr) (c0 : Nat) (l0 : List (S35)) (a1 : Int) (r : List Int) (w : World) (hr0 : Kd.C k35 w A0 l0.length l0) (hc0 : l0.length ≤ c0) (h : spec_PutRuns.f k l0 a1 = some r) :
    Calls Tryz.prog 9 #[.slice A0 l0.length c0, .int .i64 a1] w fun e w' => ∃ v0_ : Value, e = .returned (v0_) ∧ Kd.R (Kd.int .u8) 5 w' w.heap.size (fun _ => True) v0_ r ∧ Below w.heap.size w w' := by
  have hu35 := Tryz.underlying35
  have HR0 := Aside0.mk hr0
  have HC0 := Aside0.mk hc0
  clear hr0 hc0
  have HB := Aside0.mk (Below.refl w.heap.size w)
  have H : (spec_PutRuns.l0 k a1 ([] : List Int) l0 (l0.length : Int) 0) = some r := h
  clear h
  have H' := Aside0.mk H
  clear H
  go_enter Tryz.func9, Tryz.ntmps9
  go_wp2
  go_loopg [5, 12] k (fun kq v5 v12 w' => ∃ (x5_1 : List Int) (x12_1 : Int), v12 = .int .i64 x12_1 ∧ Aside0 (spec_PutRuns.l0 kq a1 x5_1 l0 (l0.length : Int) x12_1 = some r) ∧ Aside0 (kq ≤ k) ∧ Aside0 (Kd.R (Kd.int .u8) 5 w' w.heap.size (fun _ => True) v5 x5_1) ∧ Aside0 (Below w.heap.size w w'))
  case atStart => exact ⟨(([] : List Int)), (0), (by first | rfl | (simp; done) | (simp [*]; done)), H', ⟨Nat.le_refl _⟩, ⟨by first | exact Kd.R_nil _ _ _ _ _ | exact Kd.N_nil _ _ _ _ _ | exact Kd.V_nil _ _ _ _ _ | exact Kd.Q_nil _ _ _ _ _ | exact Kd.S_nil _ _ _ _ _⟩, ⟨by repeat (first | (with_reducible first | exact HB.out | apply below_alloc | apply pw_below_drewN | apply below_drew1) | exact HB.out)⟩⟩
  case round =>
    clear H'
    try clear p2
    obtain ⟨x5_1, x12_1, rfl, HA, HK1, HO_5, HB⟩ := hrel
    cases gk with
    | zero => exact absurd HA.out (by simp [spec_PutRuns.l0])
    | succ k1 =>
      have H := HA.out
      clear HA
      simp only [spec_PutRuns.l0] at H
      by_cases c3 : x12_1 < (l0.length : Int)
      · rw [if_pos c3] at H
        have c3b0 : decide (x12_1 < (l0.length : Int)) = true := decide_eq_true c3
        clear c3
        by_cases c4 : 0 ≤ x12_1
        · rw [if_pos c4] at H
          have c4b0 : decide (0 ≤ x12_1) = true := decide_eq_true c4
          clear c4
          by_cases c5 : x12_1 < (l0.length : Int)
          · rw [if_pos c5] at H
            have c5b0 : decide (x12_1 < (l0.length : Int)) = true := decide_eq_true c5
            clear c5
            obtain ⟨bq6, hbq6⟩ : ∃ b_ : Bool, b_ = ((rd_T35 l0 x12_1).f0) := ⟨_, rfl⟩
            replace H : (if bq6 = true then ((spec_PutVLQ.f k1 (Go.bits .or .u64 (IntKind.u64.wrap ((IntKind.u64.wrap ((rd_T35 l0 x12_1).f1)) * 2)) 1)).bind fun t154 => (if x5_1.length + t154.length < 140737488355328 then ((some (([] : List Int) : List Int)).bind fun y160 => (if y160.length + ((rd_T35 l0 x12_1).f2).length < 17592186044416 then (spec_PutRuns.l1 k1 a1 (x5_1 ++ t154) (y160 ++ ((rd_T35 l0 x12_1).f2)) l0 (l0.length : Int) x12_1 bq6 ((rd_T35 l0 x12_1).f1) ((rd_T35 l0 x12_1).f2)) else (none))) else (none))) else ((spec_PutVLQ.f k1 (IntKind.u64.wrap ((IntKind.u64.wrap ((rd_T35 l0 x12_1).f1)) * 2))).bind fun t175 => (if x5_1.length + t175.length < 140737488355328 then (spec_PutRuns.l2 k1 a1 (x5_1 ++ t175) 0 l0 (l0.length : Int) x12_1 bq6 ((rd_T35 l0 x12_1).f1) ((rd_T35 l0 x12_1).f2)) else (none)))) = some r := by rw [← hbq6] at H; exact H
            have Nbq6 := Aside0.mk hbq6
            clear hbq6
            by_cases c7 : bq6 = true
            · subst c7
              have H1 : ((spec_PutVLQ.f k1 (Go.bits .or .u64 (IntKind.u64.wrap ((IntKind.u64.wrap ((rd_T35 l0 x12_1).f1)) * 2)) 1)).bind fun t154 => (if x5_1.length + t154.length < 140737488355328 then ((some (([] : List Int) : List Int)).bind fun y160 => (if y160.length + ((rd_T35 l0 x12_1).f2).length < 17592186044416 then (spec_PutRuns.l1 k1 a1 (x5_1 ++ t154) (y160 ++ ((rd_T35 l0 x12_1).f2)) l0 (l0.length : Int) x12_1 true ((rd_T35 l0 x12_1).f1) ((rd_T35 l0 x12_1).f2)) else (none))) else (none))) = some r := by rw [if_pos rfl] at H; exact H
              clear H
              have H := H1
              clear H1
              replace H := Option.bind_eq_some_iff.mp H
              obtain ⟨t154, A80, H⟩ := H
              replace H : (if x5_1.length + t154.length < 140737488355328 then ((some (([] : List Int) : List Int)).bind fun y160 => (if y160.length + ((rd_T35 l0 x12_1).f2).length < 17592186044416 then (spec_PutRuns.l1 k1 a1 (x5_1 ++ t154) (y160 ++ ((rd_T35 l0 x12_1).f2)) l0 (l0.length : Int) x12_1 true ((rd_T35 l0 x12_1).f1) ((rd_T35 l0 x12_1).f2)) else (none))) else (none)) = some r := H
              have A8 := Aside0.mk A80
              clear A80
              by_cases c9 : x5_1.length + t154.length < 140737488355328
              · rw [if_pos c9] at H
                have LMc9 := Aside0.mk c9
                clear c9
                obtain ⟨y157, hy157⟩ : ∃ y_ : List Int, y_ = (x5_1 ++ t154) := ⟨_, rfl⟩
                replace H : ((some (([] : List Int) : List Int)).bind fun y160 => (if y160.length + ((rd_T35 l0 x12_1).f2).length < 17592186044416 then (spec_PutRuns.l1 k1 a1 y157 (y160 ++ ((rd_T35 l0 x12_1).f2)) l0 (l0.length : Int) x12_1 true ((rd_T35 l0 x12_1).f1) ((rd_T35 l0 x12_1).f2)) else (none))) = some r := by first | (rw [hy157]; with_reducible exact H) | (have H2_ := (Option.bind_some _ _).symm.trans H; rw [hy157]; with_reducible exact H2_) | (have H2_ := (Option.bind_some _ _).symm.trans H; with_reducible exact H2_) | with_reducible exact H | (rw [hy157]; exact H) | exact H
                have Ny157 := Aside0.mk hy157
                clear hy157
                obtain ⟨y160, hy160⟩ : ∃ y_ : List Int, y_ = (([] : List Int)) := ⟨_, rfl⟩
                replace H : (if y160.length + ((rd_T35 l0 x12_1).f2).length < 17592186044416 then (spec_PutRuns.l1 k1 a1 y157 (y160 ++ ((rd_T35 l0 x12_1).f2)) l0 (l0.length : Int) x12_1 true ((rd_T35 l0 x12_1).f1) ((rd_T35 l0 x12_1).f2)) else (none)) = some r := by first | (rw [hy160]; with_reducible exact H) | (have H2_ := (Option.bind_some _ _).symm.trans H; rw [hy160]; with_reducible exact H2_) | (have H2_ := (Option.bind_some _ _).symm.trans H; with_reducible exact H2_) | with_reducible exact H | (rw [hy160]; exact H) | exact H
                have Ny160 := Aside0.mk hy160
                clear hy160
                by_cases c10 : y160.length + ((rd_T35 l0 x12_1).f2).length < 17592186044416
                · rw [if_pos c10] at H
                  have LMc10 := Aside0.mk c10
                  clear c10
                  obtain ⟨y163, hy163⟩ : ∃ y_ : List Int, y_ = (y160 ++ ((rd_T35 l0 x12_1).f2)) := ⟨_, rfl⟩
                  replace H : (spec_PutRuns.l1 k1 a1 y157 y163 l0 (l0.length : Int) x12_1 true ((rd_T35 l0 x12_1).f1) ((rd_T35 l0 x12_1).f2)) = some r := by first | (rw [hy163]; with_reducible exact H) | (have H2_ := (Option.bind_some _ _).symm.trans H; rw [hy163]; with_reducible exact H2_) | (have H2_ := (Option.bind_some _ _).symm.trans H; with_reducible exact H2_) | with_reducible exact H | (rw [hy163]; exact H) | exact H
                  have Ny163 := Aside0.mk hy163
                  clear hy163
                  have H' := Aside0.mk H
                  clear H
                  have p152 : 0 ≤ (x12_1 : Int) := of_decide_eq_true (by first | (with_reducible assumption) | assumption)
                  have q152 : x12_1 < (l0.length : Int) := of_decide_eq_true (by first | (with_reducible assumption) | assumption)
                  obtain ⟨ad152, A152_2, c152_2, e152, hx152_0, hx152_1, hx152_2, hl152_2, hi152_2⟩ := at_T35 HR0.out x12_1 p152 q152
                  (try rw [← Nbq6.out] at hx152_0)
                  cases e152
                  replace hx152_0 := (HB.out.cell (World.block_lt_of_cell? w _ hx152_0)).trans hx152_0
                  replace hx152_1 := (HB.out.cell (World.block_lt_of_cell? w _ hx152_1)).trans hx152_1
                  replace hx152_2 := (HB.out.cell (World.block_lt_of_cell? w _ hx152_2)).trans hx152_2
                  have HR152_2 := Aside0.mk hi152_2
                  have HC152_2 := Aside0.mk hl152_2
                  clear hi152_2 hl152_2
                  replace p152 := eq_true p152
                  replace q152 := eq_true q152
                  go_wp2_with (first | ((with_reducible refine gate_dst (N := 7) rfl ?_); refine box_event ?hg (N := 7) ?hd (cs := #[.bool false, .int .i64 0, .slice none 0 0]) (t := 35) ?hr ?_; (case hd => rfl); (case hg => rfl); (case hr => first | (go_simp; done) | (go_simp; rfl)); intro gb153 hg w11 hbox hb; have n0_ := Aside0.mk (Kd.R_below (by (with_reducible repeat (first | apply Kd.R_alloc | apply Kd.R_drewN | apply Kd.R_drew)); exact HO_5.out) hb); have n1_ := Aside0.mk (below_step (by repeat (first | (with_reducible first | exact HB.out | apply below_alloc | apply pw_below_drewN | apply below_drew1) | exact HB.out)) hb); have n2_ := Aside0.mk (hbox); have n3_ := Aside0.mk ((by rw [hg]; exact (below_size (by repeat (first | (with_reducible first | exact HB.out | apply below_alloc | apply pw_below_drewN | apply below_drew1) | exact HB.out))) : w.heap.size ≤ gb153)); have n4_ := Aside0.mk ((by rw [hg]; exact (below_size (by repeat (first | (with_reducible first | exact HB.out | apply below_alloc | apply pw_below_drewN | apply below_drew1) | exact HB.out))) : w.heap.size ≤ gb153)); clear HO_5; clear HB; have HO_5 := n0_; have HB := n1_; have BK153 := n2_; have GW153 := n3_; have GE153 := n4_; clear n0_ n1_ n2_ n3_ n4_; clear hb hbox hg; have hcz12_0 : w11.cell? ⟨gb153, 0, none⟩ = some (.bool false) := (blk_cell BK153.out 0).trans rfl; have hcz12_1 : w11.cell? ⟨gb153, 1, none⟩ = some (.int .i64 0) := (blk_cell BK153.out 1).trans rfl; have hcz12_2 : w11.cell? ⟨gb153, 2, none⟩ = some (.slice none 0 0) := (blk_cell BK153.out 2).trans rfl; have hfz12_0 := blk_frozen BK153.out 0; have hfz12_1 := blk_frozen BK153.out 1; have hfz12_2 := blk_frozen BK153.out 2) | ((with_reducible refine gate_callee (f := 25) rfl ?_); refine goesL_ (some 24) rfl rfl Tryz.func25 (by kernel_rfl) rfl #[.int .u64 (Go.bits .or .u64 (IntKind.u64.wrap ((IntKind.u64.wrap ((rd_T35 l0 x12_1).f1)) * 2)) 1)] rfl (by (try simp only [List.map_toArray, List.map_cons, List.map_nil]); first | done | rfl | (simp only [List.length_drop, List.length_take]; rfl)) ?_; (with_reducible refine (spec_PutVLQ.calls k1 (Go.bits .or .u64 (IntKind.u64.wrap ((IntKind.u64.wrap ((rd_T35 l0 x12_1).f1)) * 2)) 1) t154 _ A8.out).mono ?_); rintro e w13 ⟨v155, rfl, ho0, hb⟩; refine ⟨_, rfl, ?_⟩; have n0_ := Aside0.mk (Kd.R_elder' (by (with_reducible repeat (first | apply Kd.R_alloc | apply Kd.R_drewN | apply Kd.R_drew)); exact (Kd.R_mono (Kd.R_far (p := ⟨gb153, 2, none⟩) (Kd.R_far (p := ⟨gb153, 1, none⟩) (Kd.R_far (p := ⟨gb153, 0, none⟩) (Kd.R_types HO_5.out BK153.out (by decide)) (fun _ hk => hk.2) (.bool true)) (fun _ hk => hk.2) (.int .i64 ((rd_T35 l0 x12_1).f1))) (fun _ hk => hk.2) (.slice A152_2 ((rd_T35 l0 x12_1).f2).length c152_2)) (fun _ h_ => h_.1))) (Kd.R_base ho0) hb); have n1_ := Aside0.mk (Kd.R_lower (Kd.R_new' ho0 (Kd.R_lt (by (with_reducible repeat (first | apply Kd.R_alloc | apply Kd.R_drewN | apply Kd.R_drew)); exact (Kd.R_mono (Kd.R_far (p := ⟨gb153, 2, none⟩) (Kd.R_far (p := ⟨gb153, 1, none⟩) (Kd.R_far (p := ⟨gb153, 0, none⟩) (Kd.R_types HO_5.out BK153.out (by decide)) (fun _ hk => hk.2) (.bool true)) (fun _ hk => hk.2) (.int .i64 ((rd_T35 l0 x12_1).f1))) (fun _ hk => hk.2) (.slice A152_2 ((rd_T35 l0 x12_1).f2).length c152_2)) (fun _ h_ => h_.1))))) (below_size (by repeat (first | (with_reducible first | exact HB.out | apply below_alloc | apply pw_below_drewN | apply below_drew1 | refine below_set ?_ GE153.out) | exact HB.out)))); have n2_ := Aside0.mk (blk_below (g := gb153) (o := .cells #[.bool true, .int .i64 ((rd_T35 l0 x12_1).f1), .slice A152_2 ((rd_T35 l0 x12_1).f2).length c152_2] 35 (0, 0)) (by (with_reducible repeat (first | refine blk_drewN ?_ _ | refine blk_drew ?_ | refine blk_alloc ?_ _)); refine blk_put (cs := #[.bool true, .int .i64 ((rd_T35 l0 x12_1).f1), .slice none 0 0]) ?_ 2 _ rfl; (with_reducible repeat (first | refine blk_drewN ?_ _ | refine blk_drew ?_ | refine blk_alloc ?_ _)); refine blk_put (cs := #[.bool true, .int .i64 0, .slice none 0 0]) ?_ 1 _ rfl; (with_reducible repeat (first | refine blk_drewN ?_ _ | refine blk_drew ?_ | refine blk_alloc ?_ _)); refine blk_put (cs := #[.bool false, .int .i64 0, .slice none 0 0]) ?_ 0 _ rfl; (with_reducible repeat (first | refine blk_drewN ?_ _ | refine blk_drew ?_ | refine blk_alloc ?_ _)); exact BK153.out) hb); have n3_ := Aside0.mk (below_step (by repeat (first | (with_reducible first | exact HB.out | apply below_alloc | apply pw_below_drewN | apply below_drew1 | refine below_set ?_ GE153.out) | exact HB.out)) hb); clear HO_5; clear BK153; clear HB; have HO_5 := n0_; have HO156 := n1_; have BK153 := n2_; have HB := n3_; clear n0_ n1_ n2_ n3_; (try clear hb); (try clear hb2); (try clear hk); (try clear hi); (try clear ho0); obtain ⟨Ao15, co15, eo15⟩ := Kd.R_slice HO156.out; subst eo15) | ((with_reducible refine gate_builtin (b := .append) (xs := #[.tmp 18, .tmp 24]) rfl ?_); at_builtin; refine Kd.R_append_rows (Kd.int .u8) (w0 := w) w.heap.size rfl (.tmp 18) (.tmp 24) 26 5 (.int .u8 0) 1 rfl Tryz.underlying26 info5 rfl (by decide) (by omega) u5 x5_1 t154 _ _ _ (fun k_ => some k_ ≠ (.slice Ao15 t154.length co15 : Value).ownBlock) (fun _ => False) rfl rfl ?aO ?aR (fun _ _ h => h) (fun _ h => h.elim) ?aF ?aB ?aS ?aL ?_; (case aR => repeat (first | exact (Kd.R_reads' HO156.out).2.2 | (with_reducible refine Kd.C_alloc ?_ _) | (with_reducible refine Kd.C_drewN ?_ _) | (with_reducible refine Kd.C_drew ?_))); (case aB => exact (by repeat (first | (with_reducible first | exact HB.out | apply below_alloc | apply pw_below_drewN | apply below_drew1 | refine below_set ?_ GE153.out) | exact HB.out))); (case aF => exact (fun k_ hk => Kd.fresh' (Kd.R_lt (by (with_reducible repeat (first | apply Kd.R_alloc | apply Kd.R_drewN | apply Kd.R_drew)); exact HO156.out)) k_ hk)); (case aO => exact (by (with_reducible repeat (first | apply Kd.R_alloc | apply Kd.R_drewN | apply Kd.R_drew)); exact Kd.R_mono HO_5.out (fun _ hk => hk.2))); (case aS => exact (below_size (by repeat (first | (with_reducible first | exact HB.out | apply below_alloc | apply pw_below_drewN | apply below_drew1 | refine below_set ?_ GE153.out) | exact HB.out)))); (case aL => have := LMc9.out; omega); intro v158 w14 ho hb hg hat; rw [← Ny157.out] at ho; have n0_ := Aside0.mk (blk_grown (g := gb153) (o := .cells #[.bool true, .int .i64 ((rd_T35 l0 x12_1).f1), .slice A152_2 ((rd_T35 l0 x12_1).f2).length c152_2] 35 (0, 0)) (by (with_reducible repeat (first | refine blk_drewN ?_ _ | refine blk_drew ?_ | refine blk_alloc ?_ _)); exact BK153.out) hg (Kd.R_ne HO_5.out BK153.out (by decide))); have n1_ := Aside0.mk (Kd.R_after (ok := (fun _ => True)) (by (with_reducible repeat (first | apply Kd.R_alloc | apply Kd.R_drewN | apply Kd.R_drew)); exact HO156.out) hg hat); have n2_ := Aside0.mk (hb); have n3_ := Aside0.mk (ho); clear BK153; clear HO156; clear HB; clear HO_5; have BK153 := n0_; have HO156 := n1_; have HB := n2_; have HO159 := n3_; clear n0_ n1_ n2_ n3_; clear ho hb hg hat) | ((with_reducible refine gate_dst (N := 26) rfl ?_); refine Kd.R_lit (Kd.int .u64) _ 55 ?hg (N := 26) ?hd (xs := ([] : List Int)) (inner := []) (ok := fun _ => True) (okp := fun _ => True) ?hr ?hp (fun _ hk => hk) trivial (Below.refl _ _) (Nat.le_refl _) (by simp) ?_; (case hd => rfl); (case hg => rfl); (case hr => first | (go_simp; done) | (go_simp; rfl)); (case hp => exact (Reps.none _ _)); intro v161 w16 ho17 hb hg_ hnew_; clear hg_ hnew_; (first | rw [← Ny160.out] at ho17 | (simp only [Int.reduceToNat] at ho17; rw [← Ny160.out] at ho17)); have n0_ := Aside0.mk (Kd.R_below (by (with_reducible repeat (first | apply Kd.R_alloc | apply Kd.R_drewN | apply Kd.R_drew)); exact HO156.out) hb); have n1_ := Aside0.mk (Kd.R_below (by (with_reducible repeat (first | apply Kd.R_alloc | apply Kd.R_drewN | apply Kd.R_drew)); exact HO159.out) hb); have n2_ := Aside0.mk (Kd.R_lower ho17 (below_size (by repeat (first | (with_reducible first | exact HB.out | apply below_alloc | apply pw_below_drewN | apply below_drew1 | refine below_set ?_ GE153.out) | exact HB.out)))); have n3_ := Aside0.mk (blk_below (g := gb153) (o := .cells #[.bool true, .int .i64 ((rd_T35 l0 x12_1).f1), .slice A152_2 ((rd_T35 l0 x12_1).f2).length c152_2] 35 (0, 0)) (by (with_reducible repeat (first | refine blk_drewN ?_ _ | refine blk_drew ?_ | refine blk_alloc ?_ _)); exact BK153.out) hb); have n4_ := Aside0.mk (below_step (by repeat (first | (with_reducible first | exact HB.out | apply below_alloc | apply pw_below_drewN | apply below_drew1 | refine below_set ?_ GE153.out) | exact HB.out)) hb); clear HO156; clear HO159; clear BK153; clear HB; have HO156 := n0_; have HO159 := n1_; have HO162 := n2_; have BK153 := n3_; have HB := n4_; clear n0_ n1_ n2_ n3_ n4_; clear hb ho17; have hcz18_0 : w16.cell? ⟨gb153, 0, none⟩ = some (.bool true) := (blk_cell BK153.out 0).trans rfl; have hcz18_1 : w16.cell? ⟨gb153, 1, none⟩ = some (.int .i64 ((rd_T35 l0 x12_1).f1)) := (blk_cell BK153.out 1).trans rfl; have hcz18_2 : w16.cell? ⟨gb153, 2, none⟩ = some (.slice A152_2 ((rd_T35 l0 x12_1).f2).length c152_2) := (blk_cell BK153.out 2).trans rfl; have hfz18_0 := blk_frozen BK153.out 0; have hfz18_1 := blk_frozen BK153.out 1; have hfz18_2 := blk_frozen BK153.out 2) | ((with_reducible refine gate_builtin (b := .append) (xs := #[.tmp 26, .tmp 28]) rfl ?_); at_builtin; refine Kd.R_append_rows (Kd.int .u64) (w0 := w) w.heap.size rfl (.tmp 26) (.tmp 28) 27 55 (.int .u64 0) 8 rfl Tryz.underlying27 info55 rfl (by decide) (by omega) v161 y160 ((rd_T35 l0 x12_1).f2) _ _ _ (fun _ => True) (fun _ => False) rfl rfl ?aO ?aR (fun _ _ h => h) (fun _ h => h.elim) ?aF ?aB ?aS ?aL ?_; (case aR => repeat (first | exact (Kd.C_below HR152_2.out HB.out) | (with_reducible refine Kd.C_alloc ?_ _) | (with_reducible refine Kd.C_drewN ?_ _) | (with_reducible refine Kd.C_drew ?_))); (case aB => exact (by repeat (first | (with_reducible first | exact HB.out | apply below_alloc | apply pw_below_drewN | apply below_drew1 | refine below_set ?_ GE153.out) | exact HB.out))); (case aF => exact (fun _ _ => trivial)); (case aO => exact (by (with_reducible repeat (first | apply Kd.R_alloc | apply Kd.R_drewN | apply Kd.R_drew)); exact HO162.out)); (case aS => exact (below_size (by repeat (first | (with_reducible first | exact HB.out | apply below_alloc | apply pw_below_drewN | apply below_drew1 | refine below_set ?_ GE153.out) | exact HB.out)))); (case aL => have := LMc10.out; omega); intro v164 w19 ho hb hg hat; rw [← Ny163.out] at ho; have n0_ := Aside0.mk (blk_grown (g := gb153) (o := .cells #[.bool true, .int .i64 ((rd_T35 l0 x12_1).f1), .slice A152_2 ((rd_T35 l0 x12_1).f2).length c152_2] 35 (0, 0)) (by (with_reducible repeat (first | refine blk_drewN ?_ _ | refine blk_drew ?_ | refine blk_alloc ?_ _)); exact BK153.out) hg (Kd.R_ne HO162.out BK153.out (by decide))); have n1_ := Aside0.mk (Kd.R_over' (by (with_reducible repeat (first | apply Kd.R_alloc | apply Kd.R_drewN | apply Kd.R_drew)); exact HO156.out) (Kd.R_typed (by (with_reducible repeat (first | apply Kd.R_alloc | apply Kd.R_drewN | apply Kd.R_drew)); exact HO162.out)) (by decide) hg); have n2_ := Aside0.mk (Kd.R_over' (by (with_reducible repeat (first | apply Kd.R_alloc | apply Kd.R_drewN | apply Kd.R_drew)); exact HO159.out) (Kd.R_typed (by (with_reducible repeat (first | apply Kd.R_alloc | apply Kd.R_drewN | apply Kd.R_drew)); exact HO162.out)) (by decide) hg); have n3_ := Aside0.mk (hb); have n4_ := Aside0.mk (ho); clear BK153; clear HO156; clear HO159; clear HB; clear HO162; have BK153 := n0_; have HO156 := n1_; have HO159 := n2_; have HB := n3_; have HO165 := n4_; clear n0_ n1_ n2_ n3_ n4_; clear ho hb hg hat))
                  go_loopg [8] k1 (fun kq v8 w' => ∃ (x8_2 : List Int), Aside0 (spec_PutRuns.l1 kq a1 y157 x8_2 l0 (l0.length : Int) x12_1 true ((rd_T35 l0 x12_1).f1) ((rd_T35 l0 x12_1).f2) = some r) ∧ Aside0 (kq ≤ k1) ∧ Aside0 (Kd.R (Kd.int .u8) 5 w' w.heap.size (fun _ => True) v158 y157) ∧ Aside0 (Kd.R (Kd.int .u64) 55 w' w.heap.size (fun _ => True) v8 x8_2) ∧ Aside0 (w'.heap[gb153]? = some (.cells #[.bool true, .int .i64 ((rd_T35 l0 x12_1).f1), (.slice A152_2 ((rd_T35 l0 x12_1).f2).length c152_2)] 35 (0, 0))) ∧ Aside0 (Below w.heap.size w w'))
                  case atStart => exact ⟨(y163), H', ⟨Nat.le_refl _⟩, ⟨by (with_reducible repeat (first | apply Kd.R_alloc | apply Kd.R_drewN | apply Kd.R_drew)); exact Kd.R_mono HO159.out (fun _ hk => trivial)⟩, ⟨by (with_reducible repeat (first | apply Kd.R_alloc | apply Kd.R_drewN | apply Kd.R_drew)); exact HO165.out⟩, ⟨by (with_reducible repeat (first | refine blk_drewN ?_ _ | refine blk_drew ?_ | refine blk_alloc ?_ _)); exact BK153.out⟩, ⟨by repeat (first | (with_reducible first | exact HB.out | apply below_alloc | apply pw_below_drewN | apply below_drew1 | refine below_set ?_ GE153.out) | exact HB.out)⟩⟩
                  case round =>
                    clear H'
                    try clear c1
                    try clear p1
                    try clear q1
                    try clear hx1
                    try clear c2
                    try clear p2
                    try clear c3
                    try clear c3b0
                    try clear c4
                    try clear c4b0
                    try clear c5
                    try clear c5b0
                    try clear q6
                    try clear c7
                    try clear c9
                    try clear c10
                    try clear c15
                    try clear p15
                    try clear q15
                    try clear hx15
                    try clear hcz12_0
                    try clear hcz12_1
                    try clear hcz12_2
                    try clear hcz18_0
                    try clear hcz18_1
                    try clear hcz18_2
                    try clear hfz12_0
                    try clear hfz12_1
                    try clear hfz12_2
                    try clear hfz18_0
                    try clear hfz18_1
                    try clear hfz18_2
                    try clear hx152_0
                    try clear hx152_1
                    try clear hx152_2
                    try clear p152
                    try clear p2
                    try clear q152
                    obtain ⟨x8_2, HA, HK2, HO_5, HO_8, BK153, HB⟩ := hrel
                    cases gk with
                    | zero => exact absurd HA.out (by simp [spec_PutRuns.l1])
                    | succ k2 =>
                      have H := HA.out
                      clear HA
                      simp only [spec_PutRuns.l1] at H
                      by_cases c20 : (x8_2.length : Int) < (wrap64 (8 * ((rd_T35 l0 x12_1).f1)))
                      · rw [if_pos c20] at H
                        have c20b0 : decide ((x8_2.length : Int) < (wrap64 (8 * ((rd_T35 l0 x12_1).f1)))) = true := decide_eq_true c20
                        clear c20
                        by_cases c21 : x8_2.length < 17592186044416
                        · rw [if_pos c21] at H
                          have LMc21 := Aside0.mk c21
                          clear c21
                          obtain ⟨y166, hy166⟩ : ∃ y_ : List Int, y_ = (x8_2 ++ [0]) := ⟨_, rfl⟩
                          replace H : (spec_PutRuns.l1 k2 a1 y157 y166 l0 (l0.length : Int) x12_1 true ((rd_T35 l0 x12_1).f1) ((rd_T35 l0 x12_1).f2)) = some r := by first | (rw [hy166]; with_reducible exact H) | (have H2_ := (Option.bind_some _ _).symm.trans H; rw [hy166]; with_reducible exact H2_) | (have H2_ := (Option.bind_some _ _).symm.trans H; with_reducible exact H2_) | with_reducible exact H | (rw [hy166]; exact H) | exact H
                          have Ny166 := Aside0.mk hy166
                          clear hy166
                          have H' := Aside0.mk H
                          clear H
                          obtain ⟨Ao22, co22, eo22⟩ := Kd.R_slice HO_8.out
                          subst eo22
                          have hcz23_0 : wr.cell? ⟨gb153, 0, none⟩ = some (.bool true) := (blk_cell BK153.out 0).trans rfl
                          have hcz23_1 : wr.cell? ⟨gb153, 1, none⟩ = some (.int .i64 ((rd_T35 l0 x12_1).f1)) := (blk_cell BK153.out 1).trans rfl
                          have hcz23_2 : wr.cell? ⟨gb153, 2, none⟩ = some (.slice A152_2 ((rd_T35 l0 x12_1).f2).length c152_2) := (blk_cell BK153.out 2).trans rfl
                          have hfz23_0 := blk_frozen BK153.out 0
                          have hfz23_1 := blk_frozen BK153.out 1
                          have hfz23_2 := blk_frozen BK153.out 2
                          go_wp2_with (first | ((with_reducible refine gate_builtin (b := .append) (xs := #[.tmp 36, .tmp 37]) rfl ?_); at_builtin; refine Kd.R_append (Kd.int .u64) (w0 := w) w.heap.size rfl (.tmp 36) (.tmp 37) 27 55 (.int .u64 0) 8 rfl Tryz.underlying27 info55 rfl (by decide) (by omega) (.slice Ao22 x8_2.length co22) x8_2 0 [.int .u64 0] (fun _ => True) (fun _ => False) rfl rfl ?aP (fun _ hk => hk.elim) ?aF ?aO ?aB ?aS ?aL ?_; (case aP => exact rfl); (case aB => exact (by repeat (first | (with_reducible first | exact HB.out | apply below_alloc | apply pw_below_drewN | apply below_drew1 | refine below_set ?_ GE153.out) | exact HB.out))); (case aF => exact (fun _ _ => trivial)); (case aO => exact (by (with_reducible repeat (first | apply Kd.R_alloc | apply Kd.R_drewN | apply Kd.R_drew)); exact HO_8.out)); (case aS => exact (below_size (by repeat (first | (with_reducible first | exact HB.out | apply below_alloc | apply pw_below_drewN | apply below_drew1 | refine below_set ?_ GE153.out) | exact HB.out)))); (case aL => have := LMc21.out; omega); intro v167 w24 ho hb hg hat; rw [← Ny166.out] at ho; have n0_ := Aside0.mk (Kd.R_over' (by (with_reducible repeat (first | apply Kd.R_alloc | apply Kd.R_drewN | apply Kd.R_drew)); exact HO_5.out) (Kd.R_typed (by (with_reducible repeat (first | apply Kd.R_alloc | apply Kd.R_drewN | apply Kd.R_drew)); exact HO_8.out)) (by decide) hg); have n1_ := Aside0.mk (blk_grown (g := gb153) (o := .cells #[.bool true, .int .i64 ((rd_T35 l0 x12_1).f1), .slice A152_2 ((rd_T35 l0 x12_1).f2).length c152_2] 35 (0, 0)) (by (with_reducible repeat (first | refine blk_drewN ?_ _ | refine blk_drew ?_ | refine blk_alloc ?_ _)); exact BK153.out) hg (Kd.R_ne HO_8.out BK153.out (by decide))); have n2_ := Aside0.mk (hb); have n3_ := Aside0.mk (ho); clear HO_5; clear BK153; clear HB; clear HO_8; have HO_5 := n0_; have BK153 := n1_; have HB := n2_; have HO168 := n3_; clear n0_ n1_ n2_ n3_; clear ho hb hg hat))
                          go_roundg k2
                          case measure => have := HK1.out; have := HK2.out; omega
                          case rel => exact ⟨(y166), H', ⟨by have := HK1.out; have := HK2.out; omega⟩, ⟨by (with_reducible repeat (first | apply Kd.R_alloc | apply Kd.R_drewN | apply Kd.R_drew)); exact HO_5.out⟩, ⟨by (with_reducible repeat (first | apply Kd.R_alloc | apply Kd.R_drewN | apply Kd.R_drew)); exact HO168.out⟩, ⟨by (with_reducible repeat (first | refine blk_drewN ?_ _ | refine blk_drew ?_ | refine blk_alloc ?_ _)); exact BK153.out⟩, ⟨by repeat (first | (with_reducible first | exact HB.out | apply below_alloc | apply pw_below_drewN | apply below_drew1 | refine below_set ?_ GE153.out) | exact HB.out)⟩⟩
                        · rw [if_neg c21] at H
                          exact absurd H (by simp)
                      · rw [if_neg c20] at H
                        have c20b0 : decide ((x8_2.length : Int) < (wrap64 (8 * ((rd_T35 l0 x12_1).f1)))) = false := decide_eq_false c20
                        clear c20
                        replace H := Option.bind_eq_some_iff.mp H
                        obtain ⟨t169, A250, H⟩ := H
                        replace H : (if y157.length + t169.length < 140737488355328 then (spec_PutRuns.l0 k2 a1 (y157 ++ t169) l0 (l0.length : Int) (wrap64 (x12_1 + 1))) else (none)) = some r := H
                        have A25 := Aside0.mk A250
                        clear A250
                        by_cases c26 : y157.length + t169.length < 140737488355328
                        · rw [if_pos c26] at H
                          have LMc26 := Aside0.mk c26
                          clear c26
                          obtain ⟨y172, hy172⟩ : ∃ y_ : List Int, y_ = (y157 ++ t169) := ⟨_, rfl⟩
                          replace H : (spec_PutRuns.l0 k2 a1 y172 l0 (l0.length : Int) (wrap64 (x12_1 + 1))) = some r := by first | (rw [hy172]; with_reducible exact H) | (have H2_ := (Option.bind_some _ _).symm.trans H; rw [hy172]; with_reducible exact H2_) | (have H2_ := (Option.bind_some _ _).symm.trans H; with_reducible exact H2_) | with_reducible exact H | (rw [hy172]; exact H) | exact H
                          have Ny172 := Aside0.mk hy172
                          clear hy172
                          have H' := Aside0.mk H
                          clear H
                          obtain ⟨Ao27, co27, eo27⟩ := Kd.R_slice HO_8.out
                          subst eo27
                          have hcz28_0 : wr.cell? ⟨gb153, 0, none⟩ = some (.bool true) := (blk_cell BK153.out 0).trans rfl
                          have hcz28_1 : wr.cell? ⟨gb153, 1, none⟩ = some (.int .i64 ((rd_T35 l0 x12_1).f1)) := (blk_cell BK153.out 1).trans rfl
                          have hcz28_2 : wr.cell? ⟨gb153, 2, none⟩ = some (.slice A152_2 ((rd_T35 l0 x12_1).f2).length c152_2) := (blk_cell BK153.out 2).trans rfl
                          have hfz28_0 := blk_frozen BK153.out 0
                          have hfz28_1 := blk_frozen BK153.out 1
                          have hfz28_2 := blk_frozen BK153.out 2
                          go_wp2_with (first | ((with_reducible refine gate_callee (f := 26) rfl ?_); refine goesL_ (some 42) rfl rfl Tryz.func26 (by kernel_rfl) rfl #[.slice Ao27 x8_2.length co27, .int .i64 a1] rfl (by (try simp only [List.map_toArray, List.map_cons, List.map_nil]); first | done | rfl | (simp only [List.length_drop, List.length_take]; rfl)) ?_; (with_reducible refine (spec_PackBits.calls k2 _ _ x8_2 a1 t169 _ ?side1 ?side2 A25.out).mono ?_); (case side1 => repeat (first | exact (Kd.R_reads' HO_8.out).2.2 | (with_reducible refine Kd.C_alloc ?_ _) | (with_reducible refine Kd.C_drewN ?_ _) | (with_reducible refine Kd.C_drew ?_))); (case side2 => exact (Kd.R_reads' HO_8.out).2.1); rintro e w29 ⟨v170, rfl, ho0, hb⟩; refine ⟨_, rfl, ?_⟩; have n0_ := Aside0.mk (Kd.R_elder' (by (with_reducible repeat (first | apply Kd.R_alloc | apply Kd.R_drewN | apply Kd.R_drew)); exact HO_5.out) (Kd.R_base ho0) hb); have n1_ := Aside0.mk (Kd.R_below (by (with_reducible repeat (first | apply Kd.R_alloc | apply Kd.R_drewN | apply Kd.R_drew)); exact HO_8.out) hb); have n2_ := Aside0.mk (Kd.R_lower (Kd.R_new' ho0 (Kd.R_lt (by (with_reducible repeat (first | apply Kd.R_alloc | apply Kd.R_drewN | apply Kd.R_drew)); exact HO_5.out))) (below_size (by repeat (first | (with_reducible first | exact HB.out | apply below_alloc | apply pw_below_drewN | apply below_drew1 | refine below_set ?_ GE153.out) | exact HB.out)))); have n3_ := Aside0.mk (blk_below (g := gb153) (o := .cells #[.bool true, .int .i64 ((rd_T35 l0 x12_1).f1), .slice A152_2 ((rd_T35 l0 x12_1).f2).length c152_2] 35 (0, 0)) (by (with_reducible repeat (first | refine blk_drewN ?_ _ | refine blk_drew ?_ | refine blk_alloc ?_ _)); exact BK153.out) hb); have n4_ := Aside0.mk (below_step (by repeat (first | (with_reducible first | exact HB.out | apply below_alloc | apply pw_below_drewN | apply below_drew1 | refine below_set ?_ GE153.out) | exact HB.out)) hb); clear HO_5; clear HO_8; clear BK153; clear HB; have HO_5 := n0_; have HO_8 := n1_; have HO171 := n2_; have BK153 := n3_; have HB := n4_; clear n0_ n1_ n2_ n3_ n4_; (try clear hb); (try clear hb2); (try clear hk); (try clear hi); (try clear ho0); obtain ⟨Ao31, co31, eo31⟩ := Kd.R_slice HO171.out; subst eo31) | ((with_reducible refine gate_builtin (b := .append) (xs := #[.tmp 39, .tmp 42]) rfl ?_); at_builtin; refine Kd.R_append_rows (Kd.int .u8) (w0 := w) w.heap.size rfl (.tmp 39) (.tmp 42) 26 5 (.int .u8 0) 1 rfl Tryz.underlying26 info5 rfl (by decide) (by omega) v158 y157 t169 _ _ _ (fun k_ => some k_ ≠ (.slice Ao31 t169.length co31 : Value).ownBlock) (fun _ => False) rfl rfl ?aO ?aR (fun _ _ h => h) (fun _ h => h.elim) ?aF ?aB ?aS ?aL ?_; (case aR => repeat (first | exact (Kd.R_reads' HO171.out).2.2 | (with_reducible refine Kd.C_alloc ?_ _) | (with_reducible refine Kd.C_drewN ?_ _) | (with_reducible refine Kd.C_drew ?_))); (case aB => exact (by repeat (first | (with_reducible first | exact HB.out | apply below_alloc | apply pw_below_drewN | apply below_drew1 | refine below_set ?_ GE153.out) | exact HB.out))); (case aF => exact (fun k_ hk => Kd.fresh' (Kd.R_lt (by (with_reducible repeat (first | apply Kd.R_alloc | apply Kd.R_drewN | apply Kd.R_drew)); exact HO171.out)) k_ hk)); (case aO => exact (by (with_reducible repeat (first | apply Kd.R_alloc | apply Kd.R_drewN | apply Kd.R_drew)); exact Kd.R_mono HO_5.out (fun _ hk => hk.2))); (case aS => exact (below_size (by repeat (first | (with_reducible first | exact HB.out | apply below_alloc | apply pw_below_drewN | apply below_drew1 | refine below_set ?_ GE153.out) | exact HB.out)))); (case aL => have := LMc26.out; omega); intro v173 w30 ho hb hg hat; rw [← Ny172.out] at ho; have n0_ := Aside0.mk (Kd.R_over' (by (with_reducible repeat (first | apply Kd.R_alloc | apply Kd.R_drewN | apply Kd.R_drew)); exact HO_8.out) (Kd.R_typed (by (with_reducible repeat (first | apply Kd.R_alloc | apply Kd.R_drewN | apply Kd.R_drew)); exact HO_5.out)) (by decide) hg); have n1_ := Aside0.mk (blk_grown (g := gb153) (o := .cells #[.bool true, .int .i64 ((rd_T35 l0 x12_1).f1), .slice A152_2 ((rd_T35 l0 x12_1).f2).length c152_2] 35 (0, 0)) (by (with_reducible repeat (first | refine blk_drewN ?_ _ | refine blk_drew ?_ | refine blk_alloc ?_ _)); exact BK153.out) hg (Kd.R_ne HO_5.out BK153.out (by decide))); have n2_ := Aside0.mk (Kd.R_after (ok := (fun _ => True)) (by (with_reducible repeat (first | apply Kd.R_alloc | apply Kd.R_drewN | apply Kd.R_drew)); exact HO171.out) hg hat); have n3_ := Aside0.mk (hb); have n4_ := Aside0.mk (ho); clear HO_8; clear BK153; clear HO171; clear HB; clear HO_5; have HO_8 := n0_; have BK153 := n1_; have HO171 := n2_; have HB := n3_; have HO174 := n4_; clear n0_ n1_ n2_ n3_ n4_; clear ho hb hg hat))
                          go_roundg k2
                          case measure => have := HK1.out; have := HK2.out; omega
                          case rel => exact ⟨(y172), (wrap64 (x12_1 + 1)), (by first | rfl | (simp; done) | (simp [*]; done)), H', ⟨by have := HK1.out; have := HK2.out; omega⟩, ⟨by (with_reducible repeat (first | apply Kd.R_alloc | apply Kd.R_drewN | apply Kd.R_drew)); exact Kd.R_mono HO174.out (fun _ hk => trivial)⟩, ⟨by repeat (first | (with_reducible first | exact HB.out | apply below_alloc | apply pw_below_drewN | apply below_drew1 | refine below_set ?_ GE153.out) | exact HB.out)⟩⟩
                        · rw [if_neg c26] at H
                          exact absurd H (by simp)
                · rw [if_neg c10] at H
                  exact absurd H (by simp)
              · rw [if_neg c9] at H
                exact absurd H (by simp)
            · replace c7 := Bool.eq_false_iff.mpr c7
              subst c7
              have H1 : ((spec_PutVLQ.f k1 (IntKind.u64.wrap ((IntKind.u64.wrap ((rd_T35 l0 x12_1).f1)) * 2))).bind fun t175 => (if x5_1.length + t175.length < 140737488355328 then (spec_PutRuns.l2 k1 a1 (x5_1 ++ t175) 0 l0 (l0.length : Int) x12_1 false ((rd_T35 l0 x12_1).f1) ((rd_T35 l0 x12_1).f2)) else (none))) = some r := by rw [if_neg (show ¬ (false = true) by decide)] at H; exact H
              clear H
              have H := H1
              clear H1
              replace H := Option.bind_eq_some_iff.mp H
              obtain ⟨t175, A320, H⟩ := H
              replace H : (if x5_1.length + t175.length < 140737488355328 then (spec_PutRuns.l2 k1 a1 (x5_1 ++ t175) 0 l0 (l0.length : Int) x12_1 false ((rd_T35 l0 x12_1).f1) ((rd_T35 l0 x12_1).f2)) else (none)) = some r := H
              have A32 := Aside0.mk A320
              clear A320
              by_cases c33 : x5_1.length + t175.length < 140737488355328
              · rw [if_pos c33] at H
                have LMc33 := Aside0.mk c33
                clear c33
                obtain ⟨y178, hy178⟩ : ∃ y_ : List Int, y_ = (x5_1 ++ t175) := ⟨_, rfl⟩
                replace H : (spec_PutRuns.l2 k1 a1 y178 0 l0 (l0.length : Int) x12_1 false ((rd_T35 l0 x12_1).f1) ((rd_T35 l0 x12_1).f2)) = some r := by first | (rw [hy178]; with_reducible exact H) | (have H2_ := (Option.bind_some _ _).symm.trans H; rw [hy178]; with_reducible exact H2_) | (have H2_ := (Option.bind_some _ _).symm.trans H; with_reducible exact H2_) | with_reducible exact H | (rw [hy178]; exact H) | exact H
                have Ny178 := Aside0.mk hy178
                clear hy178
                have H' := Aside0.mk H
                clear H
                have p152 : 0 ≤ (x12_1 : Int) := of_decide_eq_true (by first | (with_reducible assumption) | assumption)
                have q152 : x12_1 < (l0.length : Int) := of_decide_eq_true (by first | (with_reducible assumption) | assumption)
                obtain ⟨ad152, A152_2, c152_2, e152, hx152_0, hx152_1, hx152_2, hl152_2, hi152_2⟩ := at_T35 HR0.out x12_1 p152 q152
                (try rw [← Nbq6.out] at hx152_0)
                cases e152
                replace hx152_0 := (HB.out.cell (World.block_lt_of_cell? w _ hx152_0)).trans hx152_0
                replace hx152_1 := (HB.out.cell (World.block_lt_of_cell? w _ hx152_1)).trans hx152_1
                replace hx152_2 := (HB.out.cell (World.block_lt_of_cell? w _ hx152_2)).trans hx152_2
                have HR152_2 := Aside0.mk hi152_2
                have HC152_2 := Aside0.mk hl152_2
                clear hi152_2 hl152_2
                replace p152 := eq_true p152
                replace q152 := eq_true q152
                go_wp2_with (first | ((with_reducible refine gate_dst (N := 7) rfl ?_); refine box_event ?hg (N := 7) ?hd (cs := #[.bool false, .int .i64 0, .slice none 0 0]) (t := 35) ?hr ?_; (case hd => rfl); (case hg => rfl); (case hr => first | (go_simp; done) | (go_simp; rfl)); intro gb153 hg w34 hbox hb; have n0_ := Aside0.mk (Kd.R_below (by (with_reducible repeat (first | apply Kd.R_alloc | apply Kd.R_drewN | apply Kd.R_drew)); exact HO_5.out) hb); have n1_ := Aside0.mk (below_step (by repeat (first | (with_reducible first | exact HB.out | apply below_alloc | apply pw_below_drewN | apply below_drew1) | exact HB.out)) hb); have n2_ := Aside0.mk (hbox); have n3_ := Aside0.mk ((by rw [hg]; exact (below_size (by repeat (first | (with_reducible first | exact HB.out | apply below_alloc | apply pw_below_drewN | apply below_drew1) | exact HB.out))) : w.heap.size ≤ gb153)); have n4_ := Aside0.mk ((by rw [hg]; exact (below_size (by repeat (first | (with_reducible first | exact HB.out | apply below_alloc | apply pw_below_drewN | apply below_drew1) | exact HB.out))) : w.heap.size ≤ gb153)); clear HO_5; clear HB; have HO_5 := n0_; have HB := n1_; have BK153 := n2_; have GW153 := n3_; have GE153 := n4_; clear n0_ n1_ n2_ n3_ n4_; clear hb hbox hg; have hcz35_0 : w34.cell? ⟨gb153, 0, none⟩ = some (.bool false) := (blk_cell BK153.out 0).trans rfl; have hcz35_1 : w34.cell? ⟨gb153, 1, none⟩ = some (.int .i64 0) := (blk_cell BK153.out 1).trans rfl; have hcz35_2 : w34.cell? ⟨gb153, 2, none⟩ = some (.slice none 0 0) := (blk_cell BK153.out 2).trans rfl; have hfz35_0 := blk_frozen BK153.out 0; have hfz35_1 := blk_frozen BK153.out 1; have hfz35_2 := blk_frozen BK153.out 2) | ((with_reducible refine gate_callee (f := 25) rfl ?_); refine goesL_ (some 49) rfl rfl Tryz.func25 (by kernel_rfl) rfl #[.int .u64 (IntKind.u64.wrap ((IntKind.u64.wrap ((rd_T35 l0 x12_1).f1)) * 2))] rfl (by (try simp only [List.map_toArray, List.map_cons, List.map_nil]); first | done | rfl | (simp only [List.length_drop, List.length_take]; rfl)) ?_; (with_reducible refine (spec_PutVLQ.calls k1 (IntKind.u64.wrap ((IntKind.u64.wrap ((rd_T35 l0 x12_1).f1)) * 2)) t175 _ A32.out).mono ?_); rintro e w36 ⟨v176, rfl, ho0, hb⟩; refine ⟨_, rfl, ?_⟩; have n0_ := Aside0.mk (Kd.R_elder' (by (with_reducible repeat (first | apply Kd.R_alloc | apply Kd.R_drewN | apply Kd.R_drew)); exact (Kd.R_mono (Kd.R_far (p := ⟨gb153, 2, none⟩) (Kd.R_far (p := ⟨gb153, 1, none⟩) (Kd.R_far (p := ⟨gb153, 0, none⟩) (Kd.R_types HO_5.out BK153.out (by decide)) (fun _ hk => hk.2) (.bool false)) (fun _ hk => hk.2) (.int .i64 ((rd_T35 l0 x12_1).f1))) (fun _ hk => hk.2) (.slice A152_2 ((rd_T35 l0 x12_1).f2).length c152_2)) (fun _ h_ => h_.1))) (Kd.R_base ho0) hb); have n1_ := Aside0.mk (Kd.R_lower (Kd.R_new' ho0 (Kd.R_lt (by (with_reducible repeat (first | apply Kd.R_alloc | apply Kd.R_drewN | apply Kd.R_drew)); exact (Kd.R_mono (Kd.R_far (p := ⟨gb153, 2, none⟩) (Kd.R_far (p := ⟨gb153, 1, none⟩) (Kd.R_far (p := ⟨gb153, 0, none⟩) (Kd.R_types HO_5.out BK153.out (by decide)) (fun _ hk => hk.2) (.bool false)) (fun _ hk => hk.2) (.int .i64 ((rd_T35 l0 x12_1).f1))) (fun _ hk => hk.2) (.slice A152_2 ((rd_T35 l0 x12_1).f2).length c152_2)) (fun _ h_ => h_.1))))) (below_size (by repeat (first | (with_reducible first | exact HB.out | apply below_alloc | apply pw_below_drewN | apply below_drew1 | refine below_set ?_ GE153.out) | exact HB.out)))); have n2_ := Aside0.mk (blk_below (g := gb153) (o := .cells #[.bool false, .int .i64 ((rd_T35 l0 x12_1).f1), .slice A152_2 ((rd_T35 l0 x12_1).f2).length c152_2] 35 (0, 0)) (by (with_reducible repeat (first | refine blk_drewN ?_ _ | refine blk_drew ?_ | refine blk_alloc ?_ _)); refine blk_put (cs := #[.bool false, .int .i64 ((rd_T35 l0 x12_1).f1), .slice none 0 0]) ?_ 2 _ rfl; (with_reducible repeat (first | refine blk_drewN ?_ _ | refine blk_drew ?_ | refine blk_alloc ?_ _)); refine blk_put (cs := #[.bool false, .int .i64 0, .slice none 0 0]) ?_ 1 _ rfl; (with_reducible repeat (first | refine blk_drewN ?_ _ | refine blk_drew ?_ | refine blk_alloc ?_ _)); refine blk_put (cs := #[.bool false, .int .i64 0, .slice none 0 0]) ?_ 0 _ rfl; (with_reducible repeat (first | refine blk_drewN ?_ _ | refine blk_drew ?_ | refine blk_alloc ?_ _)); exact BK153.out) hb); have n3_ := Aside0.mk (below_step (by repeat (first | (with_reducible first | exact HB.out | apply below_alloc | apply pw_below_drewN | apply below_drew1 | refine below_set ?_ GE153.out) | exact HB.out)) hb); clear HO_5; clear BK153; clear HB; have HO_5 := n0_; have HO177 := n1_; have BK153 := n2_; have HB := n3_; clear n0_ n1_ n2_ n3_; (try clear hb); (try clear hb2); (try clear hk); (try clear hi); (try clear ho0); obtain ⟨Ao38, co38, eo38⟩ := Kd.R_slice HO177.out; subst eo38) | ((with_reducible refine gate_builtin (b := .append) (xs := #[.tmp 44, .tmp 49]) rfl ?_); at_builtin; refine Kd.R_append_rows (Kd.int .u8) (w0 := w) w.heap.size rfl (.tmp 44) (.tmp 49) 26 5 (.int .u8 0) 1 rfl Tryz.underlying26 info5 rfl (by decide) (by omega) u5 x5_1 t175 _ _ _ (fun k_ => some k_ ≠ (.slice Ao38 t175.length co38 : Value).ownBlock) (fun _ => False) rfl rfl ?aO ?aR (fun _ _ h => h) (fun _ h => h.elim) ?aF ?aB ?aS ?aL ?_; (case aR => repeat (first | exact (Kd.R_reads' HO177.out).2.2 | (with_reducible refine Kd.C_alloc ?_ _) | (with_reducible refine Kd.C_drewN ?_ _) | (with_reducible refine Kd.C_drew ?_))); (case aB => exact (by repeat (first | (with_reducible first | exact HB.out | apply below_alloc | apply pw_below_drewN | apply below_drew1 | refine below_set ?_ GE153.out) | exact HB.out))); (case aF => exact (fun k_ hk => Kd.fresh' (Kd.R_lt (by (with_reducible repeat (first | apply Kd.R_alloc | apply Kd.R_drewN | apply Kd.R_drew)); exact HO177.out)) k_ hk)); (case aO => exact (by (with_reducible repeat (first | apply Kd.R_alloc | apply Kd.R_drewN | apply Kd.R_drew)); exact Kd.R_mono HO_5.out (fun _ hk => hk.2))); (case aS => exact (below_size (by repeat (first | (with_reducible first | exact HB.out | apply below_alloc | apply pw_below_drewN | apply below_drew1 | refine below_set ?_ GE153.out) | exact HB.out)))); (case aL => have := LMc33.out; omega); intro v179 w37 ho hb hg hat; rw [← Ny178.out] at ho; have n0_ := Aside0.mk (blk_grown (g := gb153) (o := .cells #[.bool false, .int .i64 ((rd_T35 l0 x12_1).f1), .slice A152_2 ((rd_T35 l0 x12_1).f2).length c152_2] 35 (0, 0)) (by (with_reducible repeat (first | refine blk_drewN ?_ _ | refine blk_drew ?_ | refine blk_alloc ?_ _)); exact BK153.out) hg (Kd.R_ne HO_5.out BK153.out (by decide))); have n1_ := Aside0.mk (Kd.R_after (ok := (fun _ => True)) (by (with_reducible repeat (first | apply Kd.R_alloc | apply Kd.R_drewN | apply Kd.R_drew)); exact HO177.out) hg hat); have n2_ := Aside0.mk (hb); have n3_ := Aside0.mk (ho); clear BK153; clear HO177; clear HB; clear HO_5; have BK153 := n0_; have HO177 := n1_; have HB := n2_; have HO180 := n3_; clear n0_ n1_ n2_ n3_; clear ho hb hg hat))
                go_loopg [5, 9] k1 (fun kq v5 v9 w' => ∃ (x5_2 : List Int) (x9_2 : Int), v9 = .int .i64 x9_2 ∧ Aside0 (spec_PutRuns.l2 kq a1 x5_2 x9_2 l0 (l0.length : Int) x12_1 false ((rd_T35 l0 x12_1).f1) ((rd_T35 l0 x12_1).f2) = some r) ∧ Aside0 (kq ≤ k1) ∧ Aside0 (Kd.R (Kd.int .u8) 5 w' w.heap.size (fun _ => True) v5 x5_2) ∧ Aside0 (w'.heap[gb153]? = some (.cells #[.bool false, .int .i64 ((rd_T35 l0 x12_1).f1), (.slice A152_2 ((rd_T35 l0 x12_1).f2).length c152_2)] 35 (0, 0))) ∧ Aside0 (Below w.heap.size w w'))
                case atStart => exact ⟨(y178), (0), (by first | rfl | (simp; done) | (simp [*]; done)), H', ⟨Nat.le_refl _⟩, ⟨by (with_reducible repeat (first | apply Kd.R_alloc | apply Kd.R_drewN | apply Kd.R_drew)); exact Kd.R_mono HO180.out (fun _ hk => trivial)⟩, ⟨by (with_reducible repeat (first | refine blk_drewN ?_ _ | refine blk_drew ?_ | refine blk_alloc ?_ _)); exact BK153.out⟩, ⟨by repeat (first | (with_reducible first | exact HB.out | apply below_alloc | apply pw_below_drewN | apply below_drew1 | refine below_set ?_ GE153.out) | exact HB.out)⟩⟩
                case round =>
                  clear H'
                  try clear c1
                  try clear p1
                  try clear q1
                  try clear hx1
                  try clear c2
                  try clear p2
                  try clear c3
                  try clear c3b0
                  try clear c4
                  try clear c4b0
                  try clear c5
                  try clear c5b0
                  try clear p6
                  try clear q6
                  try clear c7
                  try clear c9
                  try clear c10
                  try clear c15
                  try clear p15
                  try clear q15
                  try clear hx15
                  try clear c20
                  try clear c20b0
                  try clear c21
                  try clear c25
                  try clear c26
                  try clear c33
                  try clear hcz12_0
                  try clear hcz12_1
                  try clear hcz12_2
                  try clear hcz18_0
                  try clear hcz18_1
                  try clear hcz18_2
                  try clear hcz23_0
                  try clear hcz23_1
                  try clear hcz23_2
                  try clear hcz28_0
                  try clear hcz28_1
                  try clear hcz28_2
                  try clear hcz35_0
                  try clear hcz35_1
                  try clear hcz35_2
                  try clear hfz12_0
                  try clear hfz12_1
                  try clear hfz12_2
                  try clear hfz18_0
                  try clear hfz18_1
                  try clear hfz18_2
                  try clear hfz23_0
                  try clear hfz23_1
                  try clear hfz23_2
                  try clear hfz28_0
                  try clear hfz28_1
                  try clear hfz28_2
                  try clear hfz35_0
                  try clear hfz35_1
                  try clear hfz35_2
                  try clear hx152_0
                  try clear hx152_1
                  try clear hx152_2
                  try clear p1
                  try clear p15
                  try clear p152
                  try clear p2
                  try clear q1
                  try clear q15
                  try clear q152
                  try clear q6
                  obtain ⟨x5_2, x9_2, rfl, HA, HK2, HO_5, BK153, HB⟩ := hrel
                  cases gk with
                  | zero => exact absurd HA.out (by simp [spec_PutRuns.l2])
                  | succ k2 =>
                    have H := HA.out
                    clear HA
                    simp only [spec_PutRuns.l2] at H
                    by_cases c39 : x9_2 < (wrap64 (Int.tdiv (wrap64 (a1 + 7)) 8))
                    · rw [if_pos c39] at H
                      have c39b0 : decide (x9_2 < (wrap64 (Int.tdiv (wrap64 (a1 + 7)) 8))) = true := decide_eq_true c39
                      clear c39
                      by_cases c40 : 0 < (((rd_T35 l0 x12_1).f2).length : Int)
                      · rw [if_pos c40] at H
                        have c40b0 : decide (0 < (((rd_T35 l0 x12_1).f2).length : Int)) = true := decide_eq_true c40
                        have c40b1 : decide (0 < ((rd_T35 l0 x12_1).f2).length) = true := decide_eq_true (by omega)
                        clear c40
                        obtain ⟨ji41, hji41⟩ : ∃ j_ : Int, (wrap64 (8 * x9_2)) = j_ := ⟨_, rfl⟩
                        replace H : (if 0 ≤ (ji41) then (if x5_2.length < 140737488355328 then (spec_PutRuns.l2 k2 a1 (x5_2 ++ [(shr .u64 (rd ((rd_T35 l0 x12_1).f2) 0) (ji41)) % 256]) (wrap64 (x9_2 + 1)) l0 (l0.length : Int) x12_1 false ((rd_T35 l0 x12_1).f1) ((rd_T35 l0 x12_1).f2)) else (none)) else (none)) = some r := by first | (rw [hji41] at H; exact H) | (simp only [hji41] at H ⊢; exact H)
                        have hji41w : (IntKind.i64.wrap (8 * x9_2)) = ji41 := (i64_w _).trans hji41
                        by_cases c42 : 0 ≤ (ji41)
                        · rw [if_pos c42] at H
                          have c42b0 := eq_true c42
                          have c42b1 : decide (0 ≤ (ji41)) = true := decide_eq_true c42
                          clear c42
                          obtain ⟨ji43, hji43⟩ : ∃ j_ : Int, (shr .u64 (rd ((rd_T35 l0 x12_1).f2) 0) (ji41)) = j_ := ⟨_, rfl⟩
                          replace H : (if x5_2.length < 140737488355328 then (spec_PutRuns.l2 k2 a1 (x5_2 ++ [(ji43) % 256]) (wrap64 (x9_2 + 1)) l0 (l0.length : Int) x12_1 false ((rd_T35 l0 x12_1).f1) ((rd_T35 l0 x12_1).f2)) else (none)) = some r := by first | (rw [hji43] at H; exact H) | (simp only [hji43] at H ⊢; exact H)
                          have hji43_ : ((rd ((rd_T35 l0 x12_1).f2) 0) / 2 ^ min (ji41).toNat 64) = ji43 := hji43
                          have hji43z : (ji41) ≤ 64 → ((rd ((rd_T35 l0 x12_1).f2) 0) / 2 ^ (ji41).toNat) = ji43 := shr_small hji43
                          by_cases c44 : x5_2.length < 140737488355328
                          · rw [if_pos c44] at H
                            have LMc44 := Aside0.mk c44
                            clear c44
                            obtain ⟨y182, hy182⟩ : ∃ y_ : List Int, y_ = (x5_2 ++ [(ji43) % 256]) := ⟨_, rfl⟩
                            replace H : (spec_PutRuns.l2 k2 a1 y182 (wrap64 (x9_2 + 1)) l0 (l0.length : Int) x12_1 false ((rd_T35 l0 x12_1).f1) ((rd_T35 l0 x12_1).f2)) = some r := by first | (rw [hy182]; with_reducible exact H) | (have H2_ := (Option.bind_some _ _).symm.trans H; rw [hy182]; with_reducible exact H2_) | (have H2_ := (Option.bind_some _ _).symm.trans H; with_reducible exact H2_) | with_reducible exact H | (rw [hy182]; exact H) | exact H
                            have Ny182 := Aside0.mk hy182
                            clear hy182
                            have H' := Aside0.mk H
                            clear H
                            have hcz45_0 : wr.cell? ⟨gb153, 0, none⟩ = some (.bool false) := (blk_cell BK153.out 0).trans rfl
                            have hcz45_1 : wr.cell? ⟨gb153, 1, none⟩ = some (.int .i64 ((rd_T35 l0 x12_1).f1)) := (blk_cell BK153.out 1).trans rfl
                            have hcz45_2 : wr.cell? ⟨gb153, 2, none⟩ = some (.slice A152_2 ((rd_T35 l0 x12_1).f2).length c152_2) := (blk_cell BK153.out 2).trans rfl
                            have hfz45_0 := blk_frozen BK153.out 0
                            have hfz45_1 := blk_frozen BK153.out 1
                            have hfz45_2 := blk_frozen BK153.out 2
                            have p181 : 0 ≤ (0 : Int) := (by omega)
                            have q181 : 0 < (((rd_T35 l0 x12_1).f2).length : Int) := of_decide_eq_true (by first | (with_reducible assumption) | assumption)
                            obtain ⟨ad181, e181, hx181_0⟩ := Kd.at_int HR152_2.out 0 p181 q181
                            cases e181
                            have qi181 : (0 < ((rd_T35 l0 x12_1).f2).length) = True := eq_true (by omega)
                            (try rw [show ((0 : Int)).toNat = 0 from rfl] at hx181_0)
                            (try rw [Addr.add_zero'] at hx181_0)
                            replace hx181_0 := (HB.out.cell (World.block_lt_of_cell? w _ hx181_0)).trans hx181_0
                            replace p181 := eq_true p181
                            replace q181 := eq_true q181
                            go_wp2_with (first | ((with_reducible refine gate_builtin (b := .append) (xs := #[.tmp 58, .tmp 67]) rfl ?_); at_builtin; refine Kd.R_append (Kd.int .u8) (w0 := w) w.heap.size rfl (.tmp 58) (.tmp 67) 26 5 (.int .u8 0) 1 rfl Tryz.underlying26 info5 rfl (by decide) (by omega) u5 x5_2 ((ji43) % 256) [.int .u8 ((ji43) % 256)] (fun _ => True) (fun _ => False) rfl rfl ?aP (fun _ hk => hk.elim) ?aF ?aO ?aB ?aS ?aL ?_; (case aP => exact rfl); (case aB => exact (by repeat (first | (with_reducible first | exact HB.out | apply below_alloc | apply pw_below_drewN | apply below_drew1 | refine below_set ?_ GE153.out) | exact HB.out))); (case aF => exact (fun _ _ => trivial)); (case aO => exact (by (with_reducible repeat (first | apply Kd.R_alloc | apply Kd.R_drewN | apply Kd.R_drew)); exact HO_5.out)); (case aS => exact (below_size (by repeat (first | (with_reducible first | exact HB.out | apply below_alloc | apply pw_below_drewN | apply below_drew1 | refine below_set ?_ GE153.out) | exact HB.out)))); (case aL => have := LMc44.out; omega); intro v183 w46 ho hb hg hat; rw [← Ny182.out] at ho; have n0_ := Aside0.mk (blk_grown (g := gb153) (o := .cells #[.bool false, .int .i64 ((rd_T35 l0 x12_1).f1), .slice (some ad181) ((rd_T35 l0 x12_1).f2).length c152_2] 35 (0, 0)) (by (with_reducible repeat (first | refine blk_drewN ?_ _ | refine blk_drew ?_ | refine blk_alloc ?_ _)); exact BK153.out) hg (Kd.R_ne HO_5.out BK153.out (by decide))); have n1_ := Aside0.mk (hb); have n2_ := Aside0.mk (ho); clear BK153; clear HB; clear HO_5; have BK153 := n0_; have HB := n1_; have HO184 := n2_; clear n0_ n1_ n2_; clear ho hb hg hat))
                            go_roundg k2
                            case measure => have := HK1.out; have := HK2.out; omega
                            case rel => exact ⟨(y182), (wrap64 (x9_2 + 1)), (by first | rfl | (simp; done) | (simp [*]; done)), H', ⟨by have := HK1.out; have := HK2.out; omega⟩, ⟨by (with_reducible repeat (first | apply Kd.R_alloc | apply Kd.R_drewN | apply Kd.R_drew)); exact HO184.out⟩, ⟨by (with_reducible repeat (first | refine blk_drewN ?_ _ | refine blk_drew ?_ | refine blk_alloc ?_ _)); exact BK153.out⟩, ⟨by repeat (first | (with_reducible first | exact HB.out | apply below_alloc | apply pw_below_drewN | apply below_drew1 | refine below_set ?_ GE153.out) | exact HB.out)⟩⟩
                          · rw [if_neg c44] at H
                            exact absurd H (by simp)
                        · rw [if_neg c42] at H
                          exact absurd H (by simp)
                      · rw [if_neg c40] at H
                        exact absurd H (by simp)
                    · rw [if_neg c39] at H
                      have c39b0 : decide (x9_2 < (wrap64 (Int.tdiv (wrap64 (a1 + 7)) 8))) = false := decide_eq_false c39
                      clear c39
                      have H' := Aside0.mk H
                      clear H
                      go_wp2
                      go_roundg k2
                      case measure => have := HK1.out; have := HK2.out; omega
                      case rel => exact ⟨(x5_2), (wrap64 (x12_1 + 1)), (by first | rfl | (simp; done) | (simp [*]; done)), H', ⟨by have := HK1.out; have := HK2.out; omega⟩, ⟨by (with_reducible repeat (first | apply Kd.R_alloc | apply Kd.R_drewN | apply Kd.R_drew)); exact HO_5.out⟩, ⟨by repeat (first | (with_reducible first | exact HB.out | apply below_alloc | apply pw_below_drewN | apply below_drew1 | refine below_set ?_ GE153.out) | exact HB.out)⟩⟩
              · rw [if_neg c33] at H
                exact absurd H (by simp)
          · rw [if_neg c5] at H
            exact absurd H (by simp)
        · rw [if_neg c4] at H
          exact absurd H (by simp)
      · rw [if_neg c3] at H
        have c3b0 : decide (x12_1 < (l0.length : Int)) = false := decide_eq_false c3
        clear c3
        obtain rfl := Option.some.inj H
        go_wp2
        go_ret
        exact ⟨_, by first | rfl | (simp [errW_none, errW_some] <;> rfl) | (simp [*, errW_none, errW_some] <;> rfl), by (with_reducible repeat (first | apply Kd.R_alloc | apply Kd.R_drewN | apply Kd.R_drew)); exact HO_5.out, by repeat (first | (with_reducible first | exact HB.out | apply below_alloc | apply pw_below_drewN | apply below_drew1) | exact HB.out)⟩

/-! ### laws_sameWords: function 27 -/
def laws_sameWords.l0 : Nat → List Int → List Int → Int → Int → Option (Bool)
  | 0, _, _, _, _ => none
  | k + 1, x0, x1, x12, x13 => if x13 < x12 then (if 0 ≤ x13 then (if x13 < (x0.length : Int) then (if x13 < (x1.length : Int) then (if (rd x0 x13) = (rd x1 x13) then (laws_sameWords.l0 k x0 x1 x12 (wrap64 (x13 + 1))) else (some false)) else (none)) else (none)) else (none)) else (some true)
def laws_sameWords.f (k : Nat) (l0 : List Int) (l1 : List Int) : Option (Bool) := if (l0.length : Int) = (l1.length : Int) then (laws_sameWords.l0 k l0 l1 (l0.length : Int) 0) else (some false)
theorem laws_sameWords.mono_l : ∀ k, (∀ y0 y1 y2 y3, LeO (laws_sameWords.l0 k y0 y1 y2 y3) (laws_sameWords.l0 (k + 1) y0 y1 y2 y3))
  | 0 => fun _ _ _ _ r h => by simp [laws_sameWords.l0] at h
  | k + 1 => by
    have ih0 := laws_sameWords.mono_l k
    · intro y0 y1 y2 y3
      unfold laws_sameWords.l0
      repeat' first
      | (with_reducible exact ih0 _ _ _ _)
      | (with_reducible exact LeO.refl _)
      | (with_reducible exact LeO.none _)
      | (with_reducible refine LeO.ite ?_ ?_)
      | (with_reducible refine LeO.bind ?_ (fun _ => ?_))
      | exact ih0 _ _ _ _
      | exact LeO.none _
      | refine LeO.ite ?_ ?_
      | refine LeO.bind ?_ (fun _ => ?_)
theorem laws_sameWords.mono : ∀ a0 a1 k, LeO (laws_sameWords.f k a0 a1) (laws_sameWords.f (k + 1) a0 a1) := by
  intro a0 a1 k
  have ih0 := laws_sameWords.mono_l k
  unfold laws_sameWords.f
  repeat' first
      | (with_reducible exact ih0 _ _ _ _)
      | (with_reducible exact LeO.refl _)
      | (with_reducible exact LeO.none _)
      | (with_reducible refine LeO.ite ?_ ?_)
      | (with_reducible refine LeO.bind ?_ (fun _ => ?_))
      | exact ih0 _ _ _ _
      | exact LeO.none _
      | refine LeO.ite ?_ ?_
      | refine LeO.bind ?_ (fun _ => ?_)
set_option maxHeartbeats 8000000 in
set_option maxRecDepth 100000 in
theorem laws_sameWords.calls (k : Nat) (A0 : Option Addr) (c0 : Nat) (l0 : List Int) (A1 : Option Addr) (c1 : Nat) (l1 : List Int) (r : Bool) (w : World) (hr0 : Kd.C (Kd.int .u64) w A0 l0.length l0) (hc0 : l0.length ≤ c0) (hr1 : Kd.C (Kd.int .u64) w A1 l1.length l1) (hc1 : l1.length ≤ c1) (h : laws_sameWords.f k l0 l1 = some r) :
    Calls Tryz.prog 27 #[.slice A0 l0.length c0, .slice A1 l1.length c1] w fun e w' => e = .returned (.bool r) ∧ Drawn0 w w' := by
  have HR0 := Aside0.mk hr0
  have HC0 := Aside0.mk hc0
  clear hr0 hc0
  have HR1 := Aside0.mk hr1
  have HC1 := Aside0.mk hc1
  clear hr1 hc1
  have H : (if (l0.length : Int) = (l1.length : Int) then (laws_sameWords.l0 k l0 l1 (l0.length : Int) 0) else (some false)) = some r := h
  clear h
  by_cases c3 : (l0.length : Int) = (l1.length : Int)
  · rw [if_pos c3] at H
    have c3b0 : ((l0.length : Int) == (l1.length : Int)) = true := beq_iff_eq.mpr c3
    have c3b1 : ((l0.length : Int) != (l1.length : Int)) = false := bne_eq_false_iff_eq.mpr c3
    have c3b2 : (l0.length == l1.length) = true := by first | simpa using c3 | (simp at c3 ⊢; omega)
    clear c3
    have H' := Aside0.mk H
    clear H
    go_enter Tryz.func27, Tryz.ntmps27
    go_wp2
    repeat (go_quiet (fail); try go_wp2)
    go_loopg [13] k (fun kq v13 w' => ∃ (x13_1 : Int), v13 = .int .i64 x13_1 ∧ Aside0 (laws_sameWords.l0 kq l0 l1 (l0.length : Int) x13_1 = some r) ∧ Aside0 (kq ≤ k) ∧ Drawn0 w w')
    case atStart => exact ⟨(0), (by first | rfl | (simp; done) | (simp [*]; done)), H', ⟨Nat.le_refl _⟩, by repeat (first | exact Drawn0.refl _ | apply Drawn0.step)⟩
    case round =>
      clear H'
      try clear c1
      try clear c2
      try clear p2
      try clear c3
      try clear c3b0
      try clear c3b1
      try clear c3b2
      obtain ⟨x13_1, rfl, HA, HK1, ⟨m1, rfl⟩⟩ := hrel
      cases gk with
      | zero => exact absurd HA.out (by simp [laws_sameWords.l0])
      | succ k1 =>
        have H := HA.out
        clear HA
        simp only [laws_sameWords.l0] at H
        by_cases c4 : x13_1 < (l0.length : Int)
        · rw [if_pos c4] at H
          have c4b0 : decide (x13_1 < (l0.length : Int)) = true := decide_eq_true c4
          clear c4
          by_cases c5 : 0 ≤ x13_1
          · rw [if_pos c5] at H
            have c5b0 : decide (0 ≤ x13_1) = true := decide_eq_true c5
            clear c5
            by_cases c6 : x13_1 < (l0.length : Int)
            · rw [if_pos c6] at H
              have c6b0 : decide (x13_1 < (l0.length : Int)) = true := decide_eq_true c6
              clear c6
              by_cases c7 : x13_1 < (l1.length : Int)
              · rw [if_pos c7] at H
                have c7b0 : decide (x13_1 < (l1.length : Int)) = true := decide_eq_true c7
                clear c7
                by_cases c8 : (rd l0 x13_1) = (rd l1 x13_1)
                · rw [if_pos c8] at H
                  have c8b0 : ((rd l0 x13_1) == (rd l1 x13_1)) = true := beq_iff_eq.mpr c8
                  have c8b1 : ((rd l0 x13_1) != (rd l1 x13_1)) = false := bne_eq_false_iff_eq.mpr c8
                  clear c8
                  have H' := Aside0.mk H
                  clear H
                  have p185 : 0 ≤ (x13_1 : Int) := of_decide_eq_true (by first | (with_reducible assumption) | assumption)
                  have q185 : x13_1 < (l0.length : Int) := of_decide_eq_true (by first | (with_reducible assumption) | assumption)
                  obtain ⟨ad185, e185, hx185_0⟩ := Kd.at_int HR0.out x13_1 p185 q185
                  cases e185
                  replace p185 := eq_true p185
                  replace q185 := eq_true q185
                  have p186 : 0 ≤ (x13_1 : Int) := of_decide_eq_true (by first | (with_reducible assumption) | assumption)
                  have q186 : x13_1 < (l1.length : Int) := of_decide_eq_true (by first | (with_reducible assumption) | assumption)
                  obtain ⟨ad186, e186, hx186_0⟩ := Kd.at_int HR1.out x13_1 p186 q186
                  cases e186
                  replace p186 := eq_true p186
                  replace q186 := eq_true q186
                  go_wp2
                  repeat (go_quiet (fail); try go_wp2)
                  go_roundg k1
                  case measure => have := HK1.out; omega
                  case rel => exact ⟨(wrap64 (x13_1 + 1)), (by first | rfl | (simp; done) | (simp [*]; done)), H', ⟨by have := HK1.out; omega⟩, by repeat (first | exact Drawn0.refl _ | apply Drawn0.step)⟩
                · rw [if_neg c8] at H
                  have c8b0 : ((rd l0 x13_1) == (rd l1 x13_1)) = false := beq_eq_false_iff_ne.mpr c8
                  have c8b1 : ((rd l0 x13_1) != (rd l1 x13_1)) = true := bne_iff_ne.mpr c8
                  obtain rfl := Option.some.inj H
                  have p185 : 0 ≤ (x13_1 : Int) := of_decide_eq_true (by first | (with_reducible assumption) | assumption)
                  have q185 : x13_1 < (l0.length : Int) := of_decide_eq_true (by first | (with_reducible assumption) | assumption)
                  obtain ⟨ad185, e185, hx185_0⟩ := Kd.at_int HR0.out x13_1 p185 q185
                  cases e185
                  replace p185 := eq_true p185
                  replace q185 := eq_true q185
                  have p186 : 0 ≤ (x13_1 : Int) := of_decide_eq_true (by first | (with_reducible assumption) | assumption)
                  have q186 : x13_1 < (l1.length : Int) := of_decide_eq_true (by first | (with_reducible assumption) | assumption)
                  obtain ⟨ad186, e186, hx186_0⟩ := Kd.at_int HR1.out x13_1 p186 q186
                  cases e186
                  replace p186 := eq_true p186
                  replace q186 := eq_true q186
                  go_wp2
                  repeat (go_quiet (fail); try go_wp2)
                  go_ret
                  exact ⟨by first | rfl | (simp; done) | (simp [*]; done), by repeat (first | exact Drawn0.refl _ | apply Drawn0.step)⟩
              · rw [if_neg c7] at H
                exact absurd H (by simp)
            · rw [if_neg c6] at H
              exact absurd H (by simp)
          · rw [if_neg c5] at H
            exact absurd H (by simp)
        · rw [if_neg c4] at H
          have c4b0 : decide (x13_1 < (l0.length : Int)) = false := decide_eq_false c4
          clear c4
          obtain rfl := Option.some.inj H
          go_wp2
          repeat (go_quiet (fail); try go_wp2)
          go_ret
          exact ⟨by first | rfl | (simp; done) | (simp [*]; done), by repeat (first | exact Drawn0.refl _ | apply Drawn0.step)⟩
  · rw [if_neg c3] at H
    have c3b0 : ((l0.length : Int) == (l1.length : Int)) = false := beq_eq_false_iff_ne.mpr c3
    have c3b1 : ((l0.length : Int) != (l1.length : Int)) = true := bne_iff_ne.mpr c3
    have c3b2 : (l0.length == l1.length) = false := by first | simpa using c3 | (simp at c3 ⊢; omega)
    obtain rfl := Option.some.inj H
    go_enter Tryz.func27, Tryz.ntmps27
    go_wp2
    repeat (go_quiet (fail); try go_wp2)
    go_ret
    exact ⟨by first | rfl | (simp; done) | (simp [*]; done), by repeat (first | exact Drawn0.refl _ | apply Drawn0.step)⟩

/-! ### laws_sameNumbers: function 10 -/
def laws_sameNumbers.f (k : Nat) (l0 : List Int) (l1 : List Int) : Option (Bool) := (laws_sameWords.f k l0 l1).bind fun t187 => (some t187)
theorem laws_sameNumbers.mono : ∀ a0 a1 k, LeO (laws_sameNumbers.f k a0 a1) (laws_sameNumbers.f (k + 1) a0 a1) := by
  intro a0 a1 k
  unfold laws_sameNumbers.f
  repeat' first
      | (with_reducible exact laws_sameWords.mono _ _ _)
      | (with_reducible exact LeO.refl _)
      | (with_reducible exact LeO.none _)
      | (with_reducible refine LeO.ite ?_ ?_)
      | (with_reducible refine LeO.bind ?_ (fun _ => ?_))
      | exact laws_sameWords.mono _ _ _
      | exact LeO.none _
      | refine LeO.ite ?_ ?_
      | refine LeO.bind ?_ (fun _ => ?_)
set_option maxHeartbeats 8000000 in
set_option maxRecDepth 100000 in
theorem laws_sameNumbers.calls (k : Nat) (A0 : Option Addr) (c0 : Nat) (l0 : List Int) (A1 : Option Addr) (c1 : Nat) (l1 : List Int) (r : Bool) (w : World) (hr0 : Kd.C (Kd.int .u64) w A0 l0.length l0) (hc0 : l0.length ≤ c0) (hr1 : Kd.C (Kd.int .u64) w A1 l1.length l1) (hc1 : l1.length ≤ c1) (h : laws_sameNumbers.f k l0 l1 = some r) :
    Calls Tryz.prog 10 #[.slice A0 l0.length c0, .slice A1 l1.length c1] w fun e w' => e = .returned (.bool r) ∧ Drawn0 w w' := by
  have HR0 := Aside0.mk hr0
  have HC0 := Aside0.mk hc0
  clear hr0 hc0
  have HR1 := Aside0.mk hr1
  have HC1 := Aside0.mk hc1
  clear hr1 hc1
  have H : ((laws_sameWords.f k l0 l1).bind fun t187 => (some t187)) = some r := h
  clear h
  replace H := Option.bind_eq_some_iff.mp H
  obtain ⟨t187, A30, H⟩ := H
  replace H : (some t187) = some r := H
  have A3 := Aside0.mk A30
  clear A30
  obtain rfl := Option.some.inj H
  go_enter Tryz.func10, Tryz.ntmps10
  go_wp2_with (first | ((with_reducible refine gate_callee (f := 27) rfl ?_); refine goesL_ (some 7) rfl rfl Tryz.func27 (by kernel_rfl) rfl #[.slice A0 l0.length c0, .slice A1 l1.length c1] rfl (by (try simp only [List.map_toArray, List.map_cons, List.map_nil]); first | done | rfl | (simp only [List.length_drop, List.length_take]; rfl)) ?_; (with_reducible refine (laws_sameWords.calls k _ _ l0 _ _ l1 t187 _ ?side1 ?side2 ?side3 ?side4 A3.out).mono ?_); (case side1 => repeat (first | exact HR0.out | (with_reducible refine Kd.C_alloc ?_ _) | (with_reducible refine Kd.C_drewN ?_ _) | (with_reducible refine Kd.C_drew ?_))); (case side2 => exact HC0.out); (case side3 => repeat (first | exact HR1.out | (with_reducible refine Kd.C_alloc ?_ _) | (with_reducible refine Kd.C_drewN ?_ _) | (with_reducible refine Kd.C_drew ?_))); (case side4 => exact HC1.out); rintro e w' ⟨rfl, ⟨nd, rfl⟩⟩; refine ⟨_, rfl, ?_⟩))
  go_ret
  exact ⟨by first | rfl | (simp; done) | (simp [*]; done), by repeat (first | exact Drawn0.refl _ | apply Drawn0.step)⟩

-- NOT PRINTED: function 3 (laws_FnBoolsRead)

end Go.Proofs.YtflgbndhahcdnaaGreatDoor.PFnBoolsRead
