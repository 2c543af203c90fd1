/- Printed by program out of the translation, and struck smaller. -/
import Derived.Test.YtameepdbnnaaaaaGreatDoorPFnRleReadx0
import Derived.Test.YtameepdbnnaaaaaGreatDoorPFnRleReadx4
import Derived.Test.YtameepdbnnaaaaaGreatDoorPFnRleReadx5
namespace Go.Proofs.YtameepdbnnaaaaaGreatDoor.PFnRleRead
open Go.RowKit Go.Proofs.YtameepdbnnaaaaaGreatDoorW.PrintWords Go.Proofs.YtameepdbnnaaaaaGreatDoorW.PrintLast Go.Proofs.YtameepdbnnaaaaaGreatDoorW.PrintMore
attribute [local go_sem] max2_int min2_int max_two min_two max_three min_three max_four min_four
set_option linter.unusedVariables false
set_option linter.unusedSimpArgs false
mutual
def spec_PutRuns.l0 : Nat → Int → List Int → List (S36) → Int → Int → Option (List Int)
  | 0, _, _, _, _, _ => none
  | k + 1, x1, x5, x10, x11, x12 => if x12 < x11 then (if 0 ≤ x12 then (if x12 < (x10.length : Int) then (if (rd_T36 x10 x12).f0 = true then ((spec_PutVLQ.f k (Go.bits .or .u64 (IntKind.u64.wrap ((IntKind.u64.wrap ((rd_T36 x10 x12).f1)) * 2)) 1)).bind fun t156 => (if x5.length + t156.length < 140737488355328 then ((some (([] : List Int) : List Int)).bind fun y162 => (if y162.length + ((rd_T36 x10 x12).f2).length < 17592186044416 then (spec_PutRuns.l1 k x1 (x5 ++ t156) (y162 ++ ((rd_T36 x10 x12).f2)) x10 x11 x12 ((rd_T36 x10 x12).f0) ((rd_T36 x10 x12).f1) ((rd_T36 x10 x12).f2)) else (none))) else (none))) else ((spec_PutVLQ.f k (IntKind.u64.wrap ((IntKind.u64.wrap ((rd_T36 x10 x12).f1)) * 2))).bind fun t177 => (if x5.length + t177.length < 140737488355328 then (spec_PutRuns.l2 k x1 (x5 ++ t177) 0 x10 x11 x12 ((rd_T36 x10 x12).f0) ((rd_T36 x10 x12).f1) ((rd_T36 x10 x12).f2)) else (none)))) else (none)) else (none)) else (some x5)
def spec_PutRuns.l1 : Nat → Int → List Int → List Int → List (S36) → Int → Int → Bool → Int → List Int → Option (List Int)
  | 0, _, _, _, _, _, _, _, _, _ => none
  | k + 1, x1, x5, x8, x10, x11, x12, x156000, x156001, x156002 => if (x8.length : Int) < (wrap64 (8 * x156001)) then (if x8.length < 17592186044416 then (spec_PutRuns.l1 k x1 x5 (x8 ++ [0]) x10 x11 x12 x156000 x156001 x156002) else (none)) else ((spec_PackBits.f k x8 x1).bind fun t171 => (if x5.length + t171.length < 140737488355328 then (spec_PutRuns.l0 k x1 (x5 ++ t171) x10 x11 (wrap64 (x12 + 1))) else (none)))
def spec_PutRuns.l2 : Nat → Int → List Int → Int → List (S36) → Int → Int → Bool → Int → List Int → Option (List Int)
  | 0, _, _, _, _, _, _, _, _, _ => none
  | k + 1, x1, x5, x9, x10, x11, x12, x156000, x156001, x156002 => if x9 < (wrap64 (Int.tdiv (wrap64 (x1 + 7)) 8)) then (if 0 < (x156002.length : Int) then (if 0 ≤ (wrap64 (8 * x9)) then (if x5.length < 140737488355328 then (spec_PutRuns.l2 k x1 (x5 ++ [(shr .u64 (rd x156002 0) (wrap64 (8 * x9))) % 256]) (wrap64 (x9 + 1)) x10 x11 x12 x156000 x156001 x156002) else (none)) else (none)) else (none)) else (spec_PutRuns.l0 k x1 x5 x10 x11 (wrap64 (x12 + 1)))
end
def spec_PutRuns.f (k : Nat) (l0 : List (S36)) (a1 : Int) : Option (List Int) := spec_PutRuns.l0 k a1 ([] : List Int) l0 (l0.length : Int) 0
theorem spec_PutRuns.mono_l : ∀ k, (∀ y0 y1 y2 y3 y4, LeO (spec_PutRuns.l0 k y0 y1 y2 y3 y4) (spec_PutRuns.l0 (k + 1) y0 y1 y2 y3 y4)) ∧ (∀ y0 y1 y2 y3 y4 y5 y6 y7 y8, LeO (spec_PutRuns.l1 k y0 y1 y2 y3 y4 y5 y6 y7 y8) (spec_PutRuns.l1 (k + 1) y0 y1 y2 y3 y4 y5 y6 y7 y8)) ∧ (∀ y0 y1 y2 y3 y4 y5 y6 y7 y8, LeO (spec_PutRuns.l2 k y0 y1 y2 y3 y4 y5 y6 y7 y8) (spec_PutRuns.l2 (k + 1) y0 y1 y2 y3 y4 y5 y6 y7 y8))
  | 0 => ⟨fun _ _ _ _ _ r h => by simp [spec_PutRuns.l0] at h, fun _ _ _ _ _ _ _ _ _ r h => by simp [spec_PutRuns.l1] at h, fun _ _ _ _ _ _ _ _ _ r h => by simp [spec_PutRuns.l2] at h⟩
  | k + 1 => by
    obtain ⟨ih0, ih1, ih2⟩ := spec_PutRuns.mono_l k
    refine ⟨?_, ?_, ?_⟩
    · intro y0 y1 y2 y3 y4
      unfold spec_PutRuns.l0
      repeat' first
      | (with_reducible exact ih0 _ _ _ _ _)
      | (with_reducible exact ih1 _ _ _ _ _ _ _ _ _)
      | (with_reducible exact ih2 _ _ _ _ _ _ _ _ _)
      | (with_reducible exact spec_PackBits.mono _ _ _)
      | (with_reducible exact spec_PutVLQ.mono _ _)
      | (with_reducible exact LeO.refl _)
      | (with_reducible exact LeO.none _)
      | (with_reducible refine LeO.ite ?_ ?_)
      | (with_reducible refine LeO.bind ?_ (fun _ => ?_))
      | exact ih0 _ _ _ _ _
      | exact ih1 _ _ _ _ _ _ _ _ _
      | exact ih2 _ _ _ _ _ _ _ _ _
      | exact spec_PackBits.mono _ _ _
      | exact spec_PutVLQ.mono _ _
      | exact LeO.none _
      | refine LeO.ite ?_ ?_
      | refine LeO.bind ?_ (fun _ => ?_)
    · intro y0 y1 y2 y3 y4 y5 y6 y7 y8
      unfold spec_PutRuns.l1
      repeat' first
      | (with_reducible exact ih0 _ _ _ _ _)
      | (with_reducible exact ih1 _ _ _ _ _ _ _ _ _)
      | (with_reducible exact ih2 _ _ _ _ _ _ _ _ _)
      | (with_reducible exact spec_PackBits.mono _ _ _)
      | (with_reducible exact spec_PutVLQ.mono _ _)
      | (with_reducible exact LeO.refl _)
      | (with_reducible exact LeO.none _)
      | (with_reducible refine LeO.ite ?_ ?_)
      | (with_reducible refine LeO.bind ?_ (fun _ => ?_))
      | exact ih0 _ _ _ _ _
      | exact ih1 _ _ _ _ _ _ _ _ _
      | exact ih2 _ _ _ _ _ _ _ _ _
      | exact spec_PackBits.mono _ _ _
      | exact spec_PutVLQ.mono _ _
      | exact LeO.none _
      | refine LeO.ite ?_ ?_
      | refine LeO.bind ?_ (fun _ => ?_)
    · intro y0 y1 y2 y3 y4 y5 y6 y7 y8
      unfold spec_PutRuns.l2
      repeat' first
      | (with_reducible exact ih0 _ _ _ _ _)
      | (with_reducible exact ih1 _ _ _ _ _ _ _ _ _)
      | (with_reducible exact ih2 _ _ _ _ _ _ _ _ _)
      | (with_reducible exact spec_PackBits.mono _ _ _)
      | (with_reducible exact spec_PutVLQ.mono _ _)
      | (with_reducible exact LeO.refl _)
      | (with_reducible exact LeO.none _)
      | (with_reducible refine LeO.ite ?_ ?_)
      | (with_reducible refine LeO.bind ?_ (fun _ => ?_))
      | exact ih0 _ _ _ _ _
      | exact ih1 _ _ _ _ _ _ _ _ _
      | exact ih2 _ _ _ _ _ _ _ _ _
      | exact spec_PackBits.mono _ _ _
      | exact spec_PutVLQ.mono _ _
      | exact LeO.none _
      | refine LeO.ite ?_ ?_
      | refine LeO.bind ?_ (fun _ => ?_)
theorem spec_PutRuns.mono : ∀ a0 a1 k, LeO (spec_PutRuns.f k a0 a1) (spec_PutRuns.f (k + 1) a0 a1) := by
  intro a0 a1 k
  obtain ⟨ih0, ih1, ih2⟩ := spec_PutRuns.mono_l k
  unfold spec_PutRuns.f
  repeat' first
      | (with_reducible exact ih0 _ _ _ _ _)
      | (with_reducible exact ih1 _ _ _ _ _ _ _ _ _)
      | (with_reducible exact ih2 _ _ _ _ _ _ _ _ _)
      | (with_reducible exact spec_PackBits.mono _ _ _)
      | (with_reducible exact spec_PutVLQ.mono _ _)
      | (with_reducible exact LeO.refl _)
      | (with_reducible exact LeO.none _)
      | (with_reducible refine LeO.ite ?_ ?_)
      | (with_reducible refine LeO.bind ?_ (fun _ => ?_))
      | exact ih0 _ _ _ _ _
      | exact ih1 _ _ _ _ _ _ _ _ _
      | exact ih2 _ _ _ _ _ _ _ _ _
      | exact spec_PackBits.mono _ _ _
      | exact spec_PutVLQ.mono _ _
      | exact LeO.none _
      | refine LeO.ite ?_ ?_
      | refine LeO.bind ?_ (fun _ => ?_)
set_option maxHeartbeats 8000000 in
set_option maxRecDepth 100000 in
theorem spec_PutRuns.calls (k : Nat) (A0 : Option Addr) (c0 : Nat) (l0 : List (S36)) (a1 : Int) (r : List Int) (w : World) (hr0 : Kd.C k36 w A0 l0.length l0) (hc0 : l0.length ≤ c0) (h : spec_PutRuns.f k l0 a1 = some r) :
    Calls Tryz.prog 9 #[.slice A0 l0.length c0, .int .i64 a1] w fun e w' => ∃ v0_ : Value, e = .returned (v0_) ∧ Kd.R (Kd.int .u8) 5 w' w.heap.size (fun _ => True) v0_ r ∧ Below w.heap.size w w' := by
  have hu36 := Tryz.underlying36
  have HR0 := Aside0.mk hr0
  have HC0 := Aside0.mk hc0
  clear hr0 hc0
  have HB := Aside0.mk (Below.refl w.heap.size w)
  have H : (spec_PutRuns.l0 k a1 ([] : List Int) l0 (l0.length : Int) 0) = some r := h
  clear h
  have H' := Aside0.mk H
  clear H
  go_enter Tryz.func9, Tryz.ntmps9
  go_wp2
  go_loopg [5, 12] k (fun kq v5 v12 w' => ∃ (x5_1 : List Int) (x12_1 : Int), v12 = .int .i64 x12_1 ∧ Aside0 (spec_PutRuns.l0 kq a1 x5_1 l0 (l0.length : Int) x12_1 = some r) ∧ Aside0 (kq ≤ k) ∧ Aside0 (Kd.R (Kd.int .u8) 5 w' w.heap.size (fun _ => True) v5 x5_1) ∧ Aside0 (Below w.heap.size w w'))
  case atStart => exact ⟨(([] : List Int)), (0), (by first | rfl | (simp; done) | (simp [*]; done)), H', ⟨Nat.le_refl _⟩, ⟨by first | exact Kd.R_nil _ _ _ _ _ | exact Kd.N_nil _ _ _ _ _ | exact Kd.V_nil _ _ _ _ _ | exact Kd.Q_nil _ _ _ _ _ | exact Kd.S_nil _ _ _ _ _⟩, ⟨by repeat (first | (with_reducible first | exact HB.out | apply below_alloc | apply pw_below_drewN | apply below_drew1) | exact HB.out)⟩⟩
  case round =>
    clear H'
    try clear p2
    obtain ⟨x5_1, x12_1, rfl, HA, HK1, HO_5, HB⟩ := hrel
    cases gk with
    | zero => exact absurd HA.out (by simp [spec_PutRuns.l0])
    | succ k1 =>
      have H := HA.out
      clear HA
      simp only [spec_PutRuns.l0] at H
      by_cases c3 : x12_1 < (l0.length : Int)
      · rw [if_pos c3] at H
        have c3b0 : decide (x12_1 < (l0.length : Int)) = true := decide_eq_true c3
        clear c3
        by_cases c4 : 0 ≤ x12_1
        · rw [if_pos c4] at H
          have c4b0 : decide (0 ≤ x12_1) = true := decide_eq_true c4
          clear c4
          by_cases c5 : x12_1 < (l0.length : Int)
          · rw [if_pos c5] at H
            have c5b0 : decide (x12_1 < (l0.length : Int)) = true := decide_eq_true c5
            clear c5
            obtain ⟨bq6, hbq6⟩ : ∃ b_ : Bool, b_ = ((rd_T36 l0 x12_1).f0) := ⟨_, rfl⟩
            replace H : (if bq6 = true then ((spec_PutVLQ.f k1 (Go.bits .or .u64 (IntKind.u64.wrap ((IntKind.u64.wrap ((rd_T36 l0 x12_1).f1)) * 2)) 1)).bind fun t156 => (if x5_1.length + t156.length < 140737488355328 then ((some (([] : List Int) : List Int)).bind fun y162 => (if y162.length + ((rd_T36 l0 x12_1).f2).length < 17592186044416 then (spec_PutRuns.l1 k1 a1 (x5_1 ++ t156) (y162 ++ ((rd_T36 l0 x12_1).f2)) l0 (l0.length : Int) x12_1 bq6 ((rd_T36 l0 x12_1).f1) ((rd_T36 l0 x12_1).f2)) else (none))) else (none))) else ((spec_PutVLQ.f k1 (IntKind.u64.wrap ((IntKind.u64.wrap ((rd_T36 l0 x12_1).f1)) * 2))).bind fun t177 => (if x5_1.length + t177.length < 140737488355328 then (spec_PutRuns.l2 k1 a1 (x5_1 ++ t177) 0 l0 (l0.length : Int) x12_1 bq6 ((rd_T36 l0 x12_1).f1) ((rd_T36 l0 x12_1).f2)) else (none)))) = some r := by rw [← hbq6] at H; exact H
            have Nbq6 := Aside0.mk hbq6
            clear hbq6
            by_cases c7 : bq6 = true
            · subst c7
              have H1 : ((spec_PutVLQ.f k1 (Go.bits .or .u64 (IntKind.u64.wrap ((IntKind.u64.wrap ((rd_T36 l0 x12_1).f1)) * 2)) 1)).bind fun t156 => (if x5_1.length + t156.length < 140737488355328 then ((some (([] : List Int) : List Int)).bind fun y162 => (if y162.length + ((rd_T36 l0 x12_1).f2).length < 17592186044416 then (spec_PutRuns.l1 k1 a1 (x5_1 ++ t156) (y162 ++ ((rd_T36 l0 x12_1).f2)) l0 (l0.length : Int) x12_1 true ((rd_T36 l0 x12_1).f1) ((rd_T36 l0 x12_1).f2)) else (none))) else (none))) = some r := by rw [if_pos rfl] at H; exact H
              clear H
              have H := H1
              clear H1
              replace H := Option.bind_eq_some_iff.mp H
              obtain ⟨t156, A80, H⟩ := H
              replace H : (if x5_1.length + t156.length < 140737488355328 then ((some (([] : List Int) : List Int)).bind fun y162 => (if y162.length + ((rd_T36 l0 x12_1).f2).length < 17592186044416 then (spec_PutRuns.l1 k1 a1 (x5_1 ++ t156) (y162 ++ ((rd_T36 l0 x12_1).f2)) l0 (l0.length : Int) x12_1 true ((rd_T36 l0 x12_1).f1) ((rd_T36 l0 x12_1).f2)) else (none))) else (none)) = some r := H
              have A8 := Aside0.mk A80
              clear A80
              by_cases c9 : x5_1.length + t156.length < 140737488355328
              · rw [if_pos c9] at H
                have LMc9 := Aside0.mk c9
                clear c9
                obtain ⟨y159, hy159⟩ : ∃ y_ : List Int, y_ = (x5_1 ++ t156) := ⟨_, rfl⟩
                replace H : ((some (([] : List Int) : List Int)).bind fun y162 => (if y162.length + ((rd_T36 l0 x12_1).f2).length < 17592186044416 then (spec_PutRuns.l1 k1 a1 y159 (y162 ++ ((rd_T36 l0 x12_1).f2)) l0 (l0.length : Int) x12_1 true ((rd_T36 l0 x12_1).f1) ((rd_T36 l0 x12_1).f2)) else (none))) = some r := by first | (rw [hy159]; with_reducible exact H) | (have H2_ := (Option.bind_some _ _).symm.trans H; rw [hy159]; with_reducible exact H2_) | (have H2_ := (Option.bind_some _ _).symm.trans H; with_reducible exact H2_) | with_reducible exact H | (rw [hy159]; exact H) | exact H
                have Ny159 := Aside0.mk hy159
                clear hy159
                obtain ⟨y162, hy162⟩ : ∃ y_ : List Int, y_ = (([] : List Int)) := ⟨_, rfl⟩
                replace H : (if y162.length + ((rd_T36 l0 x12_1).f2).length < 17592186044416 then (spec_PutRuns.l1 k1 a1 y159 (y162 ++ ((rd_T36 l0 x12_1).f2)) l0 (l0.length : Int) x12_1 true ((rd_T36 l0 x12_1).f1) ((rd_T36 l0 x12_1).f2)) else (none)) = some r := by first | (rw [hy162]; with_reducible exact H) | (have H2_ := (Option.bind_some _ _).symm.trans H; rw [hy162]; with_reducible exact H2_) | (have H2_ := (Option.bind_some _ _).symm.trans H; with_reducible exact H2_) | with_reducible exact H | (rw [hy162]; exact H) | exact H
                have Ny162 := Aside0.mk hy162
                clear hy162
                by_cases c10 : y162.length + ((rd_T36 l0 x12_1).f2).length < 17592186044416
                · rw [if_pos c10] at H
                  have LMc10 := Aside0.mk c10
                  clear c10
                  obtain ⟨y165, hy165⟩ : ∃ y_ : List Int, y_ = (y162 ++ ((rd_T36 l0 x12_1).f2)) := ⟨_, rfl⟩
                  replace H : (spec_PutRuns.l1 k1 a1 y159 y165 l0 (l0.length : Int) x12_1 true ((rd_T36 l0 x12_1).f1) ((rd_T36 l0 x12_1).f2)) = some r := by first | (rw [hy165]; with_reducible exact H) | (have H2_ := (Option.bind_some _ _).symm.trans H; rw [hy165]; with_reducible exact H2_) | (have H2_ := (Option.bind_some _ _).symm.trans H; with_reducible exact H2_) | with_reducible exact H | (rw [hy165]; exact H) | exact H
                  have Ny165 := Aside0.mk hy165
                  clear hy165
                  have H' := Aside0.mk H
                  clear H
                  have p154 : 0 ≤ (x12_1 : Int) := of_decide_eq_true (by first | (with_reducible assumption) | assumption)
                  have q154 : x12_1 < (l0.length : Int) := of_decide_eq_true (by first | (with_reducible assumption) | assumption)
                  obtain ⟨ad154, A154_2, c154_2, e154, hx154_0, hx154_1, hx154_2, hl154_2, hi154_2⟩ := at_T36 HR0.out x12_1 p154 q154
                  (try rw [← Nbq6.out] at hx154_0)
                  cases e154
                  replace hx154_0 := (HB.out.cell (World.block_lt_of_cell? w _ hx154_0)).trans hx154_0
                  replace hx154_1 := (HB.out.cell (World.block_lt_of_cell? w _ hx154_1)).trans hx154_1
                  replace hx154_2 := (HB.out.cell (World.block_lt_of_cell? w _ hx154_2)).trans hx154_2
                  have HR154_2 := Aside0.mk hi154_2
                  have HC154_2 := Aside0.mk hl154_2
                  clear hi154_2 hl154_2
                  replace p154 := eq_true p154
                  replace q154 := eq_true q154
                  go_wp2_with (first | ((with_reducible refine gate_dst (N := 7) rfl ?_); refine box_event ?hg (N := 7) ?hd (cs := #[.bool false, .int .i64 0, .slice none 0 0]) (t := 36) ?hr ?_; (case hd => rfl); (case hg => rfl); (case hr => first | (go_simp; done) | (go_simp; rfl)); intro gb155 hg w11 hbox hb; have n0_ := Aside0.mk (Kd.R_below (by (with_reducible repeat (first | apply Kd.R_alloc | apply Kd.R_drewN | apply Kd.R_drew)); exact HO_5.out) hb); have n1_ := Aside0.mk (below_step (by repeat (first | (with_reducible first | exact HB.out | apply below_alloc | apply pw_below_drewN | apply below_drew1) | exact HB.out)) hb); have n2_ := Aside0.mk (hbox); have n3_ := Aside0.mk ((by rw [hg]; exact (below_size (by repeat (first | (with_reducible first | exact HB.out | apply below_alloc | apply pw_below_drewN | apply below_drew1) | exact HB.out))) : w.heap.size ≤ gb155)); have n4_ := Aside0.mk ((by rw [hg]; exact (below_size (by repeat (first | (with_reducible first | exact HB.out | apply below_alloc | apply pw_below_drewN | apply below_drew1) | exact HB.out))) : w.heap.size ≤ gb155)); clear HO_5; clear HB; have HO_5 := n0_; have HB := n1_; have BK155 := n2_; have GW155 := n3_; have GE155 := n4_; clear n0_ n1_ n2_ n3_ n4_; clear hb hbox hg; have hcz12_0 : w11.cell? ⟨gb155, 0, none⟩ = some (.bool false) := (blk_cell BK155.out 0).trans rfl; have hcz12_1 : w11.cell? ⟨gb155, 1, none⟩ = some (.int .i64 0) := (blk_cell BK155.out 1).trans rfl; have hcz12_2 : w11.cell? ⟨gb155, 2, none⟩ = some (.slice none 0 0) := (blk_cell BK155.out 2).trans rfl; have hfz12_0 := blk_frozen BK155.out 0; have hfz12_1 := blk_frozen BK155.out 1; have hfz12_2 := blk_frozen BK155.out 2) | ((with_reducible refine gate_callee (f := 17) rfl ?_); refine goesL_ (some 24) rfl rfl Tryz.func17 (by kernel_rfl) rfl #[.int .u64 (Go.bits .or .u64 (IntKind.u64.wrap ((IntKind.u64.wrap ((rd_T36 l0 x12_1).f1)) * 2)) 1)] rfl (by (try simp only [List.map_toArray, List.map_cons, List.map_nil]); first | done | rfl | (simp only [List.length_drop, List.length_take]; rfl)) ?_; (with_reducible refine (spec_PutVLQ.calls k1 (Go.bits .or .u64 (IntKind.u64.wrap ((IntKind.u64.wrap ((rd_T36 l0 x12_1).f1)) * 2)) 1) t156 _ A8.out).mono ?_); rintro e w13 ⟨v157, rfl, ho0, hb⟩; refine ⟨_, rfl, ?_⟩; have n0_ := Aside0.mk (Kd.R_elder' (by (with_reducible repeat (first | apply Kd.R_alloc | apply Kd.R_drewN | apply Kd.R_drew)); exact (Kd.R_mono (Kd.R_far (p := ⟨gb155, 2, none⟩) (Kd.R_far (p := ⟨gb155, 1, none⟩) (Kd.R_far (p := ⟨gb155, 0, none⟩) (Kd.R_types HO_5.out BK155.out (by decide)) (fun _ hk => hk.2) (.bool true)) (fun _ hk => hk.2) (.int .i64 ((rd_T36 l0 x12_1).f1))) (fun _ hk => hk.2) (.slice A154_2 ((rd_T36 l0 x12_1).f2).length c154_2)) (fun _ h_ => h_.1))) (Kd.R_base ho0) hb); have n1_ := Aside0.mk (Kd.R_lower (Kd.R_new' ho0 (Kd.R_lt (by (with_reducible repeat (first | apply Kd.R_alloc | apply Kd.R_drewN | apply Kd.R_drew)); exact (Kd.R_mono (Kd.R_far (p := ⟨gb155, 2, none⟩) (Kd.R_far (p := ⟨gb155, 1, none⟩) (Kd.R_far (p := ⟨gb155, 0, none⟩) (Kd.R_types HO_5.out BK155.out (by decide)) (fun _ hk => hk.2) (.bool true)) (fun _ hk => hk.2) (.int .i64 ((rd_T36 l0 x12_1).f1))) (fun _ hk => hk.2) (.slice A154_2 ((rd_T36 l0 x12_1).f2).length c154_2)) (fun _ h_ => h_.1))))) (below_size (by repeat (first | (with_reducible first | exact HB.out | apply below_alloc | apply pw_below_drewN | apply below_drew1 | refine below_set ?_ GE155.out) | exact HB.out)))); have n2_ := Aside0.mk (blk_below (g := gb155) (o := .cells #[.bool true, .int .i64 ((rd_T36 l0 x12_1).f1), .slice A154_2 ((rd_T36 l0 x12_1).f2).length c154_2] 36 (0, 0)) (by (with_reducible repeat (first | refine blk_drewN ?_ _ | refine blk_drew ?_ | refine blk_alloc ?_ _)); refine blk_put (cs := #[.bool true, .int .i64 ((rd_T36 l0 x12_1).f1), .slice none 0 0]) ?_ 2 _ rfl; (with_reducible repeat (first | refine blk_drewN ?_ _ | refine blk_drew ?_ | refine blk_alloc ?_ _)); refine blk_put (cs := #[.bool true, .int .i64 0, .slice none 0 0]) ?_ 1 _ rfl; (with_reducible repeat (first | refine blk_drewN ?_ _ | refine blk_drew ?_ | refine blk_alloc ?_ _)); refine blk_put (cs := #[.bool false, .int .i64 0, .slice none 0 0]) ?_ 0 _ rfl; (with_reducible repeat (first | refine blk_drewN ?_ _ | refine blk_drew ?_ | refine blk_alloc ?_ _)); exact BK155.out) hb); have n3_ := Aside0.mk (below_step (by repeat (first | (with_reducible first | exact HB.out | apply below_alloc | apply pw_below_drewN | apply below_drew1 | refine below_set ?_ GE155.out) | exact HB.out)) hb); clear HO_5; clear BK155; clear HB; have HO_5 := n0_; have HO158 := n1_; have BK155 := n2_; have HB := n3_; clear n0_ n1_ n2_ n3_; (try clear hb); (try clear hb2); (try clear hk); (try clear hi); (try clear ho0); obtain ⟨Ao15, co15, eo15⟩ := Kd.R_slice HO158.out; subst eo15) | ((with_reducible refine gate_builtin (b := .append) (xs := #[.tmp 18, .tmp 24]) rfl ?_); at_builtin; refine Kd.R_append_rows (Kd.int .u8) (w0 := w) w.heap.size rfl (.tmp 18) (.tmp 24) 28 5 (.int .u8 0) 1 rfl Tryz.underlying28 info5 rfl (by decide) (by omega) u5 x5_1 t156 _ _ _ (fun k_ => some k_ ≠ (.slice Ao15 t156.length co15 : Value).ownBlock) (fun _ => False) rfl rfl ?aO ?aR (fun _ _ h => h) (fun _ h => h.elim) ?aF ?aB ?aS ?aL ?_; (case aR => repeat (first | exact (Kd.R_reads' HO158.out).2.2 | (with_reducible refine Kd.C_alloc ?_ _) | (with_reducible refine Kd.C_drewN ?_ _) | (with_reducible refine Kd.C_drew ?_))); (case aB => exact (by repeat (first | (with_reducible first | exact HB.out | apply below_alloc | apply pw_below_drewN | apply below_drew1 | refine below_set ?_ GE155.out) | exact HB.out))); (case aF => exact (fun k_ hk => Kd.fresh' (Kd.R_lt (by (with_reducible repeat (first | apply Kd.R_alloc | apply Kd.R_drewN | apply Kd.R_drew)); exact HO158.out)) k_ hk)); (case aO => exact (by (with_reducible repeat (first | apply Kd.R_alloc | apply Kd.R_drewN | apply Kd.R_drew)); exact Kd.R_mono HO_5.out (fun _ hk => hk.2))); (case aS => exact (below_size (by repeat (first | (with_reducible first | exact HB.out | apply below_alloc | apply pw_below_drewN | apply below_drew1 | refine below_set ?_ GE155.out) | exact HB.out)))); (case aL => have := LMc9.out; omega); intro v160 w14 ho hb hg hat; rw [← Ny159.out] at ho; have n0_ := Aside0.mk (blk_grown (g := gb155) (o := .cells #[.bool true, .int .i64 ((rd_T36 l0 x12_1).f1), .slice A154_2 ((rd_T36 l0 x12_1).f2).length c154_2] 36 (0, 0)) (by (with_reducible repeat (first | refine blk_drewN ?_ _ | refine blk_drew ?_ | refine blk_alloc ?_ _)); exact BK155.out) hg (Kd.R_ne HO_5.out BK155.out (by decide))); have n1_ := Aside0.mk (Kd.R_after (ok := (fun _ => True)) (by (with_reducible repeat (first | apply Kd.R_alloc | apply Kd.R_drewN | apply Kd.R_drew)); exact HO158.out) hg hat); have n2_ := Aside0.mk (hb); have n3_ := Aside0.mk (ho); clear BK155; clear HO158; clear HB; clear HO_5; have BK155 := n0_; have HO158 := n1_; have HB := n2_; have HO161 := n3_; clear n0_ n1_ n2_ n3_; clear ho hb hg hat) | ((with_reducible refine gate_dst (N := 26) rfl ?_); refine Kd.R_lit (Kd.int .u64) _ 30 ?hg (N := 26) ?hd (xs := ([] : List Int)) (inner := []) (ok := fun _ => True) (okp := fun _ => True) ?hr ?hp (fun _ hk => hk) trivial (Below.refl _ _) (Nat.le_refl _) (by simp) ?_; (case hd => rfl); (case hg => rfl); (case hr => first | (go_simp; done) | (go_simp; rfl)); (case hp => exact (Reps.none _ _)); intro v163 w16 ho17 hb hg_ hnew_; clear hg_ hnew_; (first | rw [← Ny162.out] at ho17 | (simp only [Int.reduceToNat] at ho17; rw [← Ny162.out] at ho17)); have n0_ := Aside0.mk (Kd.R_below (by (with_reducible repeat (first | apply Kd.R_alloc | apply Kd.R_drewN | apply Kd.R_drew)); exact HO158.out) hb); have n1_ := Aside0.mk (Kd.R_below (by (with_reducible repeat (first | apply Kd.R_alloc | apply Kd.R_drewN | apply Kd.R_drew)); exact HO161.out) hb); have n2_ := Aside0.mk (Kd.R_lower ho17 (below_size (by repeat (first | (with_reducible first | exact HB.out | apply below_alloc | apply pw_below_drewN | apply below_drew1 | refine below_set ?_ GE155.out) | exact HB.out)))); have n3_ := Aside0.mk (blk_below (g := gb155) (o := .cells #[.bool true, .int .i64 ((rd_T36 l0 x12_1).f1), .slice A154_2 ((rd_T36 l0 x12_1).f2).length c154_2] 36 (0, 0)) (by (with_reducible repeat (first | refine blk_drewN ?_ _ | refine blk_drew ?_ | refine blk_alloc ?_ _)); exact BK155.out) hb); have n4_ := Aside0.mk (below_step (by repeat (first | (with_reducible first | exact HB.out | apply below_alloc | apply pw_below_drewN | apply below_drew1 | refine below_set ?_ GE155.out) | exact HB.out)) hb); clear HO158; clear HO161; clear BK155; clear HB; have HO158 := n0_; have HO161 := n1_; have HO164 := n2_; have BK155 := n3_; have HB := n4_; clear n0_ n1_ n2_ n3_ n4_; clear hb ho17; have hcz18_0 : w16.cell? ⟨gb155, 0, none⟩ = some (.bool true) := (blk_cell BK155.out 0).trans rfl; have hcz18_1 : w16.cell? ⟨gb155, 1, none⟩ = some (.int .i64 ((rd_T36 l0 x12_1).f1)) := (blk_cell BK155.out 1).trans rfl; have hcz18_2 : w16.cell? ⟨gb155, 2, none⟩ = some (.slice A154_2 ((rd_T36 l0 x12_1).f2).length c154_2) := (blk_cell BK155.out 2).trans rfl; have hfz18_0 := blk_frozen BK155.out 0; have hfz18_1 := blk_frozen BK155.out 1; have hfz18_2 := blk_frozen BK155.out 2) | ((with_reducible refine gate_builtin (b := .append) (xs := #[.tmp 26, .tmp 28]) rfl ?_); at_builtin; refine Kd.R_append_rows (Kd.int .u64) (w0 := w) w.heap.size rfl (.tmp 26) (.tmp 28) 25 30 (.int .u64 0) 8 rfl Tryz.underlying25 info30 rfl (by decide) (by omega) v163 y162 ((rd_T36 l0 x12_1).f2) _ _ _ (fun _ => True) (fun _ => False) rfl rfl ?aO ?aR (fun _ _ h => h) (fun _ h => h.elim) ?aF ?aB ?aS ?aL ?_; (case aR => repeat (first | exact (Kd.C_below HR154_2.out HB.out) | (with_reducible refine Kd.C_alloc ?_ _) | (with_reducible refine Kd.C_drewN ?_ _) | (with_reducible refine Kd.C_drew ?_))); (case aB => exact (by repeat (first | (with_reducible first | exact HB.out | apply below_alloc | apply pw_below_drewN | apply below_drew1 | refine below_set ?_ GE155.out) | exact HB.out))); (case aF => exact (fun _ _ => trivial)); (case aO => exact (by (with_reducible repeat (first | apply Kd.R_alloc | apply Kd.R_drewN | apply Kd.R_drew)); exact HO164.out)); (case aS => exact (below_size (by repeat (first | (with_reducible first | exact HB.out | apply below_alloc | apply pw_below_drewN | apply below_drew1 | refine below_set ?_ GE155.out) | exact HB.out)))); (case aL => have := LMc10.out; omega); intro v166 w19 ho hb hg hat; rw [← Ny165.out] at ho; have n0_ := Aside0.mk (blk_grown (g := gb155) (o := .cells #[.bool true, .int .i64 ((rd_T36 l0 x12_1).f1), .slice A154_2 ((rd_T36 l0 x12_1).f2).length c154_2] 36 (0, 0)) (by (with_reducible repeat (first | refine blk_drewN ?_ _ | refine blk_drew ?_ | refine blk_alloc ?_ _)); exact BK155.out) hg (Kd.R_ne HO164.out BK155.out (by decide))); have n1_ := Aside0.mk (Kd.R_over' (by (with_reducible repeat (first | apply Kd.R_alloc | apply Kd.R_drewN | apply Kd.R_drew)); exact HO158.out) (Kd.R_typed (by (with_reducible repeat (first | apply Kd.R_alloc | apply Kd.R_drewN | apply Kd.R_drew)); exact HO164.out)) (by decide) hg); have n2_ := Aside0.mk (Kd.R_over' (by (with_reducible repeat (first | apply Kd.R_alloc | apply Kd.R_drewN | apply Kd.R_drew)); exact HO161.out) (Kd.R_typed (by (with_reducible repeat (first | apply Kd.R_alloc | apply Kd.R_drewN | apply Kd.R_drew)); exact HO164.out)) (by decide) hg); have n3_ := Aside0.mk (hb); have n4_ := Aside0.mk (ho); clear BK155; clear HO158; clear HO161; clear HB; clear HO164; have BK155 := n0_; have HO158 := n1_; have HO161 := n2_; have HB := n3_; have HO167 := n4_; clear n0_ n1_ n2_ n3_ n4_; clear ho hb hg hat))
                  go_loopg [8] k1 (fun kq v8 w' => ∃ (x8_2 : List Int), Aside0 (spec_PutRuns.l1 kq a1 y159 x8_2 l0 (l0.length : Int) x12_1 true ((rd_T36 l0 x12_1).f1) ((rd_T36 l0 x12_1).f2) = some r) ∧ Aside0 (kq ≤ k1) ∧ Aside0 (Kd.R (Kd.int .u8) 5 w' w.heap.size (fun _ => True) v160 y159) ∧ Aside0 (Kd.R (Kd.int .u64) 30 w' w.heap.size (fun _ => True) v8 x8_2) ∧ Aside0 (w'.heap[gb155]? = some (.cells #[.bool true, .int .i64 ((rd_T36 l0 x12_1).f1), (.slice A154_2 ((rd_T36 l0 x12_1).f2).length c154_2)] 36 (0, 0))) ∧ Aside0 (Below w.heap.size w w'))
                  case atStart => exact ⟨(y165), H', ⟨Nat.le_refl _⟩, ⟨by (with_reducible repeat (first | apply Kd.R_alloc | apply Kd.R_drewN | apply Kd.R_drew)); exact Kd.R_mono HO161.out (fun _ hk => trivial)⟩, ⟨by (with_reducible repeat (first | apply Kd.R_alloc | apply Kd.R_drewN | apply Kd.R_drew)); exact HO167.out⟩, ⟨by (with_reducible repeat (first | refine blk_drewN ?_ _ | refine blk_drew ?_ | refine blk_alloc ?_ _)); exact BK155.out⟩, ⟨by repeat (first | (with_reducible first | exact HB.out | apply below_alloc | apply pw_below_drewN | apply below_drew1 | refine below_set ?_ GE155.out) | exact HB.out)⟩⟩
                  case round =>
                    clear H'
                    try clear c1
                    try clear p1
                    try clear q1
                    try clear hx1
                    try clear p2
                    try clear c3
                    try clear c3b0
                    try clear c4
                    try clear c4b0
                    try clear c5
                    try clear c5b0
                    try clear q6
                    try clear c7
                    try clear c9
                    try clear c10
                    try clear c15
                    try clear p15
                    try clear q15
                    try clear hx15
                    try clear c17
                    try clear hcz12_0
                    try clear hcz12_1
                    try clear hcz12_2
                    try clear hcz18_0
                    try clear hcz18_1
                    try clear hcz18_2
                    try clear hfz12_0
                    try clear hfz12_1
                    try clear hfz12_2
                    try clear hfz18_0
                    try clear hfz18_1
                    try clear hfz18_2
                    try clear hx154_0
                    try clear hx154_1
                    try clear hx154_2
                    try clear p154
                    try clear p2
                    try clear q154
                    obtain ⟨x8_2, HA, HK2, HO_5, HO_8, BK155, HB⟩ := hrel
                    cases gk with
                    | zero => exact absurd HA.out (by simp [spec_PutRuns.l1])
                    | succ k2 =>
                      have H := HA.out
                      clear HA
                      simp only [spec_PutRuns.l1] at H
                      by_cases c20 : (x8_2.length : Int) < (wrap64 (8 * ((rd_T36 l0 x12_1).f1)))
                      · rw [if_pos c20] at H
                        have c20b0 : decide ((x8_2.length : Int) < (wrap64 (8 * ((rd_T36 l0 x12_1).f1)))) = true := decide_eq_true c20
                        clear c20
                        by_cases c21 : x8_2.length < 17592186044416
                        · rw [if_pos c21] at H
                          have LMc21 := Aside0.mk c21
                          clear c21
                          obtain ⟨y168, hy168⟩ : ∃ y_ : List Int, y_ = (x8_2 ++ [0]) := ⟨_, rfl⟩
                          replace H : (spec_PutRuns.l1 k2 a1 y159 y168 l0 (l0.length : Int) x12_1 true ((rd_T36 l0 x12_1).f1) ((rd_T36 l0 x12_1).f2)) = some r := by first | (rw [hy168]; with_reducible exact H) | (have H2_ := (Option.bind_some _ _).symm.trans H; rw [hy168]; with_reducible exact H2_) | (have H2_ := (Option.bind_some _ _).symm.trans H; with_reducible exact H2_) | with_reducible exact H | (rw [hy168]; exact H) | exact H
                          have Ny168 := Aside0.mk hy168
                          clear hy168
                          have H' := Aside0.mk H
                          clear H
                          obtain ⟨Ao22, co22, eo22⟩ := Kd.R_slice HO_8.out
                          subst eo22
                          have hcz23_0 : wr.cell? ⟨gb155, 0, none⟩ = some (.bool true) := (blk_cell BK155.out 0).trans rfl
                          have hcz23_1 : wr.cell? ⟨gb155, 1, none⟩ = some (.int .i64 ((rd_T36 l0 x12_1).f1)) := (blk_cell BK155.out 1).trans rfl
                          have hcz23_2 : wr.cell? ⟨gb155, 2, none⟩ = some (.slice A154_2 ((rd_T36 l0 x12_1).f2).length c154_2) := (blk_cell BK155.out 2).trans rfl
                          have hfz23_0 := blk_frozen BK155.out 0
                          have hfz23_1 := blk_frozen BK155.out 1
                          have hfz23_2 := blk_frozen BK155.out 2
                          go_wp2_with (first | ((with_reducible refine gate_builtin (b := .append) (xs := #[.tmp 36, .tmp 37]) rfl ?_); at_builtin; refine Kd.R_append (Kd.int .u64) (w0 := w) w.heap.size rfl (.tmp 36) (.tmp 37) 25 30 (.int .u64 0) 8 rfl Tryz.underlying25 info30 rfl (by decide) (by omega) (.slice Ao22 x8_2.length co22) x8_2 0 [.int .u64 0] (fun _ => True) (fun _ => False) rfl rfl ?aP (fun _ hk => hk.elim) ?aF ?aO ?aB ?aS ?aL ?_; (case aP => exact rfl); (case aB => exact (by repeat (first | (with_reducible first | exact HB.out | apply below_alloc | apply pw_below_drewN | apply below_drew1 | refine below_set ?_ GE155.out) | exact HB.out))); (case aF => exact (fun _ _ => trivial)); (case aO => exact (by (with_reducible repeat (first | apply Kd.R_alloc | apply Kd.R_drewN | apply Kd.R_drew)); exact HO_8.out)); (case aS => exact (below_size (by repeat (first | (with_reducible first | exact HB.out | apply below_alloc | apply pw_below_drewN | apply below_drew1 | refine below_set ?_ GE155.out) | exact HB.out)))); (case aL => have := LMc21.out; omega); intro v169 w24 ho hb hg hat; rw [← Ny168.out] at ho; have n0_ := Aside0.mk (Kd.R_over' (by (with_reducible repeat (first | apply Kd.R_alloc | apply Kd.R_drewN | apply Kd.R_drew)); exact HO_5.out) (Kd.R_typed (by (with_reducible repeat (first | apply Kd.R_alloc | apply Kd.R_drewN | apply Kd.R_drew)); exact HO_8.out)) (by decide) hg); have n1_ := Aside0.mk (blk_grown (g := gb155) (o := .cells #[.bool true, .int .i64 ((rd_T36 l0 x12_1).f1), .slice A154_2 ((rd_T36 l0 x12_1).f2).length c154_2] 36 (0, 0)) (by (with_reducible repeat (first | refine blk_drewN ?_ _ | refine blk_drew ?_ | refine blk_alloc ?_ _)); exact BK155.out) hg (Kd.R_ne HO_8.out BK155.out (by decide))); have n2_ := Aside0.mk (hb); have n3_ := Aside0.mk (ho); clear HO_5; clear BK155; clear HB; clear HO_8; have HO_5 := n0_; have BK155 := n1_; have HB := n2_; have HO170 := n3_; clear n0_ n1_ n2_ n3_; clear ho hb hg hat))
                          go_roundg k2
                          case measure => have := HK1.out; have := HK2.out; omega
                          case rel => exact ⟨(y168), H', ⟨by have := HK1.out; have := HK2.out; omega⟩, ⟨by (with_reducible repeat (first | apply Kd.R_alloc | apply Kd.R_drewN | apply Kd.R_drew)); exact HO_5.out⟩, ⟨by (with_reducible repeat (first | apply Kd.R_alloc | apply Kd.R_drewN | apply Kd.R_drew)); exact HO170.out⟩, ⟨by (with_reducible repeat (first | refine blk_drewN ?_ _ | refine blk_drew ?_ | refine blk_alloc ?_ _)); exact BK155.out⟩, ⟨by repeat (first | (with_reducible first | exact HB.out | apply below_alloc | apply pw_below_drewN | apply below_drew1 | refine below_set ?_ GE155.out) | exact HB.out)⟩⟩
                        · rw [if_neg c21] at H
                          exact absurd H (by simp)
                      · rw [if_neg c20] at H
                        have c20b0 : decide ((x8_2.length : Int) < (wrap64 (8 * ((rd_T36 l0 x12_1).f1)))) = false := decide_eq_false c20
                        clear c20
                        replace H := Option.bind_eq_some_iff.mp H
                        obtain ⟨t171, A250, H⟩ := H
                        replace H : (if y159.length + t171.length < 140737488355328 then (spec_PutRuns.l0 k2 a1 (y159 ++ t171) l0 (l0.length : Int) (wrap64 (x12_1 + 1))) else (none)) = some r := H
                        have A25 := Aside0.mk A250
                        clear A250
                        by_cases c26 : y159.length + t171.length < 140737488355328
                        · rw [if_pos c26] at H
                          have LMc26 := Aside0.mk c26
                          clear c26
                          obtain ⟨y174, hy174⟩ : ∃ y_ : List Int, y_ = (y159 ++ t171) := ⟨_, rfl⟩
                          replace H : (spec_PutRuns.l0 k2 a1 y174 l0 (l0.length : Int) (wrap64 (x12_1 + 1))) = some r := by first | (rw [hy174]; with_reducible exact H) | (have H2_ := (Option.bind_some _ _).symm.trans H; rw [hy174]; with_reducible exact H2_) | (have H2_ := (Option.bind_some _ _).symm.trans H; with_reducible exact H2_) | with_reducible exact H | (rw [hy174]; exact H) | exact H
                          have Ny174 := Aside0.mk hy174
                          clear hy174
                          have H' := Aside0.mk H
                          clear H
                          obtain ⟨Ao27, co27, eo27⟩ := Kd.R_slice HO_8.out
                          subst eo27
                          have hcz28_0 : wr.cell? ⟨gb155, 0, none⟩ = some (.bool true) := (blk_cell BK155.out 0).trans rfl
                          have hcz28_1 : wr.cell? ⟨gb155, 1, none⟩ = some (.int .i64 ((rd_T36 l0 x12_1).f1)) := (blk_cell BK155.out 1).trans rfl
                          have hcz28_2 : wr.cell? ⟨gb155, 2, none⟩ = some (.slice A154_2 ((rd_T36 l0 x12_1).f2).length c154_2) := (blk_cell BK155.out 2).trans rfl
                          have hfz28_0 := blk_frozen BK155.out 0
                          have hfz28_1 := blk_frozen BK155.out 1
                          have hfz28_2 := blk_frozen BK155.out 2
                          go_wp2_with (first | ((with_reducible refine gate_callee (f := 18) rfl ?_); refine goesL_ (some 42) rfl rfl Tryz.func18 (by kernel_rfl) rfl #[.slice Ao27 x8_2.length co27, .int .i64 a1] rfl (by (try simp only [List.map_toArray, List.map_cons, List.map_nil]); first | done | rfl | (simp only [List.length_drop, List.length_take]; rfl)) ?_; (with_reducible refine (spec_PackBits.calls k2 _ _ x8_2 a1 t171 _ ?side1 ?side2 A25.out).mono ?_); (case side1 => repeat (first | exact (Kd.R_reads' HO_8.out).2.2 | (with_reducible refine Kd.C_alloc ?_ _) | (with_reducible refine Kd.C_drewN ?_ _) | (with_reducible refine Kd.C_drew ?_))); (case side2 => exact (Kd.R_reads' HO_8.out).2.1); rintro e w29 ⟨v172, rfl, ho0, hb⟩; refine ⟨_, rfl, ?_⟩; have n0_ := Aside0.mk (Kd.R_elder' (by (with_reducible repeat (first | apply Kd.R_alloc | apply Kd.R_drewN | apply Kd.R_drew)); exact HO_5.out) (Kd.R_base ho0) hb); have n1_ := Aside0.mk (Kd.R_below (by (with_reducible repeat (first | apply Kd.R_alloc | apply Kd.R_drewN | apply Kd.R_drew)); exact HO_8.out) hb); have n2_ := Aside0.mk (Kd.R_lower (Kd.R_new' ho0 (Kd.R_lt (by (with_reducible repeat (first | apply Kd.R_alloc | apply Kd.R_drewN | apply Kd.R_drew)); exact HO_5.out))) (below_size (by repeat (first | (with_reducible first | exact HB.out | apply below_alloc | apply pw_below_drewN | apply below_drew1 | refine below_set ?_ GE155.out) | exact HB.out)))); have n3_ := Aside0.mk (blk_below (g := gb155) (o := .cells #[.bool true, .int .i64 ((rd_T36 l0 x12_1).f1), .slice A154_2 ((rd_T36 l0 x12_1).f2).length c154_2] 36 (0, 0)) (by (with_reducible repeat (first | refine blk_drewN ?_ _ | refine blk_drew ?_ | refine blk_alloc ?_ _)); exact BK155.out) hb); have n4_ := Aside0.mk (below_step (by repeat (first | (with_reducible first | exact HB.out | apply below_alloc | apply pw_below_drewN | apply below_drew1 | refine below_set ?_ GE155.out) | exact HB.out)) hb); clear HO_5; clear HO_8; clear BK155; clear HB; have HO_5 := n0_; have HO_8 := n1_; have HO173 := n2_; have BK155 := n3_; have HB := n4_; clear n0_ n1_ n2_ n3_ n4_; (try clear hb); (try clear hb2); (try clear hk); (try clear hi); (try clear ho0); obtain ⟨Ao31, co31, eo31⟩ := Kd.R_slice HO173.out; subst eo31) | ((with_reducible refine gate_builtin (b := .append) (xs := #[.tmp 39, .tmp 42]) rfl ?_); at_builtin; refine Kd.R_append_rows (Kd.int .u8) (w0 := w) w.heap.size rfl (.tmp 39) (.tmp 42) 28 5 (.int .u8 0) 1 rfl Tryz.underlying28 info5 rfl (by decide) (by omega) v160 y159 t171 _ _ _ (fun k_ => some k_ ≠ (.slice Ao31 t171.length co31 : Value).ownBlock) (fun _ => False) rfl rfl ?aO ?aR (fun _ _ h => h) (fun _ h => h.elim) ?aF ?aB ?aS ?aL ?_; (case aR => repeat (first | exact (Kd.R_reads' HO173.out).2.2 | (with_reducible refine Kd.C_alloc ?_ _) | (with_reducible refine Kd.C_drewN ?_ _) | (with_reducible refine Kd.C_drew ?_))); (case aB => exact (by repeat (first | (with_reducible first | exact HB.out | apply below_alloc | apply pw_below_drewN | apply below_drew1 | refine below_set ?_ GE155.out) | exact HB.out))); (case aF => exact (fun k_ hk => Kd.fresh' (Kd.R_lt (by (with_reducible repeat (first | apply Kd.R_alloc | apply Kd.R_drewN | apply Kd.R_drew)); exact HO173.out)) k_ hk)); (case aO => exact (by (with_reducible repeat (first | apply Kd.R_alloc | apply Kd.R_drewN | apply Kd.R_drew)); exact Kd.R_mono HO_5.out (fun _ hk => hk.2))); (case aS => exact (below_size (by repeat (first | (with_reducible first | exact HB.out | apply below_alloc | apply pw_below_drewN | apply below_drew1 | refine below_set ?_ GE155.out) | exact HB.out)))); (case aL => have := LMc26.out; omega); intro v175 w30 ho hb hg hat; rw [← Ny174.out] at ho; have n0_ := Aside0.mk (Kd.R_over' (by (with_reducible repeat (first | apply Kd.R_alloc | apply Kd.R_drewN | apply Kd.R_drew)); exact HO_8.out) (Kd.R_typed (by (with_reducible repeat (first | apply Kd.R_alloc | apply Kd.R_drewN | apply Kd.R_drew)); exact HO_5.out)) (by decide) hg); have n1_ := Aside0.mk (blk_grown (g := gb155) (o := .cells #[.bool true, .int .i64 ((rd_T36 l0 x12_1).f1), .slice A154_2 ((rd_T36 l0 x12_1).f2).length c154_2] 36 (0, 0)) (by (with_reducible repeat (first | refine blk_drewN ?_ _ | refine blk_drew ?_ | refine blk_alloc ?_ _)); exact BK155.out) hg (Kd.R_ne HO_5.out BK155.out (by decide))); have n2_ := Aside0.mk (Kd.R_after (ok := (fun _ => True)) (by (with_reducible repeat (first | apply Kd.R_alloc | apply Kd.R_drewN | apply Kd.R_drew)); exact HO173.out) hg hat); have n3_ := Aside0.mk (hb); have n4_ := Aside0.mk (ho); clear HO_8; clear BK155; clear HO173; clear HB; clear HO_5; have HO_8 := n0_; have BK155 := n1_; have HO173 := n2_; have HB := n3_; have HO176 := n4_; clear n0_ n1_ n2_ n3_ n4_; clear ho hb hg hat))
                          go_roundg k2
                          case measure => have := HK1.out; have := HK2.out; omega
                          case rel => exact ⟨(y174), (wrap64 (x12_1 + 1)), (by first | rfl | (simp; done) | (simp [*]; done)), H', ⟨by have := HK1.out; have := HK2.out; omega⟩, ⟨by (with_reducible repeat (first | apply Kd.R_alloc | apply Kd.R_drewN | apply Kd.R_drew)); exact Kd.R_mono HO176.out (fun _ hk => trivial)⟩, ⟨by repeat (first | (with_reducible first | exact HB.out | apply below_alloc | apply pw_below_drewN | apply below_drew1 | refine below_set ?_ GE155.out) | exact HB.out)⟩⟩
                        · rw [if_neg c26] at H
                          exact absurd H (by simp)
                · rw [if_neg c10] at H
                  exact absurd H (by simp)
              · rw [if_neg c9] at H
                exact absurd H (by simp)
            · replace c7 := Bool.eq_false_iff.mpr c7
              subst c7
              have H1 : ((spec_PutVLQ.f k1 (IntKind.u64.wrap ((IntKind.u64.wrap ((rd_T36 l0 x12_1).f1)) * 2))).bind fun t177 => (if x5_1.length + t177.length < 140737488355328 then (spec_PutRuns.l2 k1 a1 (x5_1 ++ t177) 0 l0 (l0.length : Int) x12_1 false ((rd_T36 l0 x12_1).f1) ((rd_T36 l0 x12_1).f2)) else (none))) = some r := by rw [if_neg (show ¬ (false = true) by decide)] at H; exact H
              clear H
              have H := H1
              clear H1
              replace H := Option.bind_eq_some_iff.mp H
              obtain ⟨t177, A320, H⟩ := H
              replace H : (if x5_1.length + t177.length < 140737488355328 then (spec_PutRuns.l2 k1 a1 (x5_1 ++ t177) 0 l0 (l0.length : Int) x12_1 false ((rd_T36 l0 x12_1).f1) ((rd_T36 l0 x12_1).f2)) else (none)) = some r := H
              have A32 := Aside0.mk A320
              clear A320
              by_cases c33 : x5_1.length + t177.length < 140737488355328
              · rw [if_pos c33] at H
                have LMc33 := Aside0.mk c33
                clear c33
                obtain ⟨y180, hy180⟩ : ∃ y_ : List Int, y_ = (x5_1 ++ t177) := ⟨_, rfl⟩
                replace H : (spec_PutRuns.l2 k1 a1 y180 0 l0 (l0.length : Int) x12_1 false ((rd_T36 l0 x12_1).f1) ((rd_T36 l0 x12_1).f2)) = some r := by first | (rw [hy180]; with_reducible exact H) | (have H2_ := (Option.bind_some _ _).symm.trans H; rw [hy180]; with_reducible exact H2_) | (have H2_ := (Option.bind_some _ _).symm.trans H; with_reducible exact H2_) | with_reducible exact H | (rw [hy180]; exact H) | exact H
                have Ny180 := Aside0.mk hy180
                clear hy180
                have H' := Aside0.mk H
                clear H
                have p154 : 0 ≤ (x12_1 : Int) := of_decide_eq_true (by first | (with_reducible assumption) | assumption)
                have q154 : x12_1 < (l0.length : Int) := of_decide_eq_true (by first | (with_reducible assumption) | assumption)
                obtain ⟨ad154, A154_2, c154_2, e154, hx154_0, hx154_1, hx154_2, hl154_2, hi154_2⟩ := at_T36 HR0.out x12_1 p154 q154
                (try rw [← Nbq6.out] at hx154_0)
                cases e154
                replace hx154_0 := (HB.out.cell (World.block_lt_of_cell? w _ hx154_0)).trans hx154_0
                replace hx154_1 := (HB.out.cell (World.block_lt_of_cell? w _ hx154_1)).trans hx154_1
                replace hx154_2 := (HB.out.cell (World.block_lt_of_cell? w _ hx154_2)).trans hx154_2
                have HR154_2 := Aside0.mk hi154_2
                have HC154_2 := Aside0.mk hl154_2
                clear hi154_2 hl154_2
                replace p154 := eq_true p154
                replace q154 := eq_true q154
                go_wp2_with (first | ((with_reducible refine gate_dst (N := 7) rfl ?_); refine box_event ?hg (N := 7) ?hd (cs := #[.bool false, .int .i64 0, .slice none 0 0]) (t := 36) ?hr ?_; (case hd => rfl); (case hg => rfl); (case hr => first | (go_simp; done) | (go_simp; rfl)); intro gb155 hg w34 hbox hb; have n0_ := Aside0.mk (Kd.R_below (by (with_reducible repeat (first | apply Kd.R_alloc | apply Kd.R_drewN | apply Kd.R_drew)); exact HO_5.out) hb); have n1_ := Aside0.mk (below_step (by repeat (first | (with_reducible first | exact HB.out | apply below_alloc | apply pw_below_drewN | apply below_drew1) | exact HB.out)) hb); have n2_ := Aside0.mk (hbox); have n3_ := Aside0.mk ((by rw [hg]; exact (below_size (by repeat (first | (with_reducible first | exact HB.out | apply below_alloc | apply pw_below_drewN | apply below_drew1) | exact HB.out))) : w.heap.size ≤ gb155)); have n4_ := Aside0.mk ((by rw [hg]; exact (below_size (by repeat (first | (with_reducible first | exact HB.out | apply below_alloc | apply pw_below_drewN | apply below_drew1) | exact HB.out))) : w.heap.size ≤ gb155)); clear HO_5; clear HB; have HO_5 := n0_; have HB := n1_; have BK155 := n2_; have GW155 := n3_; have GE155 := n4_; clear n0_ n1_ n2_ n3_ n4_; clear hb hbox hg; have hcz35_0 : w34.cell? ⟨gb155, 0, none⟩ = some (.bool false) := (blk_cell BK155.out 0).trans rfl; have hcz35_1 : w34.cell? ⟨gb155, 1, none⟩ = some (.int .i64 0) := (blk_cell BK155.out 1).trans rfl; have hcz35_2 : w34.cell? ⟨gb155, 2, none⟩ = some (.slice none 0 0) := (blk_cell BK155.out 2).trans rfl; have hfz35_0 := blk_frozen BK155.out 0; have hfz35_1 := blk_frozen BK155.out 1; have hfz35_2 := blk_frozen BK155.out 2) | ((with_reducible refine gate_callee (f := 17) rfl ?_); refine goesL_ (some 49) rfl rfl Tryz.func17 (by kernel_rfl) rfl #[.int .u64 (IntKind.u64.wrap ((IntKind.u64.wrap ((rd_T36 l0 x12_1).f1)) * 2))] rfl (by (try simp only [List.map_toArray, List.map_cons, List.map_nil]); first | done | rfl | (simp only [List.length_drop, List.length_take]; rfl)) ?_; (with_reducible refine (spec_PutVLQ.calls k1 (IntKind.u64.wrap ((IntKind.u64.wrap ((rd_T36 l0 x12_1).f1)) * 2)) t177 _ A32.out).mono ?_); rintro e w36 ⟨v178, rfl, ho0, hb⟩; refine ⟨_, rfl, ?_⟩; have n0_ := Aside0.mk (Kd.R_elder' (by (with_reducible repeat (first | apply Kd.R_alloc | apply Kd.R_drewN | apply Kd.R_drew)); exact (Kd.R_mono (Kd.R_far (p := ⟨gb155, 2, none⟩) (Kd.R_far (p := ⟨gb155, 1, none⟩) (Kd.R_far (p := ⟨gb155, 0, none⟩) (Kd.R_types HO_5.out BK155.out (by decide)) (fun _ hk => hk.2) (.bool false)) (fun _ hk => hk.2) (.int .i64 ((rd_T36 l0 x12_1).f1))) (fun _ hk => hk.2) (.slice A154_2 ((rd_T36 l0 x12_1).f2).length c154_2)) (fun _ h_ => h_.1))) (Kd.R_base ho0) hb); have n1_ := Aside0.mk (Kd.R_lower (Kd.R_new' ho0 (Kd.R_lt (by (with_reducible repeat (first | apply Kd.R_alloc | apply Kd.R_drewN | apply Kd.R_drew)); exact (Kd.R_mono (Kd.R_far (p := ⟨gb155, 2, none⟩) (Kd.R_far (p := ⟨gb155, 1, none⟩) (Kd.R_far (p := ⟨gb155, 0, none⟩) (Kd.R_types HO_5.out BK155.out (by decide)) (fun _ hk => hk.2) (.bool false)) (fun _ hk => hk.2) (.int .i64 ((rd_T36 l0 x12_1).f1))) (fun _ hk => hk.2) (.slice A154_2 ((rd_T36 l0 x12_1).f2).length c154_2)) (fun _ h_ => h_.1))))) (below_size (by repeat (first | (with_reducible first | exact HB.out | apply below_alloc | apply pw_below_drewN | apply below_drew1 | refine below_set ?_ GE155.out) | exact HB.out)))); have n2_ := Aside0.mk (blk_below (g := gb155) (o := .cells #[.bool false, .int .i64 ((rd_T36 l0 x12_1).f1), .slice A154_2 ((rd_T36 l0 x12_1).f2).length c154_2] 36 (0, 0)) (by (with_reducible repeat (first | refine blk_drewN ?_ _ | refine blk_drew ?_ | refine blk_alloc ?_ _)); refine blk_put (cs := #[.bool false, .int .i64 ((rd_T36 l0 x12_1).f1), .slice none 0 0]) ?_ 2 _ rfl; (with_reducible repeat (first | refine blk_drewN ?_ _ | refine blk_drew ?_ | refine blk_alloc ?_ _)); refine blk_put (cs := #[.bool false, .int .i64 0, .slice none 0 0]) ?_ 1 _ rfl; (with_reducible repeat (first | refine blk_drewN ?_ _ | refine blk_drew ?_ | refine blk_alloc ?_ _)); refine blk_put (cs := #[.bool false, .int .i64 0, .slice none 0 0]) ?_ 0 _ rfl; (with_reducible repeat (first | refine blk_drewN ?_ _ | refine blk_drew ?_ | refine blk_alloc ?_ _)); exact BK155.out) hb); have n3_ := Aside0.mk (below_step (by repeat (first | (with_reducible first | exact HB.out | apply below_alloc | apply pw_below_drewN | apply below_drew1 | refine below_set ?_ GE155.out) | exact HB.out)) hb); clear HO_5; clear BK155; clear HB; have HO_5 := n0_; have HO179 := n1_; have BK155 := n2_; have HB := n3_; clear n0_ n1_ n2_ n3_; (try clear hb); (try clear hb2); (try clear hk); (try clear hi); (try clear ho0); obtain ⟨Ao38, co38, eo38⟩ := Kd.R_slice HO179.out; subst eo38) | ((with_reducible refine gate_builtin (b := .append) (xs := #[.tmp 44, .tmp 49]) rfl ?_); at_builtin; refine Kd.R_append_rows (Kd.int .u8) (w0 := w) w.heap.size rfl (.tmp 44) (.tmp 49) 28 5 (.int .u8 0) 1 rfl Tryz.underlying28 info5 rfl (by decide) (by omega) u5 x5_1 t177 _ _ _ (fun k_ => some k_ ≠ (.slice Ao38 t177.length co38 : Value).ownBlock) (fun _ => False) rfl rfl ?aO ?aR (fun _ _ h => h) (fun _ h => h.elim) ?aF ?aB ?aS ?aL ?_; (case aR => repeat (first | exact (Kd.R_reads' HO179.out).2.2 | (with_reducible refine Kd.C_alloc ?_ _) | (with_reducible refine Kd.C_drewN ?_ _) | (with_reducible refine Kd.C_drew ?_))); (case aB => exact (by repeat (first | (with_reducible first | exact HB.out | apply below_alloc | apply pw_below_drewN | apply below_drew1 | refine below_set ?_ GE155.out) | exact HB.out))); (case aF => exact (fun k_ hk => Kd.fresh' (Kd.R_lt (by (with_reducible repeat (first | apply Kd.R_alloc | apply Kd.R_drewN | apply Kd.R_drew)); exact HO179.out)) k_ hk)); (case aO => exact (by (with_reducible repeat (first | apply Kd.R_alloc | apply Kd.R_drewN | apply Kd.R_drew)); exact Kd.R_mono HO_5.out (fun _ hk => hk.2))); (case aS => exact (below_size (by repeat (first | (with_reducible first | exact HB.out | apply below_alloc | apply pw_below_drewN | apply below_drew1 | refine below_set ?_ GE155.out) | exact HB.out)))); (case aL => have := LMc33.out; omega); intro v181 w37 ho hb hg hat; rw [← Ny180.out] at ho; have n0_ := Aside0.mk (blk_grown (g := gb155) (o := .cells #[.bool false, .int .i64 ((rd_T36 l0 x12_1).f1), .slice A154_2 ((rd_T36 l0 x12_1).f2).length c154_2] 36 (0, 0)) (by (with_reducible repeat (first | refine blk_drewN ?_ _ | refine blk_drew ?_ | refine blk_alloc ?_ _)); exact BK155.out) hg (Kd.R_ne HO_5.out BK155.out (by decide))); have n1_ := Aside0.mk (Kd.R_after (ok := (fun _ => True)) (by (with_reducible repeat (first | apply Kd.R_alloc | apply Kd.R_drewN | apply Kd.R_drew)); exact HO179.out) hg hat); have n2_ := Aside0.mk (hb); have n3_ := Aside0.mk (ho); clear BK155; clear HO179; clear HB; clear HO_5; have BK155 := n0_; have HO179 := n1_; have HB := n2_; have HO182 := n3_; clear n0_ n1_ n2_ n3_; clear ho hb hg hat))
                go_loopg [5, 9] k1 (fun kq v5 v9 w' => ∃ (x5_2 : List Int) (x9_2 : Int), v9 = .int .i64 x9_2 ∧ Aside0 (spec_PutRuns.l2 kq a1 x5_2 x9_2 l0 (l0.length : Int) x12_1 false ((rd_T36 l0 x12_1).f1) ((rd_T36 l0 x12_1).f2) = some r) ∧ Aside0 (kq ≤ k1) ∧ Aside0 (Kd.R (Kd.int .u8) 5 w' w.heap.size (fun _ => True) v5 x5_2) ∧ Aside0 (w'.heap[gb155]? = some (.cells #[.bool false, .int .i64 ((rd_T36 l0 x12_1).f1), (.slice A154_2 ((rd_T36 l0 x12_1).f2).length c154_2)] 36 (0, 0))) ∧ Aside0 (Below w.heap.size w w'))
                case atStart => exact ⟨(y180), (0), (by first | rfl | (simp; done) | (simp [*]; done)), H', ⟨Nat.le_refl _⟩, ⟨by (with_reducible repeat (first | apply Kd.R_alloc | apply Kd.R_drewN | apply Kd.R_drew)); exact Kd.R_mono HO182.out (fun _ hk => trivial)⟩, ⟨by (with_reducible repeat (first | refine blk_drewN ?_ _ | refine blk_drew ?_ | refine blk_alloc ?_ _)); exact BK155.out⟩, ⟨by repeat (first | (with_reducible first | exact HB.out | apply below_alloc | apply pw_below_drewN | apply below_drew1 | refine below_set ?_ GE155.out) | exact HB.out)⟩⟩
                case round =>
                  clear H'
                  try clear c1
                  try clear p1
                  try clear q1
                  try clear hx1
                  try clear c2
                  try clear p2
                  try clear c3
                  try clear c3b0
                  try clear c4
                  try clear c4b0
                  try clear c5
                  try clear c5b0
                  try clear p6
                  try clear q6
                  try clear c7
                  try clear c9
                  try clear c10
                  try clear c15
                  try clear p15
                  try clear q15
                  try clear hx15
                  try clear c17
                  try clear c18
                  try clear c20
                  try clear c20b0
                  try clear c21
                  try clear c26
                  try clear c33
                  try clear hcz12_0
                  try clear hcz12_1
                  try clear hcz12_2
                  try clear hcz18_0
                  try clear hcz18_1
                  try clear hcz18_2
                  try clear hcz23_0
                  try clear hcz23_1
                  try clear hcz23_2
                  try clear hcz28_0
                  try clear hcz28_1
                  try clear hcz28_2
                  try clear hcz35_0
                  try clear hcz35_1
                  try clear hcz35_2
                  try clear hfz12_0
                  try clear hfz12_1
                  try clear hfz12_2
                  try clear hfz18_0
                  try clear hfz18_1
                  try clear hfz18_2
                  try clear hfz23_0
                  try clear hfz23_1
                  try clear hfz23_2
                  try clear hfz28_0
                  try clear hfz28_1
                  try clear hfz28_2
                  try clear hfz35_0
                  try clear hfz35_1
                  try clear hfz35_2
                  try clear hx154_0
                  try clear hx154_1
                  try clear hx154_2
                  try clear p1
                  try clear p15
                  try clear p154
                  try clear p2
                  try clear q1
                  try clear q15
                  try clear q154
                  try clear q6
                  obtain ⟨x5_2, x9_2, rfl, HA, HK2, HO_5, BK155, HB⟩ := hrel
                  cases gk with
                  | zero => exact absurd HA.out (by simp [spec_PutRuns.l2])
                  | succ k2 =>
                    have H := HA.out
                    clear HA
                    simp only [spec_PutRuns.l2] at H
                    by_cases c39 : x9_2 < (wrap64 (Int.tdiv (wrap64 (a1 + 7)) 8))
                    · rw [if_pos c39] at H
                      have c39b0 : decide (x9_2 < (wrap64 (Int.tdiv (wrap64 (a1 + 7)) 8))) = true := decide_eq_true c39
                      clear c39
                      by_cases c40 : 0 < (((rd_T36 l0 x12_1).f2).length : Int)
                      · rw [if_pos c40] at H
                        have c40b0 : decide (0 < (((rd_T36 l0 x12_1).f2).length : Int)) = true := decide_eq_true c40
                        have c40b1 : decide (0 < ((rd_T36 l0 x12_1).f2).length) = true := decide_eq_true (by omega)
                        clear c40
                        obtain ⟨ji41, hji41⟩ : ∃ j_ : Int, (wrap64 (8 * x9_2)) = j_ := ⟨_, rfl⟩
                        replace H : (if 0 ≤ (ji41) then (if x5_2.length < 140737488355328 then (spec_PutRuns.l2 k2 a1 (x5_2 ++ [(shr .u64 (rd ((rd_T36 l0 x12_1).f2) 0) (ji41)) % 256]) (wrap64 (x9_2 + 1)) l0 (l0.length : Int) x12_1 false ((rd_T36 l0 x12_1).f1) ((rd_T36 l0 x12_1).f2)) else (none)) else (none)) = some r := by first | (rw [hji41] at H; exact H) | (simp only [hji41] at H ⊢; exact H)
                        have hji41w : (IntKind.i64.wrap (8 * x9_2)) = ji41 := (i64_w _).trans hji41
                        by_cases c42 : 0 ≤ (ji41)
                        · rw [if_pos c42] at H
                          have c42b0 := eq_true c42
                          have c42b1 : decide (0 ≤ (ji41)) = true := decide_eq_true c42
                          clear c42
                          obtain ⟨ji43, hji43⟩ : ∃ j_ : Int, (shr .u64 (rd ((rd_T36 l0 x12_1).f2) 0) (ji41)) = j_ := ⟨_, rfl⟩
                          replace H : (if x5_2.length < 140737488355328 then (spec_PutRuns.l2 k2 a1 (x5_2 ++ [(ji43) % 256]) (wrap64 (x9_2 + 1)) l0 (l0.length : Int) x12_1 false ((rd_T36 l0 x12_1).f1) ((rd_T36 l0 x12_1).f2)) else (none)) = some r := by first | (rw [hji43] at H; exact H) | (simp only [hji43] at H ⊢; exact H)
                          have hji43_ : ((rd ((rd_T36 l0 x12_1).f2) 0) / 2 ^ min (ji41).toNat 64) = ji43 := hji43
                          have hji43z : (ji41) ≤ 64 → ((rd ((rd_T36 l0 x12_1).f2) 0) / 2 ^ (ji41).toNat) = ji43 := shr_small hji43
                          by_cases c44 : x5_2.length < 140737488355328
                          · rw [if_pos c44] at H
                            have LMc44 := Aside0.mk c44
                            clear c44
                            obtain ⟨y184, hy184⟩ : ∃ y_ : List Int, y_ = (x5_2 ++ [(ji43) % 256]) := ⟨_, rfl⟩
                            replace H : (spec_PutRuns.l2 k2 a1 y184 (wrap64 (x9_2 + 1)) l0 (l0.length : Int) x12_1 false ((rd_T36 l0 x12_1).f1) ((rd_T36 l0 x12_1).f2)) = some r := by first | (rw [hy184]; with_reducible exact H) | (have H2_ := (Option.bind_some _ _).symm.trans H; rw [hy184]; with_reducible exact H2_) | (have H2_ := (Option.bind_some _ _).symm.trans H; with_reducible exact H2_) | with_reducible exact H | (rw [hy184]; exact H) | exact H
                            have Ny184 := Aside0.mk hy184
                            clear hy184
                            have H' := Aside0.mk H
                            clear H
                            have hcz45_0 : wr.cell? ⟨gb155, 0, none⟩ = some (.bool false) := (blk_cell BK155.out 0).trans rfl
                            have hcz45_1 : wr.cell? ⟨gb155, 1, none⟩ = some (.int .i64 ((rd_T36 l0 x12_1).f1)) := (blk_cell BK155.out 1).trans rfl
                            have hcz45_2 : wr.cell? ⟨gb155, 2, none⟩ = some (.slice A154_2 ((rd_T36 l0 x12_1).f2).length c154_2) := (blk_cell BK155.out 2).trans rfl
                            have hfz45_0 := blk_frozen BK155.out 0
                            have hfz45_1 := blk_frozen BK155.out 1
                            have hfz45_2 := blk_frozen BK155.out 2
                            have p183 : 0 ≤ (0 : Int) := (by omega)
                            have q183 : 0 < (((rd_T36 l0 x12_1).f2).length : Int) := of_decide_eq_true (by first | (with_reducible assumption) | assumption)
                            obtain ⟨ad183, e183, hx183_0⟩ := Kd.at_int HR154_2.out 0 p183 q183
                            cases e183
                            have qi183 : (0 < ((rd_T36 l0 x12_1).f2).length) = True := eq_true (by omega)
                            (try rw [show ((0 : Int)).toNat = 0 from rfl] at hx183_0)
                            (try rw [Addr.add_zero'] at hx183_0)
                            replace hx183_0 := (HB.out.cell (World.block_lt_of_cell? w _ hx183_0)).trans hx183_0
                            replace p183 := eq_true p183
                            replace q183 := eq_true q183
                            go_wp2_with (first | ((with_reducible refine gate_builtin (b := .append) (xs := #[.tmp 58, .tmp 67]) rfl ?_); at_builtin; refine Kd.R_append (Kd.int .u8) (w0 := w) w.heap.size rfl (.tmp 58) (.tmp 67) 28 5 (.int .u8 0) 1 rfl Tryz.underlying28 info5 rfl (by decide) (by omega) u5 x5_2 ((ji43) % 256) [.int .u8 ((ji43) % 256)] (fun _ => True) (fun _ => False) rfl rfl ?aP (fun _ hk => hk.elim) ?aF ?aO ?aB ?aS ?aL ?_; (case aP => exact rfl); (case aB => exact (by repeat (first | (with_reducible first | exact HB.out | apply below_alloc | apply pw_below_drewN | apply below_drew1 | refine below_set ?_ GE155.out) | exact HB.out))); (case aF => exact (fun _ _ => trivial)); (case aO => exact (by (with_reducible repeat (first | apply Kd.R_alloc | apply Kd.R_drewN | apply Kd.R_drew)); exact HO_5.out)); (case aS => exact (below_size (by repeat (first | (with_reducible first | exact HB.out | apply below_alloc | apply pw_below_drewN | apply below_drew1 | refine below_set ?_ GE155.out) | exact HB.out)))); (case aL => have := LMc44.out; omega); intro v185 w46 ho hb hg hat; rw [← Ny184.out] at ho; have n0_ := Aside0.mk (blk_grown (g := gb155) (o := .cells #[.bool false, .int .i64 ((rd_T36 l0 x12_1).f1), .slice (some ad183) ((rd_T36 l0 x12_1).f2).length c154_2] 36 (0, 0)) (by (with_reducible repeat (first | refine blk_drewN ?_ _ | refine blk_drew ?_ | refine blk_alloc ?_ _)); exact BK155.out) hg (Kd.R_ne HO_5.out BK155.out (by decide))); have n1_ := Aside0.mk (hb); have n2_ := Aside0.mk (ho); clear BK155; clear HB; clear HO_5; have BK155 := n0_; have HB := n1_; have HO186 := n2_; clear n0_ n1_ n2_; clear ho hb hg hat))
                            go_roundg k2
                            case measure => have := HK1.out; have := HK2.out; omega
                            case rel => exact ⟨(y184), (wrap64 (x9_2 + 1)), (by first | rfl | (simp; done) | (simp [*]; done)), H', ⟨by have := HK1.out; have := HK2.out; omega⟩, ⟨by (with_reducible repeat (first | apply Kd.R_alloc | apply Kd.R_drewN | apply Kd.R_drew)); exact HO186.out⟩, ⟨by (with_reducible repeat (first | refine blk_drewN ?_ _ | refine blk_drew ?_ | refine blk_alloc ?_ _)); exact BK155.out⟩, ⟨by repeat (first | (with_reducible first | exact HB.out | apply below_alloc | apply pw_below_drewN | apply below_drew1 | refine below_set ?_ GE155.out) | exact HB.out)⟩⟩
                          · rw [if_neg c44] at H
                            exact absurd H (by simp)
                        · rw [if_neg c42] at H
                          exact absurd H (by simp)
                      · rw [if_neg c40] at H
                        exact absurd H (by simp)
                    · rw [if_neg c39] at H
                      have c39b0 : decide (x9_2 < (wrap64 (Int.tdiv (wrap64 (a1 + 7)) 8))) = false := decide_eq_false c39
                      clear c39
                      have H' := Aside0.mk H
                      clear H
                      go_wp2
                      go_roundg k2
                      case measure => have := HK1.out; have := HK2.out; omega
                      case rel => exact ⟨(x5_2), (wrap64 (x12_1 + 1)), (by first | rfl | (simp; done) | (simp [*]; done)), H', ⟨by have := HK1.out; have := HK2.out; omega⟩, ⟨by (with_reducible repeat (first | apply Kd.R_alloc | apply Kd.R_drewN | apply Kd.R_drew)); exact HO_5.out⟩, ⟨by repeat (first | (with_reducible first | exact HB.out | apply below_alloc | apply pw_below_drewN | apply below_drew1 | refine below_set ?_ GE155.out) | exact HB.out)⟩⟩
              · rw [if_neg c33] at H
                exact absurd H (by simp)
          · rw [if_neg c5] at H
            exact absurd H (by simp)
        · rw [if_neg c4] at H
          exact absurd H (by simp)
      · rw [if_neg c3] at H
        have c3b0 : decide (x12_1 < (l0.length : Int)) = false := decide_eq_false c3
        clear c3
        obtain rfl := Option.some.inj H
        go_wp2
        go_ret
        exact ⟨_, by first | rfl | (simp [errW_none, errW_some] <;> rfl) | (simp [*, errW_none, errW_some] <;> rfl), by (with_reducible repeat (first | apply Kd.R_alloc | apply Kd.R_drewN | apply Kd.R_drew)); exact HO_5.out, by repeat (first | (with_reducible first | exact HB.out | apply below_alloc | apply pw_below_drewN | apply below_drew1) | exact HB.out)⟩
end Go.Proofs.YtameepdbnnaaaaaGreatDoor.PFnRleRead
