/- Printed by program out of the translation, and struck smaller. -/
import Derived.Test.YtmcjpnijldhelaaGreatDoorPFnDictionaryFloat64Readx0
import Derived.Test.YtmcjpnijldhelaaGreatDoorRF
import Derived.Test.YtmcjpnijldhelaaGreatDoorPFnDictionaryFloat64Readx3
namespace Go.Proofs.YtmcjpnijldhelaaGreatDoor.PFnDictionaryFloat64Read
open Go.RowKit Go.Proofs.YtmcjpnijldhelaaGreatDoorW.PrintWords Go.Proofs.YtmcjpnijldhelaaGreatDoorW.PrintLast Go.Proofs.YtmcjpnijldhelaaGreatDoorW.PrintMore
attribute [local go_sem] max2_int min2_int max_two min_two max_three min_three max_four min_four
set_option linter.unusedVariables false
set_option linter.unusedSimpArgs false
mutual
def spec_PutRuns.l0 : Nat → Int → List Int → List (S53) → Int → Int → Option (List Int)
  | 0, _, _, _, _, _ => none
  | k + 1, x1, x5, x10, x11, x12 => if x12 < x11 then (if 0 ≤ x12 then (if x12 < (x10.length : Int) then (if (rd_T53 x10 x12).f0 = true then ((spec_PutVLQ.f k (Go.bits .or .u64 (IntKind.u64.wrap ((IntKind.u64.wrap ((rd_T53 x10 x12).f1)) * 2)) 1)).bind fun t147 => (if x5.length + t147.length < 140737488355328 then ((some (([] : List Int) : List Int)).bind fun y153 => (if y153.length + ((rd_T53 x10 x12).f2).length < 17592186044416 then (spec_PutRuns.l1 k x1 (x5 ++ t147) (y153 ++ ((rd_T53 x10 x12).f2)) x10 x11 x12 ((rd_T53 x10 x12).f0) ((rd_T53 x10 x12).f1) ((rd_T53 x10 x12).f2)) else (none))) else (none))) else ((spec_PutVLQ.f k (IntKind.u64.wrap ((IntKind.u64.wrap ((rd_T53 x10 x12).f1)) * 2))).bind fun t168 => (if x5.length + t168.length < 140737488355328 then (spec_PutRuns.l2 k x1 (x5 ++ t168) 0 x10 x11 x12 ((rd_T53 x10 x12).f0) ((rd_T53 x10 x12).f1) ((rd_T53 x10 x12).f2)) else (none)))) else (none)) else (none)) else (some x5)
def spec_PutRuns.l1 : Nat → Int → List Int → List Int → List (S53) → Int → Int → Bool → Int → List Int → Option (List Int)
  | 0, _, _, _, _, _, _, _, _, _ => none
  | k + 1, x1, x5, x8, x10, x11, x12, x147000, x147001, x147002 => if (x8.length : Int) < (wrap64 (8 * x147001)) then (if x8.length < 17592186044416 then (spec_PutRuns.l1 k x1 x5 (x8 ++ [0]) x10 x11 x12 x147000 x147001 x147002) else (none)) else ((spec_PackBits.f k x8 x1).bind fun t162 => (if x5.length + t162.length < 140737488355328 then (spec_PutRuns.l0 k x1 (x5 ++ t162) x10 x11 (wrap64 (x12 + 1))) else (none)))
def spec_PutRuns.l2 : Nat → Int → List Int → Int → List (S53) → Int → Int → Bool → Int → List Int → Option (List Int)
  | 0, _, _, _, _, _, _, _, _, _ => none
  | k + 1, x1, x5, x9, x10, x11, x12, x147000, x147001, x147002 => if x9 < (wrap64 (Int.tdiv (wrap64 (x1 + 7)) 8)) then (if 0 < (x147002.length : Int) then (if 0 ≤ (wrap64 (8 * x9)) then (if x5.length < 140737488355328 then (spec_PutRuns.l2 k x1 (x5 ++ [(shr .u64 (rd x147002 0) (wrap64 (8 * x9))) % 256]) (wrap64 (x9 + 1)) x10 x11 x12 x147000 x147001 x147002) else (none)) else (none)) else (none)) else (spec_PutRuns.l0 k x1 x5 x10 x11 (wrap64 (x12 + 1)))
end
def spec_PutRuns.f (k : Nat) (l0 : List (S53)) (a1 : Int) : Option (List Int) := spec_PutRuns.l0 k a1 ([] : List Int) l0 (l0.length : Int) 0
theorem spec_PutRuns.mono_l : ∀ k, (∀ y0 y1 y2 y3 y4, LeO (spec_PutRuns.l0 k y0 y1 y2 y3 y4) (spec_PutRuns.l0 (k + 1) y0 y1 y2 y3 y4)) ∧ (∀ y0 y1 y2 y3 y4 y5 y6 y7 y8, LeO (spec_PutRuns.l1 k y0 y1 y2 y3 y4 y5 y6 y7 y8) (spec_PutRuns.l1 (k + 1) y0 y1 y2 y3 y4 y5 y6 y7 y8)) ∧ (∀ y0 y1 y2 y3 y4 y5 y6 y7 y8, LeO (spec_PutRuns.l2 k y0 y1 y2 y3 y4 y5 y6 y7 y8) (spec_PutRuns.l2 (k + 1) y0 y1 y2 y3 y4 y5 y6 y7 y8))
  | 0 => ⟨fun _ _ _ _ _ r h => by simp [spec_PutRuns.l0] at h, fun _ _ _ _ _ _ _ _ _ r h => by simp [spec_PutRuns.l1] at h, fun _ _ _ _ _ _ _ _ _ r h => by simp [spec_PutRuns.l2] at h⟩
  | k + 1 => by
    obtain ⟨ih0, ih1, ih2⟩ := spec_PutRuns.mono_l k
    refine ⟨?_, ?_, ?_⟩
    · intro y0 y1 y2 y3 y4
      unfold spec_PutRuns.l0
      repeat' first
      | (with_reducible exact ih0 _ _ _ _ _)
      | (with_reducible exact ih1 _ _ _ _ _ _ _ _ _)
      | (with_reducible exact ih2 _ _ _ _ _ _ _ _ _)
      | (with_reducible exact spec_PackBits.mono _ _ _)
      | (with_reducible exact spec_PutVLQ.mono _ _)
      | (with_reducible exact LeO.refl _)
      | (with_reducible exact LeO.none _)
      | (with_reducible refine LeO.ite ?_ ?_)
      | (with_reducible refine LeO.bind ?_ (fun _ => ?_))
      | exact ih0 _ _ _ _ _
      | exact ih1 _ _ _ _ _ _ _ _ _
      | exact ih2 _ _ _ _ _ _ _ _ _
      | exact spec_PackBits.mono _ _ _
      | exact spec_PutVLQ.mono _ _
      | exact LeO.none _
      | refine LeO.ite ?_ ?_
      | refine LeO.bind ?_ (fun _ => ?_)
    · intro y0 y1 y2 y3 y4 y5 y6 y7 y8
      unfold spec_PutRuns.l1
      repeat' first
      | (with_reducible exact ih0 _ _ _ _ _)
      | (with_reducible exact ih1 _ _ _ _ _ _ _ _ _)
      | (with_reducible exact ih2 _ _ _ _ _ _ _ _ _)
      | (with_reducible exact spec_PackBits.mono _ _ _)
      | (with_reducible exact spec_PutVLQ.mono _ _)
      | (with_reducible exact LeO.refl _)
      | (with_reducible exact LeO.none _)
      | (with_reducible refine LeO.ite ?_ ?_)
      | (with_reducible refine LeO.bind ?_ (fun _ => ?_))
      | exact ih0 _ _ _ _ _
      | exact ih1 _ _ _ _ _ _ _ _ _
      | exact ih2 _ _ _ _ _ _ _ _ _
      | exact spec_PackBits.mono _ _ _
      | exact spec_PutVLQ.mono _ _
      | exact LeO.none _
      | refine LeO.ite ?_ ?_
      | refine LeO.bind ?_ (fun _ => ?_)
    · intro y0 y1 y2 y3 y4 y5 y6 y7 y8
      unfold spec_PutRuns.l2
      repeat' first
      | (with_reducible exact ih0 _ _ _ _ _)
      | (with_reducible exact ih1 _ _ _ _ _ _ _ _ _)
      | (with_reducible exact ih2 _ _ _ _ _ _ _ _ _)
      | (with_reducible exact spec_PackBits.mono _ _ _)
      | (with_reducible exact spec_PutVLQ.mono _ _)
      | (with_reducible exact LeO.refl _)
      | (with_reducible exact LeO.none _)
      | (with_reducible refine LeO.ite ?_ ?_)
      | (with_reducible refine LeO.bind ?_ (fun _ => ?_))
      | exact ih0 _ _ _ _ _
      | exact ih1 _ _ _ _ _ _ _ _ _
      | exact ih2 _ _ _ _ _ _ _ _ _
      | exact spec_PackBits.mono _ _ _
      | exact spec_PutVLQ.mono _ _
      | exact LeO.none _
      | refine LeO.ite ?_ ?_
      | refine LeO.bind ?_ (fun _ => ?_)
theorem spec_PutRuns.mono : ∀ a0 a1 k, LeO (spec_PutRuns.f k a0 a1) (spec_PutRuns.f (k + 1) a0 a1) := by
  intro a0 a1 k
  obtain ⟨ih0, ih1, ih2⟩ := spec_PutRuns.mono_l k
  unfold spec_PutRuns.f
  repeat' first
      | (with_reducible exact ih0 _ _ _ _ _)
      | (with_reducible exact ih1 _ _ _ _ _ _ _ _ _)
      | (with_reducible exact ih2 _ _ _ _ _ _ _ _ _)
      | (with_reducible exact spec_PackBits.mono _ _ _)
      | (with_reducible exact spec_PutVLQ.mono _ _)
      | (with_reducible exact LeO.refl _)
      | (with_reducible exact LeO.none _)
      | (with_reducible refine LeO.ite ?_ ?_)
      | (with_reducible refine LeO.bind ?_ (fun _ => ?_))
      | exact ih0 _ _ _ _ _
      | exact ih1 _ _ _ _ _ _ _ _ _
      | exact ih2 _ _ _ _ _ _ _ _ _
      | exact spec_PackBits.mono _ _ _
      | exact spec_PutVLQ.mono _ _
      | exact LeO.none _
      | refine LeO.ite ?_ ?_
      | refine LeO.bind ?_ (fun _ => ?_)
set_option maxHeartbeats 8000000 in
set_option maxRecDepth 100000 in
theorem spec_PutRuns.calls (k : Nat) (A0 : Option Addr) (c0 : Nat) (l0 : List (S53)) (a1 : Int) (r : List Int) (w : World) (hr0 : Kd.C k53 w A0 l0.length l0) (hc0 : l0.length ≤ c0) (h : spec_PutRuns.f k l0 a1 = some r) :
    Calls Tryz.prog 33 #[.slice A0 l0.length c0, .int .i64 a1] w fun e w' => ∃ v0_ : Value, e = .returned (v0_) ∧ Kd.R (Kd.int .u8) 5 w' w.heap.size (fun _ => True) v0_ r ∧ Below w.heap.size w w' := by
  have hu53 := Tryz.underlying53
  have HR0 := Aside0.mk hr0
  have HC0 := Aside0.mk hc0
  clear hr0 hc0
  have HB := Aside0.mk (Below.refl w.heap.size w)
  have H : (spec_PutRuns.l0 k a1 ([] : List Int) l0 (l0.length : Int) 0) = some r := h
  clear h
  have H' := Aside0.mk H
  clear H
  go_enter Tryz.func33, Tryz.ntmps33
  go_wp2
  go_loopg [5, 12] k (fun kq v5 v12 w' => ∃ (x5_1 : List Int) (x12_1 : Int), v12 = .int .i64 x12_1 ∧ Aside0 (spec_PutRuns.l0 kq a1 x5_1 l0 (l0.length : Int) x12_1 = some r) ∧ Aside0 (kq ≤ k) ∧ Aside0 (Kd.R (Kd.int .u8) 5 w' w.heap.size (fun _ => True) v5 x5_1) ∧ Aside0 (Below w.heap.size w w'))
  case atStart => exact ⟨(([] : List Int)), (0), (by first | rfl | (simp; done) | (simp [*]; done)), H', ⟨Nat.le_refl _⟩, ⟨by first | exact Kd.R_nil _ _ _ _ _ | exact Kd.N_nil _ _ _ _ _ | exact Kd.V_nil _ _ _ _ _ | exact Kd.Q_nil _ _ _ _ _ | exact Kd.S_nil _ _ _ _ _⟩, ⟨by repeat (first | (with_reducible first | exact HB.out | apply below_alloc | apply pw_below_drewN | apply below_drew1) | exact HB.out)⟩⟩
  case round =>
    clear H'
    try clear p2
    obtain ⟨x5_1, x12_1, rfl, HA, HK1, HO_5, HB⟩ := hrel
    cases gk with
    | zero => exact absurd HA.out (by simp [spec_PutRuns.l0])
    | succ k1 =>
      have H := HA.out
      clear HA
      simp only [spec_PutRuns.l0] at H
      by_cases c3 : x12_1 < (l0.length : Int)
      · rw [if_pos c3] at H
        have c3b0 : decide (x12_1 < (l0.length : Int)) = true := decide_eq_true c3
        clear c3
        by_cases c4 : 0 ≤ x12_1
        · rw [if_pos c4] at H
          have c4b0 : decide (0 ≤ x12_1) = true := decide_eq_true c4
          clear c4
          by_cases c5 : x12_1 < (l0.length : Int)
          · rw [if_pos c5] at H
            have c5b0 : decide (x12_1 < (l0.length : Int)) = true := decide_eq_true c5
            clear c5
            obtain ⟨bq6, hbq6⟩ : ∃ b_ : Bool, b_ = ((rd_T53 l0 x12_1).f0) := ⟨_, rfl⟩
            replace H : (if bq6 = true then ((spec_PutVLQ.f k1 (Go.bits .or .u64 (IntKind.u64.wrap ((IntKind.u64.wrap ((rd_T53 l0 x12_1).f1)) * 2)) 1)).bind fun t147 => (if x5_1.length + t147.length < 140737488355328 then ((some (([] : List Int) : List Int)).bind fun y153 => (if y153.length + ((rd_T53 l0 x12_1).f2).length < 17592186044416 then (spec_PutRuns.l1 k1 a1 (x5_1 ++ t147) (y153 ++ ((rd_T53 l0 x12_1).f2)) l0 (l0.length : Int) x12_1 bq6 ((rd_T53 l0 x12_1).f1) ((rd_T53 l0 x12_1).f2)) else (none))) else (none))) else ((spec_PutVLQ.f k1 (IntKind.u64.wrap ((IntKind.u64.wrap ((rd_T53 l0 x12_1).f1)) * 2))).bind fun t168 => (if x5_1.length + t168.length < 140737488355328 then (spec_PutRuns.l2 k1 a1 (x5_1 ++ t168) 0 l0 (l0.length : Int) x12_1 bq6 ((rd_T53 l0 x12_1).f1) ((rd_T53 l0 x12_1).f2)) else (none)))) = some r := by rw [← hbq6] at H; exact H
            have Nbq6 := Aside0.mk hbq6
            clear hbq6
            by_cases c7 : bq6 = true
            · subst c7
              have H1 : ((spec_PutVLQ.f k1 (Go.bits .or .u64 (IntKind.u64.wrap ((IntKind.u64.wrap ((rd_T53 l0 x12_1).f1)) * 2)) 1)).bind fun t147 => (if x5_1.length + t147.length < 140737488355328 then ((some (([] : List Int) : List Int)).bind fun y153 => (if y153.length + ((rd_T53 l0 x12_1).f2).length < 17592186044416 then (spec_PutRuns.l1 k1 a1 (x5_1 ++ t147) (y153 ++ ((rd_T53 l0 x12_1).f2)) l0 (l0.length : Int) x12_1 true ((rd_T53 l0 x12_1).f1) ((rd_T53 l0 x12_1).f2)) else (none))) else (none))) = some r := by rw [if_pos rfl] at H; exact H
              clear H
              have H := H1
              clear H1
              replace H := Option.bind_eq_some_iff.mp H
              obtain ⟨t147, A80, H⟩ := H
              replace H : (if x5_1.length + t147.length < 140737488355328 then ((some (([] : List Int) : List Int)).bind fun y153 => (if y153.length + ((rd_T53 l0 x12_1).f2).length < 17592186044416 then (spec_PutRuns.l1 k1 a1 (x5_1 ++ t147) (y153 ++ ((rd_T53 l0 x12_1).f2)) l0 (l0.length : Int) x12_1 true ((rd_T53 l0 x12_1).f1) ((rd_T53 l0 x12_1).f2)) else (none))) else (none)) = some r := H
              have A8 := Aside0.mk A80
              clear A80
              by_cases c9 : x5_1.length + t147.length < 140737488355328
              · rw [if_pos c9] at H
                have LMc9 := Aside0.mk c9
                clear c9
                obtain ⟨y150, hy150⟩ : ∃ y_ : List Int, y_ = (x5_1 ++ t147) := ⟨_, rfl⟩
                replace H : ((some (([] : List Int) : List Int)).bind fun y153 => (if y153.length + ((rd_T53 l0 x12_1).f2).length < 17592186044416 then (spec_PutRuns.l1 k1 a1 y150 (y153 ++ ((rd_T53 l0 x12_1).f2)) l0 (l0.length : Int) x12_1 true ((rd_T53 l0 x12_1).f1) ((rd_T53 l0 x12_1).f2)) else (none))) = some r := by first | (rw [hy150]; with_reducible exact H) | (have H2_ := (Option.bind_some _ _).symm.trans H; rw [hy150]; with_reducible exact H2_) | (have H2_ := (Option.bind_some _ _).symm.trans H; with_reducible exact H2_) | with_reducible exact H | (rw [hy150]; exact H) | exact H
                have Ny150 := Aside0.mk hy150
                clear hy150
                obtain ⟨y153, hy153⟩ : ∃ y_ : List Int, y_ = (([] : List Int)) := ⟨_, rfl⟩
                replace H : (if y153.length + ((rd_T53 l0 x12_1).f2).length < 17592186044416 then (spec_PutRuns.l1 k1 a1 y150 (y153 ++ ((rd_T53 l0 x12_1).f2)) l0 (l0.length : Int) x12_1 true ((rd_T53 l0 x12_1).f1) ((rd_T53 l0 x12_1).f2)) else (none)) = some r := by first | (rw [hy153]; with_reducible exact H) | (have H2_ := (Option.bind_some _ _).symm.trans H; rw [hy153]; with_reducible exact H2_) | (have H2_ := (Option.bind_some _ _).symm.trans H; with_reducible exact H2_) | with_reducible exact H | (rw [hy153]; exact H) | exact H
                have Ny153 := Aside0.mk hy153
                clear hy153
                by_cases c10 : y153.length + ((rd_T53 l0 x12_1).f2).length < 17592186044416
                · rw [if_pos c10] at H
                  have LMc10 := Aside0.mk c10
                  clear c10
                  obtain ⟨y156, hy156⟩ : ∃ y_ : List Int, y_ = (y153 ++ ((rd_T53 l0 x12_1).f2)) := ⟨_, rfl⟩
                  replace H : (spec_PutRuns.l1 k1 a1 y150 y156 l0 (l0.length : Int) x12_1 true ((rd_T53 l0 x12_1).f1) ((rd_T53 l0 x12_1).f2)) = some r := by first | (rw [hy156]; with_reducible exact H) | (have H2_ := (Option.bind_some _ _).symm.trans H; rw [hy156]; with_reducible exact H2_) | (have H2_ := (Option.bind_some _ _).symm.trans H; with_reducible exact H2_) | with_reducible exact H | (rw [hy156]; exact H) | exact H
                  have Ny156 := Aside0.mk hy156
                  clear hy156
                  have H' := Aside0.mk H
                  clear H
                  have p145 : 0 ≤ (x12_1 : Int) := of_decide_eq_true (by first | (with_reducible assumption) | assumption)
                  have q145 : x12_1 < (l0.length : Int) := of_decide_eq_true (by first | (with_reducible assumption) | assumption)
                  obtain ⟨ad145, A145_2, c145_2, e145, hx145_0, hx145_1, hx145_2, hl145_2, hi145_2⟩ := at_T53 HR0.out x12_1 p145 q145
                  (try rw [← Nbq6.out] at hx145_0)
                  cases e145
                  replace hx145_0 := (HB.out.cell (World.block_lt_of_cell? w _ hx145_0)).trans hx145_0
                  replace hx145_1 := (HB.out.cell (World.block_lt_of_cell? w _ hx145_1)).trans hx145_1
                  replace hx145_2 := (HB.out.cell (World.block_lt_of_cell? w _ hx145_2)).trans hx145_2
                  have HR145_2 := Aside0.mk hi145_2
                  have HC145_2 := Aside0.mk hl145_2
                  clear hi145_2 hl145_2
                  replace p145 := eq_true p145
                  replace q145 := eq_true q145
                  go_wp2_with (first | ((with_reducible refine gate_dst (N := 7) rfl ?_); refine box_event ?hg (N := 7) ?hd (cs := #[.bool false, .int .i64 0, .slice none 0 0]) (t := 53) ?hr ?_; (case hd => rfl); (case hg => rfl); (case hr => first | (go_simp; done) | (go_simp; rfl)); intro gb146 hg w11 hbox hb; have n0_ := Aside0.mk (Kd.R_below (by (with_reducible repeat (first | apply Kd.R_alloc | apply Kd.R_drewN | apply Kd.R_drew)); exact HO_5.out) hb); have n1_ := Aside0.mk (below_step (by repeat (first | (with_reducible first | exact HB.out | apply below_alloc | apply pw_below_drewN | apply below_drew1) | exact HB.out)) hb); have n2_ := Aside0.mk (hbox); have n3_ := Aside0.mk ((by rw [hg]; exact (below_size (by repeat (first | (with_reducible first | exact HB.out | apply below_alloc | apply pw_below_drewN | apply below_drew1) | exact HB.out))) : w.heap.size ≤ gb146)); have n4_ := Aside0.mk ((by rw [hg]; exact (below_size (by repeat (first | (with_reducible first | exact HB.out | apply below_alloc | apply pw_below_drewN | apply below_drew1) | exact HB.out))) : w.heap.size ≤ gb146)); clear HO_5; clear HB; have HO_5 := n0_; have HB := n1_; have BK146 := n2_; have GW146 := n3_; have GE146 := n4_; clear n0_ n1_ n2_ n3_ n4_; clear hb hbox hg; have hcz12_0 : w11.cell? ⟨gb146, 0, none⟩ = some (.bool false) := (blk_cell BK146.out 0).trans rfl; have hcz12_1 : w11.cell? ⟨gb146, 1, none⟩ = some (.int .i64 0) := (blk_cell BK146.out 1).trans rfl; have hcz12_2 : w11.cell? ⟨gb146, 2, none⟩ = some (.slice none 0 0) := (blk_cell BK146.out 2).trans rfl; have hfz12_0 := blk_frozen BK146.out 0; have hfz12_1 := blk_frozen BK146.out 1; have hfz12_2 := blk_frozen BK146.out 2) | ((with_reducible refine gate_callee (f := 60) rfl ?_); refine goesL_ (some 24) rfl rfl Tryz.func60 (by kernel_rfl) rfl #[.int .u64 (Go.bits .or .u64 (IntKind.u64.wrap ((IntKind.u64.wrap ((rd_T53 l0 x12_1).f1)) * 2)) 1)] rfl (by (try simp only [List.map_toArray, List.map_cons, List.map_nil]); first | done | rfl | (simp only [List.length_drop, List.length_take]; rfl)) ?_; (with_reducible refine (spec_PutVLQ.calls k1 (Go.bits .or .u64 (IntKind.u64.wrap ((IntKind.u64.wrap ((rd_T53 l0 x12_1).f1)) * 2)) 1) t147 _ A8.out).mono ?_); rintro e w13 ⟨v148, rfl, ho0, hb⟩; refine ⟨_, rfl, ?_⟩; have n0_ := Aside0.mk (Kd.R_elder' (by (with_reducible repeat (first | apply Kd.R_alloc | apply Kd.R_drewN | apply Kd.R_drew)); exact (Kd.R_mono (Kd.R_far (p := ⟨gb146, 2, none⟩) (Kd.R_far (p := ⟨gb146, 1, none⟩) (Kd.R_far (p := ⟨gb146, 0, none⟩) (Kd.R_types HO_5.out BK146.out (by decide)) (fun _ hk => hk.2) (.bool true)) (fun _ hk => hk.2) (.int .i64 ((rd_T53 l0 x12_1).f1))) (fun _ hk => hk.2) (.slice A145_2 ((rd_T53 l0 x12_1).f2).length c145_2)) (fun _ h_ => h_.1))) (Kd.R_base ho0) hb); have n1_ := Aside0.mk (Kd.R_lower (Kd.R_new' ho0 (Kd.R_lt (by (with_reducible repeat (first | apply Kd.R_alloc | apply Kd.R_drewN | apply Kd.R_drew)); exact (Kd.R_mono (Kd.R_far (p := ⟨gb146, 2, none⟩) (Kd.R_far (p := ⟨gb146, 1, none⟩) (Kd.R_far (p := ⟨gb146, 0, none⟩) (Kd.R_types HO_5.out BK146.out (by decide)) (fun _ hk => hk.2) (.bool true)) (fun _ hk => hk.2) (.int .i64 ((rd_T53 l0 x12_1).f1))) (fun _ hk => hk.2) (.slice A145_2 ((rd_T53 l0 x12_1).f2).length c145_2)) (fun _ h_ => h_.1))))) (below_size (by repeat (first | (with_reducible first | exact HB.out | apply below_alloc | apply pw_below_drewN | apply below_drew1 | refine below_set ?_ GE146.out) | exact HB.out)))); have n2_ := Aside0.mk (blk_below (g := gb146) (o := .cells #[.bool true, .int .i64 ((rd_T53 l0 x12_1).f1), .slice A145_2 ((rd_T53 l0 x12_1).f2).length c145_2] 53 (0, 0)) (by (with_reducible repeat (first | refine blk_drewN ?_ _ | refine blk_drew ?_ | refine blk_alloc ?_ _)); refine blk_put (cs := #[.bool true, .int .i64 ((rd_T53 l0 x12_1).f1), .slice none 0 0]) ?_ 2 _ rfl; (with_reducible repeat (first | refine blk_drewN ?_ _ | refine blk_drew ?_ | refine blk_alloc ?_ _)); refine blk_put (cs := #[.bool true, .int .i64 0, .slice none 0 0]) ?_ 1 _ rfl; (with_reducible repeat (first | refine blk_drewN ?_ _ | refine blk_drew ?_ | refine blk_alloc ?_ _)); refine blk_put (cs := #[.bool false, .int .i64 0, .slice none 0 0]) ?_ 0 _ rfl; (with_reducible repeat (first | refine blk_drewN ?_ _ | refine blk_drew ?_ | refine blk_alloc ?_ _)); exact BK146.out) hb); have n3_ := Aside0.mk (below_step (by repeat (first | (with_reducible first | exact HB.out | apply below_alloc | apply pw_below_drewN | apply below_drew1 | refine below_set ?_ GE146.out) | exact HB.out)) hb); clear HO_5; clear BK146; clear HB; have HO_5 := n0_; have HO149 := n1_; have BK146 := n2_; have HB := n3_; clear n0_ n1_ n2_ n3_; (try clear hb); (try clear hb2); (try clear hk); (try clear hi); (try clear ho0); obtain ⟨Ao15, co15, eo15⟩ := Kd.R_slice HO149.out; subst eo15) | ((with_reducible refine gate_builtin (b := .append) (xs := #[.tmp 18, .tmp 24]) rfl ?_); at_builtin; refine Kd.R_append_rows (Kd.int .u8) (w0 := w) w.heap.size rfl (.tmp 18) (.tmp 24) 24 5 (.int .u8 0) 1 rfl Tryz.underlying24 info5 rfl (by decide) (by omega) u5 x5_1 t147 _ _ _ (fun k_ => some k_ ≠ (.slice Ao15 t147.length co15 : Value).ownBlock) (fun _ => False) rfl rfl ?aO ?aR (fun _ _ h => h) (fun _ h => h.elim) ?aF ?aB ?aS ?aL ?_; (case aR => repeat (first | exact (Kd.R_reads' HO149.out).2.2 | (with_reducible refine Kd.C_alloc ?_ _) | (with_reducible refine Kd.C_drewN ?_ _) | (with_reducible refine Kd.C_drew ?_))); (case aB => exact (by repeat (first | (with_reducible first | exact HB.out | apply below_alloc | apply pw_below_drewN | apply below_drew1 | refine below_set ?_ GE146.out) | exact HB.out))); (case aF => exact (fun k_ hk => Kd.fresh' (Kd.R_lt (by (with_reducible repeat (first | apply Kd.R_alloc | apply Kd.R_drewN | apply Kd.R_drew)); exact HO149.out)) k_ hk)); (case aO => exact (by (with_reducible repeat (first | apply Kd.R_alloc | apply Kd.R_drewN | apply Kd.R_drew)); exact Kd.R_mono HO_5.out (fun _ hk => hk.2))); (case aS => exact (below_size (by repeat (first | (with_reducible first | exact HB.out | apply below_alloc | apply pw_below_drewN | apply below_drew1 | refine below_set ?_ GE146.out) | exact HB.out)))); (case aL => have := LMc9.out; omega); intro v151 w14 ho hb hg hat; rw [← Ny150.out] at ho; have n0_ := Aside0.mk (blk_grown (g := gb146) (o := .cells #[.bool true, .int .i64 ((rd_T53 l0 x12_1).f1), .slice A145_2 ((rd_T53 l0 x12_1).f2).length c145_2] 53 (0, 0)) (by (with_reducible repeat (first | refine blk_drewN ?_ _ | refine blk_drew ?_ | refine blk_alloc ?_ _)); exact BK146.out) hg (Kd.R_ne HO_5.out BK146.out (by decide))); have n1_ := Aside0.mk (Kd.R_after (ok := (fun _ => True)) (by (with_reducible repeat (first | apply Kd.R_alloc | apply Kd.R_drewN | apply Kd.R_drew)); exact HO149.out) hg hat); have n2_ := Aside0.mk (hb); have n3_ := Aside0.mk (ho); clear BK146; clear HO149; clear HB; clear HO_5; have BK146 := n0_; have HO149 := n1_; have HB := n2_; have HO152 := n3_; clear n0_ n1_ n2_ n3_; clear ho hb hg hat) | ((with_reducible refine gate_dst (N := 26) rfl ?_); refine Kd.R_lit (Kd.int .u64) _ 33 ?hg (N := 26) ?hd (xs := ([] : List Int)) (inner := []) (ok := fun _ => True) (okp := fun _ => True) ?hr ?hp (fun _ hk => hk) trivial (Below.refl _ _) (Nat.le_refl _) (by simp) ?_; (case hd => rfl); (case hg => rfl); (case hr => first | (go_simp; done) | (go_simp; rfl)); (case hp => exact (Reps.none _ _)); intro v154 w16 ho17 hb hg_ hnew_; clear hg_ hnew_; (first | rw [← Ny153.out] at ho17 | (simp only [Int.reduceToNat] at ho17; rw [← Ny153.out] at ho17)); have n0_ := Aside0.mk (Kd.R_below (by (with_reducible repeat (first | apply Kd.R_alloc | apply Kd.R_drewN | apply Kd.R_drew)); exact HO149.out) hb); have n1_ := Aside0.mk (Kd.R_below (by (with_reducible repeat (first | apply Kd.R_alloc | apply Kd.R_drewN | apply Kd.R_drew)); exact HO152.out) hb); have n2_ := Aside0.mk (Kd.R_lower ho17 (below_size (by repeat (first | (with_reducible first | exact HB.out | apply below_alloc | apply pw_below_drewN | apply below_drew1 | refine below_set ?_ GE146.out) | exact HB.out)))); have n3_ := Aside0.mk (blk_below (g := gb146) (o := .cells #[.bool true, .int .i64 ((rd_T53 l0 x12_1).f1), .slice A145_2 ((rd_T53 l0 x12_1).f2).length c145_2] 53 (0, 0)) (by (with_reducible repeat (first | refine blk_drewN ?_ _ | refine blk_drew ?_ | refine blk_alloc ?_ _)); exact BK146.out) hb); have n4_ := Aside0.mk (below_step (by repeat (first | (with_reducible first | exact HB.out | apply below_alloc | apply pw_below_drewN | apply below_drew1 | refine below_set ?_ GE146.out) | exact HB.out)) hb); clear HO149; clear HO152; clear BK146; clear HB; have HO149 := n0_; have HO152 := n1_; have HO155 := n2_; have BK146 := n3_; have HB := n4_; clear n0_ n1_ n2_ n3_ n4_; clear hb ho17; have hcz18_0 : w16.cell? ⟨gb146, 0, none⟩ = some (.bool true) := (blk_cell BK146.out 0).trans rfl; have hcz18_1 : w16.cell? ⟨gb146, 1, none⟩ = some (.int .i64 ((rd_T53 l0 x12_1).f1)) := (blk_cell BK146.out 1).trans rfl; have hcz18_2 : w16.cell? ⟨gb146, 2, none⟩ = some (.slice A145_2 ((rd_T53 l0 x12_1).f2).length c145_2) := (blk_cell BK146.out 2).trans rfl; have hfz18_0 := blk_frozen BK146.out 0; have hfz18_1 := blk_frozen BK146.out 1; have hfz18_2 := blk_frozen BK146.out 2) | ((with_reducible refine gate_builtin (b := .append) (xs := #[.tmp 26, .tmp 28]) rfl ?_); at_builtin; refine Kd.R_append_rows (Kd.int .u64) (w0 := w) w.heap.size rfl (.tmp 26) (.tmp 28) 37 33 (.int .u64 0) 8 rfl Tryz.underlying37 info33 rfl (by decide) (by omega) v154 y153 ((rd_T53 l0 x12_1).f2) _ _ _ (fun _ => True) (fun _ => False) rfl rfl ?aO ?aR (fun _ _ h => h) (fun _ h => h.elim) ?aF ?aB ?aS ?aL ?_; (case aR => repeat (first | exact (Kd.C_below HR145_2.out HB.out) | (with_reducible refine Kd.C_alloc ?_ _) | (with_reducible refine Kd.C_drewN ?_ _) | (with_reducible refine Kd.C_drew ?_))); (case aB => exact (by repeat (first | (with_reducible first | exact HB.out | apply below_alloc | apply pw_below_drewN | apply below_drew1 | refine below_set ?_ GE146.out) | exact HB.out))); (case aF => exact (fun _ _ => trivial)); (case aO => exact (by (with_reducible repeat (first | apply Kd.R_alloc | apply Kd.R_drewN | apply Kd.R_drew)); exact HO155.out)); (case aS => exact (below_size (by repeat (first | (with_reducible first | exact HB.out | apply below_alloc | apply pw_below_drewN | apply below_drew1 | refine below_set ?_ GE146.out) | exact HB.out)))); (case aL => have := LMc10.out; omega); intro v157 w19 ho hb hg hat; rw [← Ny156.out] at ho; have n0_ := Aside0.mk (blk_grown (g := gb146) (o := .cells #[.bool true, .int .i64 ((rd_T53 l0 x12_1).f1), .slice A145_2 ((rd_T53 l0 x12_1).f2).length c145_2] 53 (0, 0)) (by (with_reducible repeat (first | refine blk_drewN ?_ _ | refine blk_drew ?_ | refine blk_alloc ?_ _)); exact BK146.out) hg (Kd.R_ne HO155.out BK146.out (by decide))); have n1_ := Aside0.mk (Kd.R_over' (by (with_reducible repeat (first | apply Kd.R_alloc | apply Kd.R_drewN | apply Kd.R_drew)); exact HO149.out) (Kd.R_typed (by (with_reducible repeat (first | apply Kd.R_alloc | apply Kd.R_drewN | apply Kd.R_drew)); exact HO155.out)) (by decide) hg); have n2_ := Aside0.mk (Kd.R_over' (by (with_reducible repeat (first | apply Kd.R_alloc | apply Kd.R_drewN | apply Kd.R_drew)); exact HO152.out) (Kd.R_typed (by (with_reducible repeat (first | apply Kd.R_alloc | apply Kd.R_drewN | apply Kd.R_drew)); exact HO155.out)) (by decide) hg); have n3_ := Aside0.mk (hb); have n4_ := Aside0.mk (ho); clear BK146; clear HO149; clear HO152; clear HB; clear HO155; have BK146 := n0_; have HO149 := n1_; have HO152 := n2_; have HB := n3_; have HO158 := n4_; clear n0_ n1_ n2_ n3_ n4_; clear ho hb hg hat))
                  go_loopg [8] k1 (fun kq v8 w' => ∃ (x8_2 : List Int), Aside0 (spec_PutRuns.l1 kq a1 y150 x8_2 l0 (l0.length : Int) x12_1 true ((rd_T53 l0 x12_1).f1) ((rd_T53 l0 x12_1).f2) = some r) ∧ Aside0 (kq ≤ k1) ∧ Aside0 (Kd.R (Kd.int .u8) 5 w' w.heap.size (fun _ => True) v151 y150) ∧ Aside0 (Kd.R (Kd.int .u64) 33 w' w.heap.size (fun _ => True) v8 x8_2) ∧ Aside0 (w'.heap[gb146]? = some (.cells #[.bool true, .int .i64 ((rd_T53 l0 x12_1).f1), (.slice A145_2 ((rd_T53 l0 x12_1).f2).length c145_2)] 53 (0, 0))) ∧ Aside0 (Below w.heap.size w w'))
                  case atStart => exact ⟨(y156), H', ⟨Nat.le_refl _⟩, ⟨by (with_reducible repeat (first | apply Kd.R_alloc | apply Kd.R_drewN | apply Kd.R_drew)); exact Kd.R_mono HO152.out (fun _ hk => trivial)⟩, ⟨by (with_reducible repeat (first | apply Kd.R_alloc | apply Kd.R_drewN | apply Kd.R_drew)); exact HO158.out⟩, ⟨by (with_reducible repeat (first | refine blk_drewN ?_ _ | refine blk_drew ?_ | refine blk_alloc ?_ _)); exact BK146.out⟩, ⟨by repeat (first | (with_reducible first | exact HB.out | apply below_alloc | apply pw_below_drewN | apply below_drew1 | refine below_set ?_ GE146.out) | exact HB.out)⟩⟩
                  case round =>
                    clear H'
                    try clear c1
                    try clear p1
                    try clear q1
                    try clear hx1
                    try clear p2
                    try clear c3
                    try clear c3b0
                    try clear c4
                    try clear c4b0
                    try clear c5
                    try clear c5b0
                    try clear c6
                    try clear q6
                    try clear c7
                    try clear c9
                    try clear c10
                    try clear c14
                    try clear p14
                    try clear q14
                    try clear hx14
                    try clear hcz12_0
                    try clear hcz12_1
                    try clear hcz12_2
                    try clear hcz18_0
                    try clear hcz18_1
                    try clear hcz18_2
                    try clear hfz12_0
                    try clear hfz12_1
                    try clear hfz12_2
                    try clear hfz18_0
                    try clear hfz18_1
                    try clear hfz18_2
                    try clear hx145_0
                    try clear hx145_1
                    try clear hx145_2
                    try clear p145
                    try clear p2
                    try clear q145
                    obtain ⟨x8_2, HA, HK2, HO_5, HO_8, BK146, HB⟩ := hrel
                    cases gk with
                    | zero => exact absurd HA.out (by simp [spec_PutRuns.l1])
                    | succ k2 =>
                      have H := HA.out
                      clear HA
                      simp only [spec_PutRuns.l1] at H
                      by_cases c20 : (x8_2.length : Int) < (wrap64 (8 * ((rd_T53 l0 x12_1).f1)))
                      · rw [if_pos c20] at H
                        have c20b0 : decide ((x8_2.length : Int) < (wrap64 (8 * ((rd_T53 l0 x12_1).f1)))) = true := decide_eq_true c20
                        clear c20
                        by_cases c21 : x8_2.length < 17592186044416
                        · rw [if_pos c21] at H
                          have LMc21 := Aside0.mk c21
                          clear c21
                          obtain ⟨y159, hy159⟩ : ∃ y_ : List Int, y_ = (x8_2 ++ [0]) := ⟨_, rfl⟩
                          replace H : (spec_PutRuns.l1 k2 a1 y150 y159 l0 (l0.length : Int) x12_1 true ((rd_T53 l0 x12_1).f1) ((rd_T53 l0 x12_1).f2)) = some r := by first | (rw [hy159]; with_reducible exact H) | (have H2_ := (Option.bind_some _ _).symm.trans H; rw [hy159]; with_reducible exact H2_) | (have H2_ := (Option.bind_some _ _).symm.trans H; with_reducible exact H2_) | with_reducible exact H | (rw [hy159]; exact H) | exact H
                          have Ny159 := Aside0.mk hy159
                          clear hy159
                          have H' := Aside0.mk H
                          clear H
                          obtain ⟨Ao22, co22, eo22⟩ := Kd.R_slice HO_8.out
                          subst eo22
                          have hcz23_0 : wr.cell? ⟨gb146, 0, none⟩ = some (.bool true) := (blk_cell BK146.out 0).trans rfl
                          have hcz23_1 : wr.cell? ⟨gb146, 1, none⟩ = some (.int .i64 ((rd_T53 l0 x12_1).f1)) := (blk_cell BK146.out 1).trans rfl
                          have hcz23_2 : wr.cell? ⟨gb146, 2, none⟩ = some (.slice A145_2 ((rd_T53 l0 x12_1).f2).length c145_2) := (blk_cell BK146.out 2).trans rfl
                          have hfz23_0 := blk_frozen BK146.out 0
                          have hfz23_1 := blk_frozen BK146.out 1
                          have hfz23_2 := blk_frozen BK146.out 2
                          go_wp2_with (first | ((with_reducible refine gate_builtin (b := .append) (xs := #[.tmp 36, .tmp 37]) rfl ?_); at_builtin; refine Kd.R_append (Kd.int .u64) (w0 := w) w.heap.size rfl (.tmp 36) (.tmp 37) 37 33 (.int .u64 0) 8 rfl Tryz.underlying37 info33 rfl (by decide) (by omega) (.slice Ao22 x8_2.length co22) x8_2 0 [.int .u64 0] (fun _ => True) (fun _ => False) rfl rfl ?aP (fun _ hk => hk.elim) ?aF ?aO ?aB ?aS ?aL ?_; (case aP => exact rfl); (case aB => exact (by repeat (first | (with_reducible first | exact HB.out | apply below_alloc | apply pw_below_drewN | apply below_drew1 | refine below_set ?_ GE146.out) | exact HB.out))); (case aF => exact (fun _ _ => trivial)); (case aO => exact (by (with_reducible repeat (first | apply Kd.R_alloc | apply Kd.R_drewN | apply Kd.R_drew)); exact HO_8.out)); (case aS => exact (below_size (by repeat (first | (with_reducible first | exact HB.out | apply below_alloc | apply pw_below_drewN | apply below_drew1 | refine below_set ?_ GE146.out) | exact HB.out)))); (case aL => have := LMc21.out; omega); intro v160 w24 ho hb hg hat; rw [← Ny159.out] at ho; have n0_ := Aside0.mk (Kd.R_over' (by (with_reducible repeat (first | apply Kd.R_alloc | apply Kd.R_drewN | apply Kd.R_drew)); exact HO_5.out) (Kd.R_typed (by (with_reducible repeat (first | apply Kd.R_alloc | apply Kd.R_drewN | apply Kd.R_drew)); exact HO_8.out)) (by decide) hg); have n1_ := Aside0.mk (blk_grown (g := gb146) (o := .cells #[.bool true, .int .i64 ((rd_T53 l0 x12_1).f1), .slice A145_2 ((rd_T53 l0 x12_1).f2).length c145_2] 53 (0, 0)) (by (with_reducible repeat (first | refine blk_drewN ?_ _ | refine blk_drew ?_ | refine blk_alloc ?_ _)); exact BK146.out) hg (Kd.R_ne HO_8.out BK146.out (by decide))); have n2_ := Aside0.mk (hb); have n3_ := Aside0.mk (ho); clear HO_5; clear BK146; clear HB; clear HO_8; have HO_5 := n0_; have BK146 := n1_; have HB := n2_; have HO161 := n3_; clear n0_ n1_ n2_ n3_; clear ho hb hg hat))
                          go_roundg k2
                          case measure => have := HK1.out; have := HK2.out; omega
                          case rel => exact ⟨(y159), H', ⟨by have := HK1.out; have := HK2.out; omega⟩, ⟨by (with_reducible repeat (first | apply Kd.R_alloc | apply Kd.R_drewN | apply Kd.R_drew)); exact HO_5.out⟩, ⟨by (with_reducible repeat (first | apply Kd.R_alloc | apply Kd.R_drewN | apply Kd.R_drew)); exact HO161.out⟩, ⟨by (with_reducible repeat (first | refine blk_drewN ?_ _ | refine blk_drew ?_ | refine blk_alloc ?_ _)); exact BK146.out⟩, ⟨by repeat (first | (with_reducible first | exact HB.out | apply below_alloc | apply pw_below_drewN | apply below_drew1 | refine below_set ?_ GE146.out) | exact HB.out)⟩⟩
                        · rw [if_neg c21] at H
                          exact absurd H (by simp)
                      · rw [if_neg c20] at H
                        have c20b0 : decide ((x8_2.length : Int) < (wrap64 (8 * ((rd_T53 l0 x12_1).f1)))) = false := decide_eq_false c20
                        clear c20
                        replace H := Option.bind_eq_some_iff.mp H
                        obtain ⟨t162, A250, H⟩ := H
                        replace H : (if y150.length + t162.length < 140737488355328 then (spec_PutRuns.l0 k2 a1 (y150 ++ t162) l0 (l0.length : Int) (wrap64 (x12_1 + 1))) else (none)) = some r := H
                        have A25 := Aside0.mk A250
                        clear A250
                        by_cases c26 : y150.length + t162.length < 140737488355328
                        · rw [if_pos c26] at H
                          have LMc26 := Aside0.mk c26
                          clear c26
                          obtain ⟨y165, hy165⟩ : ∃ y_ : List Int, y_ = (y150 ++ t162) := ⟨_, rfl⟩
                          replace H : (spec_PutRuns.l0 k2 a1 y165 l0 (l0.length : Int) (wrap64 (x12_1 + 1))) = some r := by first | (rw [hy165]; with_reducible exact H) | (have H2_ := (Option.bind_some _ _).symm.trans H; rw [hy165]; with_reducible exact H2_) | (have H2_ := (Option.bind_some _ _).symm.trans H; with_reducible exact H2_) | with_reducible exact H | (rw [hy165]; exact H) | exact H
                          have Ny165 := Aside0.mk hy165
                          clear hy165
                          have H' := Aside0.mk H
                          clear H
                          obtain ⟨Ao27, co27, eo27⟩ := Kd.R_slice HO_8.out
                          subst eo27
                          have hcz28_0 : wr.cell? ⟨gb146, 0, none⟩ = some (.bool true) := (blk_cell BK146.out 0).trans rfl
                          have hcz28_1 : wr.cell? ⟨gb146, 1, none⟩ = some (.int .i64 ((rd_T53 l0 x12_1).f1)) := (blk_cell BK146.out 1).trans rfl
                          have hcz28_2 : wr.cell? ⟨gb146, 2, none⟩ = some (.slice A145_2 ((rd_T53 l0 x12_1).f2).length c145_2) := (blk_cell BK146.out 2).trans rfl
                          have hfz28_0 := blk_frozen BK146.out 0
                          have hfz28_1 := blk_frozen BK146.out 1
                          have hfz28_2 := blk_frozen BK146.out 2
                          go_wp2_with (first | ((with_reducible refine gate_callee (f := 61) rfl ?_); refine goesL_ (some 42) rfl rfl Tryz.func61 (by kernel_rfl) rfl #[.slice Ao27 x8_2.length co27, .int .i64 a1] rfl (by (try simp only [List.map_toArray, List.map_cons, List.map_nil]); first | done | rfl | (simp only [List.length_drop, List.length_take]; rfl)) ?_; (with_reducible refine (spec_PackBits.calls k2 _ _ x8_2 a1 t162 _ ?side1 ?side2 A25.out).mono ?_); (case side1 => repeat (first | exact (Kd.R_reads' HO_8.out).2.2 | (with_reducible refine Kd.C_alloc ?_ _) | (with_reducible refine Kd.C_drewN ?_ _) | (with_reducible refine Kd.C_drew ?_))); (case side2 => exact (Kd.R_reads' HO_8.out).2.1); rintro e w29 ⟨v163, rfl, ho0, hb⟩; refine ⟨_, rfl, ?_⟩; have n0_ := Aside0.mk (Kd.R_elder' (by (with_reducible repeat (first | apply Kd.R_alloc | apply Kd.R_drewN | apply Kd.R_drew)); exact HO_5.out) (Kd.R_base ho0) hb); have n1_ := Aside0.mk (Kd.R_below (by (with_reducible repeat (first | apply Kd.R_alloc | apply Kd.R_drewN | apply Kd.R_drew)); exact HO_8.out) hb); have n2_ := Aside0.mk (Kd.R_lower (Kd.R_new' ho0 (Kd.R_lt (by (with_reducible repeat (first | apply Kd.R_alloc | apply Kd.R_drewN | apply Kd.R_drew)); exact HO_5.out))) (below_size (by repeat (first | (with_reducible first | exact HB.out | apply below_alloc | apply pw_below_drewN | apply below_drew1 | refine below_set ?_ GE146.out) | exact HB.out)))); have n3_ := Aside0.mk (blk_below (g := gb146) (o := .cells #[.bool true, .int .i64 ((rd_T53 l0 x12_1).f1), .slice A145_2 ((rd_T53 l0 x12_1).f2).length c145_2] 53 (0, 0)) (by (with_reducible repeat (first | refine blk_drewN ?_ _ | refine blk_drew ?_ | refine blk_alloc ?_ _)); exact BK146.out) hb); have n4_ := Aside0.mk (below_step (by repeat (first | (with_reducible first | exact HB.out | apply below_alloc | apply pw_below_drewN | apply below_drew1 | refine below_set ?_ GE146.out) | exact HB.out)) hb); clear HO_5; clear HO_8; clear BK146; clear HB; have HO_5 := n0_; have HO_8 := n1_; have HO164 := n2_; have BK146 := n3_; have HB := n4_; clear n0_ n1_ n2_ n3_ n4_; (try clear hb); (try clear hb2); (try clear hk); (try clear hi); (try clear ho0); obtain ⟨Ao31, co31, eo31⟩ := Kd.R_slice HO164.out; subst eo31) | ((with_reducible refine gate_builtin (b := .append) (xs := #[.tmp 39, .tmp 42]) rfl ?_); at_builtin; refine Kd.R_append_rows (Kd.int .u8) (w0 := w) w.heap.size rfl (.tmp 39) (.tmp 42) 24 5 (.int .u8 0) 1 rfl Tryz.underlying24 info5 rfl (by decide) (by omega) v151 y150 t162 _ _ _ (fun k_ => some k_ ≠ (.slice Ao31 t162.length co31 : Value).ownBlock) (fun _ => False) rfl rfl ?aO ?aR (fun _ _ h => h) (fun _ h => h.elim) ?aF ?aB ?aS ?aL ?_; (case aR => repeat (first | exact (Kd.R_reads' HO164.out).2.2 | (with_reducible refine Kd.C_alloc ?_ _) | (with_reducible refine Kd.C_drewN ?_ _) | (with_reducible refine Kd.C_drew ?_))); (case aB => exact (by repeat (first | (with_reducible first | exact HB.out | apply below_alloc | apply pw_below_drewN | apply below_drew1 | refine below_set ?_ GE146.out) | exact HB.out))); (case aF => exact (fun k_ hk => Kd.fresh' (Kd.R_lt (by (with_reducible repeat (first | apply Kd.R_alloc | apply Kd.R_drewN | apply Kd.R_drew)); exact HO164.out)) k_ hk)); (case aO => exact (by (with_reducible repeat (first | apply Kd.R_alloc | apply Kd.R_drewN | apply Kd.R_drew)); exact Kd.R_mono HO_5.out (fun _ hk => hk.2))); (case aS => exact (below_size (by repeat (first | (with_reducible first | exact HB.out | apply below_alloc | apply pw_below_drewN | apply below_drew1 | refine below_set ?_ GE146.out) | exact HB.out)))); (case aL => have := LMc26.out; omega); intro v166 w30 ho hb hg hat; rw [← Ny165.out] at ho; have n0_ := Aside0.mk (Kd.R_over' (by (with_reducible repeat (first | apply Kd.R_alloc | apply Kd.R_drewN | apply Kd.R_drew)); exact HO_8.out) (Kd.R_typed (by (with_reducible repeat (first | apply Kd.R_alloc | apply Kd.R_drewN | apply Kd.R_drew)); exact HO_5.out)) (by decide) hg); have n1_ := Aside0.mk (blk_grown (g := gb146) (o := .cells #[.bool true, .int .i64 ((rd_T53 l0 x12_1).f1), .slice A145_2 ((rd_T53 l0 x12_1).f2).length c145_2] 53 (0, 0)) (by (with_reducible repeat (first | refine blk_drewN ?_ _ | refine blk_drew ?_ | refine blk_alloc ?_ _)); exact BK146.out) hg (Kd.R_ne HO_5.out BK146.out (by decide))); have n2_ := Aside0.mk (Kd.R_after (ok := (fun _ => True)) (by (with_reducible repeat (first | apply Kd.R_alloc | apply Kd.R_drewN | apply Kd.R_drew)); exact HO164.out) hg hat); have n3_ := Aside0.mk (hb); have n4_ := Aside0.mk (ho); clear HO_8; clear BK146; clear HO164; clear HB; clear HO_5; have HO_8 := n0_; have BK146 := n1_; have HO164 := n2_; have HB := n3_; have HO167 := n4_; clear n0_ n1_ n2_ n3_ n4_; clear ho hb hg hat))
                          go_roundg k2
                          case measure => have := HK1.out; have := HK2.out; omega
                          case rel => exact ⟨(y165), (wrap64 (x12_1 + 1)), (by first | rfl | (simp; done) | (simp [*]; done)), H', ⟨by have := HK1.out; have := HK2.out; omega⟩, ⟨by (with_reducible repeat (first | apply Kd.R_alloc | apply Kd.R_drewN | apply Kd.R_drew)); exact Kd.R_mono HO167.out (fun _ hk => trivial)⟩, ⟨by repeat (first | (with_reducible first | exact HB.out | apply below_alloc | apply pw_below_drewN | apply below_drew1 | refine below_set ?_ GE146.out) | exact HB.out)⟩⟩
                        · rw [if_neg c26] at H
                          exact absurd H (by simp)
                · rw [if_neg c10] at H
                  exact absurd H (by simp)
              · rw [if_neg c9] at H
                exact absurd H (by simp)
            · replace c7 := Bool.eq_false_iff.mpr c7
              subst c7
              have H1 : ((spec_PutVLQ.f k1 (IntKind.u64.wrap ((IntKind.u64.wrap ((rd_T53 l0 x12_1).f1)) * 2))).bind fun t168 => (if x5_1.length + t168.length < 140737488355328 then (spec_PutRuns.l2 k1 a1 (x5_1 ++ t168) 0 l0 (l0.length : Int) x12_1 false ((rd_T53 l0 x12_1).f1) ((rd_T53 l0 x12_1).f2)) else (none))) = some r := by rw [if_neg (show ¬ (false = true) by decide)] at H; exact H
              clear H
              have H := H1
              clear H1
              replace H := Option.bind_eq_some_iff.mp H
              obtain ⟨t168, A320, H⟩ := H
              replace H : (if x5_1.length + t168.length < 140737488355328 then (spec_PutRuns.l2 k1 a1 (x5_1 ++ t168) 0 l0 (l0.length : Int) x12_1 false ((rd_T53 l0 x12_1).f1) ((rd_T53 l0 x12_1).f2)) else (none)) = some r := H
              have A32 := Aside0.mk A320
              clear A320
              by_cases c33 : x5_1.length + t168.length < 140737488355328
              · rw [if_pos c33] at H
                have LMc33 := Aside0.mk c33
                clear c33
                obtain ⟨y171, hy171⟩ : ∃ y_ : List Int, y_ = (x5_1 ++ t168) := ⟨_, rfl⟩
                replace H : (spec_PutRuns.l2 k1 a1 y171 0 l0 (l0.length : Int) x12_1 false ((rd_T53 l0 x12_1).f1) ((rd_T53 l0 x12_1).f2)) = some r := by first | (rw [hy171]; with_reducible exact H) | (have H2_ := (Option.bind_some _ _).symm.trans H; rw [hy171]; with_reducible exact H2_) | (have H2_ := (Option.bind_some _ _).symm.trans H; with_reducible exact H2_) | with_reducible exact H | (rw [hy171]; exact H) | exact H
                have Ny171 := Aside0.mk hy171
                clear hy171
                have H' := Aside0.mk H
                clear H
                have p145 : 0 ≤ (x12_1 : Int) := of_decide_eq_true (by first | (with_reducible assumption) | assumption)
                have q145 : x12_1 < (l0.length : Int) := of_decide_eq_true (by first | (with_reducible assumption) | assumption)
                obtain ⟨ad145, A145_2, c145_2, e145, hx145_0, hx145_1, hx145_2, hl145_2, hi145_2⟩ := at_T53 HR0.out x12_1 p145 q145
                (try rw [← Nbq6.out] at hx145_0)
                cases e145
                replace hx145_0 := (HB.out.cell (World.block_lt_of_cell? w _ hx145_0)).trans hx145_0
                replace hx145_1 := (HB.out.cell (World.block_lt_of_cell? w _ hx145_1)).trans hx145_1
                replace hx145_2 := (HB.out.cell (World.block_lt_of_cell? w _ hx145_2)).trans hx145_2
                have HR145_2 := Aside0.mk hi145_2
                have HC145_2 := Aside0.mk hl145_2
                clear hi145_2 hl145_2
                replace p145 := eq_true p145
                replace q145 := eq_true q145
                go_wp2_with (first | ((with_reducible refine gate_dst (N := 7) rfl ?_); refine box_event ?hg (N := 7) ?hd (cs := #[.bool false, .int .i64 0, .slice none 0 0]) (t := 53) ?hr ?_; (case hd => rfl); (case hg => rfl); (case hr => first | (go_simp; done) | (go_simp; rfl)); intro gb146 hg w34 hbox hb; have n0_ := Aside0.mk (Kd.R_below (by (with_reducible repeat (first | apply Kd.R_alloc | apply Kd.R_drewN | apply Kd.R_drew)); exact HO_5.out) hb); have n1_ := Aside0.mk (below_step (by repeat (first | (with_reducible first | exact HB.out | apply below_alloc | apply pw_below_drewN | apply below_drew1) | exact HB.out)) hb); have n2_ := Aside0.mk (hbox); have n3_ := Aside0.mk ((by rw [hg]; exact (below_size (by repeat (first | (with_reducible first | exact HB.out | apply below_alloc | apply pw_below_drewN | apply below_drew1) | exact HB.out))) : w.heap.size ≤ gb146)); have n4_ := Aside0.mk ((by rw [hg]; exact (below_size (by repeat (first | (with_reducible first | exact HB.out | apply below_alloc | apply pw_below_drewN | apply below_drew1) | exact HB.out))) : w.heap.size ≤ gb146)); clear HO_5; clear HB; have HO_5 := n0_; have HB := n1_; have BK146 := n2_; have GW146 := n3_; have GE146 := n4_; clear n0_ n1_ n2_ n3_ n4_; clear hb hbox hg; have hcz35_0 : w34.cell? ⟨gb146, 0, none⟩ = some (.bool false) := (blk_cell BK146.out 0).trans rfl; have hcz35_1 : w34.cell? ⟨gb146, 1, none⟩ = some (.int .i64 0) := (blk_cell BK146.out 1).trans rfl; have hcz35_2 : w34.cell? ⟨gb146, 2, none⟩ = some (.slice none 0 0) := (blk_cell BK146.out 2).trans rfl; have hfz35_0 := blk_frozen BK146.out 0; have hfz35_1 := blk_frozen BK146.out 1; have hfz35_2 := blk_frozen BK146.out 2) | ((with_reducible refine gate_callee (f := 60) rfl ?_); refine goesL_ (some 49) rfl rfl Tryz.func60 (by kernel_rfl) rfl #[.int .u64 (IntKind.u64.wrap ((IntKind.u64.wrap ((rd_T53 l0 x12_1).f1)) * 2))] rfl (by (try simp only [List.map_toArray, List.map_cons, List.map_nil]); first | done | rfl | (simp only [List.length_drop, List.length_take]; rfl)) ?_; (with_reducible refine (spec_PutVLQ.calls k1 (IntKind.u64.wrap ((IntKind.u64.wrap ((rd_T53 l0 x12_1).f1)) * 2)) t168 _ A32.out).mono ?_); rintro e w36 ⟨v169, rfl, ho0, hb⟩; refine ⟨_, rfl, ?_⟩; have n0_ := Aside0.mk (Kd.R_elder' (by (with_reducible repeat (first | apply Kd.R_alloc | apply Kd.R_drewN | apply Kd.R_drew)); exact (Kd.R_mono (Kd.R_far (p := ⟨gb146, 2, none⟩) (Kd.R_far (p := ⟨gb146, 1, none⟩) (Kd.R_far (p := ⟨gb146, 0, none⟩) (Kd.R_types HO_5.out BK146.out (by decide)) (fun _ hk => hk.2) (.bool false)) (fun _ hk => hk.2) (.int .i64 ((rd_T53 l0 x12_1).f1))) (fun _ hk => hk.2) (.slice A145_2 ((rd_T53 l0 x12_1).f2).length c145_2)) (fun _ h_ => h_.1))) (Kd.R_base ho0) hb); have n1_ := Aside0.mk (Kd.R_lower (Kd.R_new' ho0 (Kd.R_lt (by (with_reducible repeat (first | apply Kd.R_alloc | apply Kd.R_drewN | apply Kd.R_drew)); exact (Kd.R_mono (Kd.R_far (p := ⟨gb146, 2, none⟩) (Kd.R_far (p := ⟨gb146, 1, none⟩) (Kd.R_far (p := ⟨gb146, 0, none⟩) (Kd.R_types HO_5.out BK146.out (by decide)) (fun _ hk => hk.2) (.bool false)) (fun _ hk => hk.2) (.int .i64 ((rd_T53 l0 x12_1).f1))) (fun _ hk => hk.2) (.slice A145_2 ((rd_T53 l0 x12_1).f2).length c145_2)) (fun _ h_ => h_.1))))) (below_size (by repeat (first | (with_reducible first | exact HB.out | apply below_alloc | apply pw_below_drewN | apply below_drew1 | refine below_set ?_ GE146.out) | exact HB.out)))); have n2_ := Aside0.mk (blk_below (g := gb146) (o := .cells #[.bool false, .int .i64 ((rd_T53 l0 x12_1).f1), .slice A145_2 ((rd_T53 l0 x12_1).f2).length c145_2] 53 (0, 0)) (by (with_reducible repeat (first | refine blk_drewN ?_ _ | refine blk_drew ?_ | refine blk_alloc ?_ _)); refine blk_put (cs := #[.bool false, .int .i64 ((rd_T53 l0 x12_1).f1), .slice none 0 0]) ?_ 2 _ rfl; (with_reducible repeat (first | refine blk_drewN ?_ _ | refine blk_drew ?_ | refine blk_alloc ?_ _)); refine blk_put (cs := #[.bool false, .int .i64 0, .slice none 0 0]) ?_ 1 _ rfl; (with_reducible repeat (first | refine blk_drewN ?_ _ | refine blk_drew ?_ | refine blk_alloc ?_ _)); refine blk_put (cs := #[.bool false, .int .i64 0, .slice none 0 0]) ?_ 0 _ rfl; (with_reducible repeat (first | refine blk_drewN ?_ _ | refine blk_drew ?_ | refine blk_alloc ?_ _)); exact BK146.out) hb); have n3_ := Aside0.mk (below_step (by repeat (first | (with_reducible first | exact HB.out | apply below_alloc | apply pw_below_drewN | apply below_drew1 | refine below_set ?_ GE146.out) | exact HB.out)) hb); clear HO_5; clear BK146; clear HB; have HO_5 := n0_; have HO170 := n1_; have BK146 := n2_; have HB := n3_; clear n0_ n1_ n2_ n3_; (try clear hb); (try clear hb2); (try clear hk); (try clear hi); (try clear ho0); obtain ⟨Ao38, co38, eo38⟩ := Kd.R_slice HO170.out; subst eo38) | ((with_reducible refine gate_builtin (b := .append) (xs := #[.tmp 44, .tmp 49]) rfl ?_); at_builtin; refine Kd.R_append_rows (Kd.int .u8) (w0 := w) w.heap.size rfl (.tmp 44) (.tmp 49) 24 5 (.int .u8 0) 1 rfl Tryz.underlying24 info5 rfl (by decide) (by omega) u5 x5_1 t168 _ _ _ (fun k_ => some k_ ≠ (.slice Ao38 t168.length co38 : Value).ownBlock) (fun _ => False) rfl rfl ?aO ?aR (fun _ _ h => h) (fun _ h => h.elim) ?aF ?aB ?aS ?aL ?_; (case aR => repeat (first | exact (Kd.R_reads' HO170.out).2.2 | (with_reducible refine Kd.C_alloc ?_ _) | (with_reducible refine Kd.C_drewN ?_ _) | (with_reducible refine Kd.C_drew ?_))); (case aB => exact (by repeat (first | (with_reducible first | exact HB.out | apply below_alloc | apply pw_below_drewN | apply below_drew1 | refine below_set ?_ GE146.out) | exact HB.out))); (case aF => exact (fun k_ hk => Kd.fresh' (Kd.R_lt (by (with_reducible repeat (first | apply Kd.R_alloc | apply Kd.R_drewN | apply Kd.R_drew)); exact HO170.out)) k_ hk)); (case aO => exact (by (with_reducible repeat (first | apply Kd.R_alloc | apply Kd.R_drewN | apply Kd.R_drew)); exact Kd.R_mono HO_5.out (fun _ hk => hk.2))); (case aS => exact (below_size (by repeat (first | (with_reducible first | exact HB.out | apply below_alloc | apply pw_below_drewN | apply below_drew1 | refine below_set ?_ GE146.out) | exact HB.out)))); (case aL => have := LMc33.out; omega); intro v172 w37 ho hb hg hat; rw [← Ny171.out] at ho; have n0_ := Aside0.mk (blk_grown (g := gb146) (o := .cells #[.bool false, .int .i64 ((rd_T53 l0 x12_1).f1), .slice A145_2 ((rd_T53 l0 x12_1).f2).length c145_2] 53 (0, 0)) (by (with_reducible repeat (first | refine blk_drewN ?_ _ | refine blk_drew ?_ | refine blk_alloc ?_ _)); exact BK146.out) hg (Kd.R_ne HO_5.out BK146.out (by decide))); have n1_ := Aside0.mk (Kd.R_after (ok := (fun _ => True)) (by (with_reducible repeat (first | apply Kd.R_alloc | apply Kd.R_drewN | apply Kd.R_drew)); exact HO170.out) hg hat); have n2_ := Aside0.mk (hb); have n3_ := Aside0.mk (ho); clear BK146; clear HO170; clear HB; clear HO_5; have BK146 := n0_; have HO170 := n1_; have HB := n2_; have HO173 := n3_; clear n0_ n1_ n2_ n3_; clear ho hb hg hat))
                go_loopg [5, 9] k1 (fun kq v5 v9 w' => ∃ (x5_2 : List Int) (x9_2 : Int), v9 = .int .i64 x9_2 ∧ Aside0 (spec_PutRuns.l2 kq a1 x5_2 x9_2 l0 (l0.length : Int) x12_1 false ((rd_T53 l0 x12_1).f1) ((rd_T53 l0 x12_1).f2) = some r) ∧ Aside0 (kq ≤ k1) ∧ Aside0 (Kd.R (Kd.int .u8) 5 w' w.heap.size (fun _ => True) v5 x5_2) ∧ Aside0 (w'.heap[gb146]? = some (.cells #[.bool false, .int .i64 ((rd_T53 l0 x12_1).f1), (.slice A145_2 ((rd_T53 l0 x12_1).f2).length c145_2)] 53 (0, 0))) ∧ Aside0 (Below w.heap.size w w'))
                case atStart => exact ⟨(y171), (0), (by first | rfl | (simp; done) | (simp [*]; done)), H', ⟨Nat.le_refl _⟩, ⟨by (with_reducible repeat (first | apply Kd.R_alloc | apply Kd.R_drewN | apply Kd.R_drew)); exact Kd.R_mono HO173.out (fun _ hk => trivial)⟩, ⟨by (with_reducible repeat (first | refine blk_drewN ?_ _ | refine blk_drew ?_ | refine blk_alloc ?_ _)); exact BK146.out⟩, ⟨by repeat (first | (with_reducible first | exact HB.out | apply below_alloc | apply pw_below_drewN | apply below_drew1 | refine below_set ?_ GE146.out) | exact HB.out)⟩⟩
                case round =>
                  clear H'
                  try clear c1
                  try clear p1
                  try clear q1
                  try clear hx1
                  try clear c2
                  try clear p2
                  try clear c3
                  try clear c3b0
                  try clear c4
                  try clear c4b0
                  try clear c5
                  try clear c5b0
                  try clear c6
                  try clear p6
                  try clear q6
                  try clear c7
                  try clear c9
                  try clear c10
                  try clear c14
                  try clear p14
                  try clear q14
                  try clear hx14
                  try clear c20
                  try clear c20b0
                  try clear c21
                  try clear c26
                  try clear c33
                  try clear hcz12_0
                  try clear hcz12_1
                  try clear hcz12_2
                  try clear hcz18_0
                  try clear hcz18_1
                  try clear hcz18_2
                  try clear hcz23_0
                  try clear hcz23_1
                  try clear hcz23_2
                  try clear hcz28_0
                  try clear hcz28_1
                  try clear hcz28_2
                  try clear hcz35_0
                  try clear hcz35_1
                  try clear hcz35_2
                  try clear hfz12_0
                  try clear hfz12_1
                  try clear hfz12_2
                  try clear hfz18_0
                  try clear hfz18_1
                  try clear hfz18_2
                  try clear hfz23_0
                  try clear hfz23_1
                  try clear hfz23_2
                  try clear hfz28_0
                  try clear hfz28_1
                  try clear hfz28_2
                  try clear hfz35_0
                  try clear hfz35_1
                  try clear hfz35_2
                  try clear hx145_0
                  try clear hx145_1
                  try clear hx145_2
                  try clear p1
                  try clear p14
                  try clear p145
                  try clear p2
                  try clear q1
                  try clear q14
                  try clear q145
                  try clear q6
                  obtain ⟨x5_2, x9_2, rfl, HA, HK2, HO_5, BK146, HB⟩ := hrel
                  cases gk with
                  | zero => exact absurd HA.out (by simp [spec_PutRuns.l2])
                  | succ k2 =>
                    have H := HA.out
                    clear HA
                    simp only [spec_PutRuns.l2] at H
                    by_cases c39 : x9_2 < (wrap64 (Int.tdiv (wrap64 (a1 + 7)) 8))
                    · rw [if_pos c39] at H
                      have c39b0 : decide (x9_2 < (wrap64 (Int.tdiv (wrap64 (a1 + 7)) 8))) = true := decide_eq_true c39
                      clear c39
                      by_cases c40 : 0 < (((rd_T53 l0 x12_1).f2).length : Int)
                      · rw [if_pos c40] at H
                        have c40b0 : decide (0 < (((rd_T53 l0 x12_1).f2).length : Int)) = true := decide_eq_true c40
                        have c40b1 : decide (0 < ((rd_T53 l0 x12_1).f2).length) = true := decide_eq_true (by omega)
                        clear c40
                        obtain ⟨ji41, hji41⟩ : ∃ j_ : Int, (wrap64 (8 * x9_2)) = j_ := ⟨_, rfl⟩
                        replace H : (if 0 ≤ (ji41) then (if x5_2.length < 140737488355328 then (spec_PutRuns.l2 k2 a1 (x5_2 ++ [(shr .u64 (rd ((rd_T53 l0 x12_1).f2) 0) (ji41)) % 256]) (wrap64 (x9_2 + 1)) l0 (l0.length : Int) x12_1 false ((rd_T53 l0 x12_1).f1) ((rd_T53 l0 x12_1).f2)) else (none)) else (none)) = some r := by first | (rw [hji41] at H; exact H) | (simp only [hji41] at H ⊢; exact H)
                        have hji41w : (IntKind.i64.wrap (8 * x9_2)) = ji41 := (i64_w _).trans hji41
                        by_cases c42 : 0 ≤ (ji41)
                        · rw [if_pos c42] at H
                          have c42b0 := eq_true c42
                          have c42b1 : decide (0 ≤ (ji41)) = true := decide_eq_true c42
                          clear c42
                          obtain ⟨ji43, hji43⟩ : ∃ j_ : Int, (shr .u64 (rd ((rd_T53 l0 x12_1).f2) 0) (ji41)) = j_ := ⟨_, rfl⟩
                          replace H : (if x5_2.length < 140737488355328 then (spec_PutRuns.l2 k2 a1 (x5_2 ++ [(ji43) % 256]) (wrap64 (x9_2 + 1)) l0 (l0.length : Int) x12_1 false ((rd_T53 l0 x12_1).f1) ((rd_T53 l0 x12_1).f2)) else (none)) = some r := by first | (rw [hji43] at H; exact H) | (simp only [hji43] at H ⊢; exact H)
                          have hji43_ : ((rd ((rd_T53 l0 x12_1).f2) 0) / 2 ^ min (ji41).toNat 64) = ji43 := hji43
                          have hji43z : (ji41) ≤ 64 → ((rd ((rd_T53 l0 x12_1).f2) 0) / 2 ^ (ji41).toNat) = ji43 := shr_small hji43
                          by_cases c44 : x5_2.length < 140737488355328
                          · rw [if_pos c44] at H
                            have LMc44 := Aside0.mk c44
                            clear c44
                            obtain ⟨y175, hy175⟩ : ∃ y_ : List Int, y_ = (x5_2 ++ [(ji43) % 256]) := ⟨_, rfl⟩
                            replace H : (spec_PutRuns.l2 k2 a1 y175 (wrap64 (x9_2 + 1)) l0 (l0.length : Int) x12_1 false ((rd_T53 l0 x12_1).f1) ((rd_T53 l0 x12_1).f2)) = some r := by first | (rw [hy175]; with_reducible exact H) | (have H2_ := (Option.bind_some _ _).symm.trans H; rw [hy175]; with_reducible exact H2_) | (have H2_ := (Option.bind_some _ _).symm.trans H; with_reducible exact H2_) | with_reducible exact H | (rw [hy175]; exact H) | exact H
                            have Ny175 := Aside0.mk hy175
                            clear hy175
                            have H' := Aside0.mk H
                            clear H
                            have hcz45_0 : wr.cell? ⟨gb146, 0, none⟩ = some (.bool false) := (blk_cell BK146.out 0).trans rfl
                            have hcz45_1 : wr.cell? ⟨gb146, 1, none⟩ = some (.int .i64 ((rd_T53 l0 x12_1).f1)) := (blk_cell BK146.out 1).trans rfl
                            have hcz45_2 : wr.cell? ⟨gb146, 2, none⟩ = some (.slice A145_2 ((rd_T53 l0 x12_1).f2).length c145_2) := (blk_cell BK146.out 2).trans rfl
                            have hfz45_0 := blk_frozen BK146.out 0
                            have hfz45_1 := blk_frozen BK146.out 1
                            have hfz45_2 := blk_frozen BK146.out 2
                            have p174 : 0 ≤ (0 : Int) := (by omega)
                            have q174 : 0 < (((rd_T53 l0 x12_1).f2).length : Int) := of_decide_eq_true (by first | (with_reducible assumption) | assumption)
                            obtain ⟨ad174, e174, hx174_0⟩ := Kd.at_int HR145_2.out 0 p174 q174
                            cases e174
                            have qi174 : (0 < ((rd_T53 l0 x12_1).f2).length) = True := eq_true (by omega)
                            (try rw [show ((0 : Int)).toNat = 0 from rfl] at hx174_0)
                            (try rw [Addr.add_zero'] at hx174_0)
                            replace hx174_0 := (HB.out.cell (World.block_lt_of_cell? w _ hx174_0)).trans hx174_0
                            replace p174 := eq_true p174
                            replace q174 := eq_true q174
                            go_wp2_with (first | ((with_reducible refine gate_builtin (b := .append) (xs := #[.tmp 58, .tmp 67]) rfl ?_); at_builtin; refine Kd.R_append (Kd.int .u8) (w0 := w) w.heap.size rfl (.tmp 58) (.tmp 67) 24 5 (.int .u8 0) 1 rfl Tryz.underlying24 info5 rfl (by decide) (by omega) u5 x5_2 ((ji43) % 256) [.int .u8 ((ji43) % 256)] (fun _ => True) (fun _ => False) rfl rfl ?aP (fun _ hk => hk.elim) ?aF ?aO ?aB ?aS ?aL ?_; (case aP => exact rfl); (case aB => exact (by repeat (first | (with_reducible first | exact HB.out | apply below_alloc | apply pw_below_drewN | apply below_drew1 | refine below_set ?_ GE146.out) | exact HB.out))); (case aF => exact (fun _ _ => trivial)); (case aO => exact (by (with_reducible repeat (first | apply Kd.R_alloc | apply Kd.R_drewN | apply Kd.R_drew)); exact HO_5.out)); (case aS => exact (below_size (by repeat (first | (with_reducible first | exact HB.out | apply below_alloc | apply pw_below_drewN | apply below_drew1 | refine below_set ?_ GE146.out) | exact HB.out)))); (case aL => have := LMc44.out; omega); intro v176 w46 ho hb hg hat; rw [← Ny175.out] at ho; have n0_ := Aside0.mk (blk_grown (g := gb146) (o := .cells #[.bool false, .int .i64 ((rd_T53 l0 x12_1).f1), .slice (some ad174) ((rd_T53 l0 x12_1).f2).length c145_2] 53 (0, 0)) (by (with_reducible repeat (first | refine blk_drewN ?_ _ | refine blk_drew ?_ | refine blk_alloc ?_ _)); exact BK146.out) hg (Kd.R_ne HO_5.out BK146.out (by decide))); have n1_ := Aside0.mk (hb); have n2_ := Aside0.mk (ho); clear BK146; clear HB; clear HO_5; have BK146 := n0_; have HB := n1_; have HO177 := n2_; clear n0_ n1_ n2_; clear ho hb hg hat))
                            go_roundg k2
                            case measure => have := HK1.out; have := HK2.out; omega
                            case rel => exact ⟨(y175), (wrap64 (x9_2 + 1)), (by first | rfl | (simp; done) | (simp [*]; done)), H', ⟨by have := HK1.out; have := HK2.out; omega⟩, ⟨by (with_reducible repeat (first | apply Kd.R_alloc | apply Kd.R_drewN | apply Kd.R_drew)); exact HO177.out⟩, ⟨by (with_reducible repeat (first | refine blk_drewN ?_ _ | refine blk_drew ?_ | refine blk_alloc ?_ _)); exact BK146.out⟩, ⟨by repeat (first | (with_reducible first | exact HB.out | apply below_alloc | apply pw_below_drewN | apply below_drew1 | refine below_set ?_ GE146.out) | exact HB.out)⟩⟩
                          · rw [if_neg c44] at H
                            exact absurd H (by simp)
                        · rw [if_neg c42] at H
                          exact absurd H (by simp)
                      · rw [if_neg c40] at H
                        exact absurd H (by simp)
                    · rw [if_neg c39] at H
                      have c39b0 : decide (x9_2 < (wrap64 (Int.tdiv (wrap64 (a1 + 7)) 8))) = false := decide_eq_false c39
                      clear c39
                      have H' := Aside0.mk H
                      clear H
                      go_wp2
                      go_roundg k2
                      case measure => have := HK1.out; have := HK2.out; omega
                      case rel => exact ⟨(x5_2), (wrap64 (x12_1 + 1)), (by first | rfl | (simp; done) | (simp [*]; done)), H', ⟨by have := HK1.out; have := HK2.out; omega⟩, ⟨by (with_reducible repeat (first | apply Kd.R_alloc | apply Kd.R_drewN | apply Kd.R_drew)); exact HO_5.out⟩, ⟨by repeat (first | (with_reducible first | exact HB.out | apply below_alloc | apply pw_below_drewN | apply below_drew1 | refine below_set ?_ GE146.out) | exact HB.out)⟩⟩
              · rw [if_neg c33] at H
                exact absurd H (by simp)
          · rw [if_neg c5] at H
            exact absurd H (by simp)
        · rw [if_neg c4] at H
          exact absurd H (by simp)
      · rw [if_neg c3] at H
        have c3b0 : decide (x12_1 < (l0.length : Int)) = false := decide_eq_false c3
        clear c3
        obtain rfl := Option.some.inj H
        go_wp2
        go_ret
        exact ⟨_, by first | rfl | (simp [errW_none, errW_some] <;> rfl) | (simp [*, errW_none, errW_some] <;> rfl), by (with_reducible repeat (first | apply Kd.R_alloc | apply Kd.R_drewN | apply Kd.R_drew)); exact HO_5.out, by repeat (first | (with_reducible first | exact HB.out | apply below_alloc | apply pw_below_drewN | apply below_drew1) | exact HB.out)⟩
def laws_byIndex.j0 : Nat → List (S53) → Int → Bool → Option (List Int × List Int × Bool)
  | 0, _, _, _ => none
  | k + 1, x0, x1, x14 => if x14 = true then (some (([] : List Int), ([] : List Int), false)) else ((spec_RunsFit.f k x0 x1).bind fun bt178 => (if bt178.2 = true then ((some (([(x1) % 256] : List Int) : List Int)).bind fun y182 => ((spec_PutRuns.f k x0 x1).bind fun t185 => (if y182.length + t185.length < 140737488355328 then (some ((y182 ++ t185), bt178.1, true)) else (none)))) else (some (([] : List Int), ([] : List Int), false))))
def laws_byIndex.f (k : Nat) (l0 : List (S53)) (a1 : Int) : Option (List Int × List Int × Bool) := if a1 < 1 then (laws_byIndex.j0 k l0 a1 true) else (laws_byIndex.j0 k l0 a1 (decide (a1 > 20)))
theorem laws_byIndex.mono_l : ∀ k, (∀ y0 y1 y2, LeO (laws_byIndex.j0 k y0 y1 y2) (laws_byIndex.j0 (k + 1) y0 y1 y2))
  | 0 => fun _ _ _ r h => by simp [laws_byIndex.j0] at h
  | k + 1 => by
    have ih0 := laws_byIndex.mono_l k
    · intro y0 y1 y2
      unfold laws_byIndex.j0
      repeat' first
      | (with_reducible exact ih0 _ _ _)
      | (with_reducible exact spec_PutRuns.mono _ _ _)
      | (with_reducible exact spec_RunsFit.mono _ _ _)
      | (with_reducible exact LeO.refl _)
      | (with_reducible exact LeO.none _)
      | (with_reducible refine LeO.ite ?_ ?_)
      | (with_reducible refine LeO.bind ?_ (fun _ => ?_))
      | exact ih0 _ _ _
      | exact spec_PutRuns.mono _ _ _
      | exact spec_RunsFit.mono _ _ _
      | exact LeO.none _
      | refine LeO.ite ?_ ?_
      | refine LeO.bind ?_ (fun _ => ?_)
theorem laws_byIndex.mono : ∀ a0 a1 k, LeO (laws_byIndex.f k a0 a1) (laws_byIndex.f (k + 1) a0 a1) := by
  intro a0 a1 k
  have ih0 := laws_byIndex.mono_l k
  unfold laws_byIndex.f
  repeat' first
      | (with_reducible exact ih0 _ _ _)
      | (with_reducible exact spec_PutRuns.mono _ _ _)
      | (with_reducible exact spec_RunsFit.mono _ _ _)
      | (with_reducible exact LeO.refl _)
      | (with_reducible exact LeO.none _)
      | (with_reducible refine LeO.ite ?_ ?_)
      | (with_reducible refine LeO.bind ?_ (fun _ => ?_))
      | exact ih0 _ _ _
      | exact spec_PutRuns.mono _ _ _
      | exact spec_RunsFit.mono _ _ _
      | exact LeO.none _
      | refine LeO.ite ?_ ?_
      | refine LeO.bind ?_ (fun _ => ?_)
set_option maxHeartbeats 8000000 in
set_option maxRecDepth 100000 in
theorem laws_byIndex.calls (k : Nat) (A0 : Option Addr) (c0 : Nat) (l0 : List (S53)) (a1 : Int) (r1 : List Int) (r2 : List Int) (r3 : Bool) (w : World) (hr0 : Kd.C k53 w A0 l0.length l0) (hc0 : l0.length ≤ c0) (h : laws_byIndex.f k l0 a1 = some (r1, r2, r3)) :
    Calls Tryz.prog 10 #[.slice A0 l0.length c0, .int .i64 a1] w fun e w' => ∃ v0_ v1_ : Value, e = .returned (.tuple #[v0_, v1_, .bool r3]) ∧ Kd.R (Kd.int .u8) 5 w' w.heap.size (fun _ => True) v0_ r1 ∧ Kd.R (Kd.int .u64) 33 w' w.heap.size (fun _ => True) v1_ r2 ∧ Below w.heap.size w w' := by
  have HR0 := Aside0.mk hr0
  have HC0 := Aside0.mk hc0
  clear hr0 hc0
  have HB := Aside0.mk (Below.refl w.heap.size w)
  have H : (if a1 < 1 then (laws_byIndex.j0 k l0 a1 true) else (laws_byIndex.j0 k l0 a1 (decide (a1 > 20)))) = some (r1, r2, r3) := h
  clear h
  have HC3 := Aside0.mk H
  clear H
  go_enter Tryz.func10, Tryz.ntmps10
  go_upto_region 1 with (fail)
  go_cut [14] (fun v14 wc => ∃ (kq : Nat) (x14_2 : Bool), v14 = .bool x14_2 ∧ Aside0 (laws_byIndex.j0 kq l0 a1 x14_2 = some (r1, r2, r3)) ∧ Aside0 (kq ≤ k) ∧ Aside0 (Below w.heap.size w wc))
  case first =>
    have H := HC3.out
    clear HC3
    by_cases c4 : a1 < 1
    · rw [if_pos c4] at H
      have c4b0 : decide (a1 < 1) = true := decide_eq_true c4
      clear c4
      (first | rw [c4b0] | (simp only [i64_w, i32_w]; rw [c4b0]) | skip)
      have H' := Aside0.mk H
      clear H
      go_wp2
      go_meet
      case rel => exact ⟨_, (true), (by first | rfl | (simp; done) | (simp [*]; done)), H', ⟨by first | omega | exact Nat.le_refl _⟩, ⟨by repeat (first | (with_reducible first | exact HB.out | apply below_alloc | apply pw_below_drewN | apply below_drew1) | exact HB.out)⟩⟩
    · rw [if_neg c4] at H
      have c4b0 : decide (a1 < 1) = false := decide_eq_false c4
      clear c4
      (first | rw [c4b0] | (simp only [i64_w, i32_w]; rw [c4b0]) | skip)
      have H' := Aside0.mk H
      clear H
      go_wp2
      go_meet
      case rel => exact ⟨_, (decide (a1 > 20)), (by first | rfl | (simp; done) | (simp [*]; done)), H', ⟨by first | omega | exact Nat.le_refl _⟩, ⟨by repeat (first | (with_reducible first | exact HB.out | apply below_alloc | apply pw_below_drewN | apply below_drew1) | exact HB.out)⟩⟩
  case rest =>
    clear HC3
    try clear c1
    try clear p2
    try clear c4
    try clear c4b0
    obtain ⟨kq, x14_2, rfl, HA, HJ2, HB⟩ := hcut
    cases kq with
    | zero => exact absurd HA.out (by simp [laws_byIndex.j0])
    | succ kj2 =>
      have H := HA.out
      clear HA
      simp only [laws_byIndex.j0] at H
      by_cases c5 : x14_2 = true
      · subst c5
        have H1 : (some (([] : List Int), ([] : List Int), false)) = some (r1, r2, r3) := by rw [if_pos rfl] at H; exact H
        clear H
        have H := H1
        clear H1
        simp only [Option.some.injEq, Prod.mk.injEq] at H
        obtain ⟨rfl, rfl, rfl⟩ := H
        go_wp2
        go_ret3
        exact ⟨_, _, by first | rfl | (simp [errW_none, errW_some] <;> rfl) | (simp [*, errW_none, errW_some] <;> rfl), by first | exact Kd.R_nil _ _ _ _ _ | exact Kd.N_nil _ _ _ _ _ | exact Kd.V_nil _ _ _ _ _ | exact Kd.Q_nil _ _ _ _ _ | exact Kd.S_nil _ _ _ _ _, by first | exact Kd.R_nil _ _ _ _ _ | exact Kd.N_nil _ _ _ _ _ | exact Kd.V_nil _ _ _ _ _ | exact Kd.Q_nil _ _ _ _ _ | exact Kd.S_nil _ _ _ _ _, by repeat (first | (with_reducible first | exact HB.out | apply below_alloc | apply pw_below_drewN | apply below_drew1) | exact HB.out)⟩
      · replace c5 := Bool.eq_false_iff.mpr c5
        subst c5
        have H1 : ((spec_RunsFit.f kj2 l0 a1).bind fun bt178 => (if bt178.2 = true then ((some (([(a1) % 256] : List Int) : List Int)).bind fun y182 => ((spec_PutRuns.f kj2 l0 a1).bind fun t185 => (if y182.length + t185.length < 140737488355328 then (some ((y182 ++ t185), bt178.1, true)) else (none)))) else (some (([] : List Int), ([] : List Int), false)))) = some (r1, r2, r3) := by rw [if_neg (show ¬ (false = true) by decide)] at H; exact H
        clear H
        have H := H1
        clear H1
        replace H := Option.bind_eq_some_iff.mp H
        obtain ⟨⟨t178, t179⟩, A60, H⟩ := H
        replace H : (if t179 = true then ((some (([(a1) % 256] : List Int) : List Int)).bind fun y182 => ((spec_PutRuns.f kj2 l0 a1).bind fun t185 => (if y182.length + t185.length < 140737488355328 then (some ((y182 ++ t185), t178, true)) else (none)))) else (some (([] : List Int), ([] : List Int), false))) = some (r1, r2, r3) := H
        have A6 := Aside0.mk A60
        clear A60
        by_cases c7 : t179 = true
        · subst c7
          have H1 : ((some (([(a1) % 256] : List Int) : List Int)).bind fun y182 => ((spec_PutRuns.f kj2 l0 a1).bind fun t185 => (if y182.length + t185.length < 140737488355328 then (some ((y182 ++ t185), t178, true)) else (none)))) = some (r1, r2, r3) := by rw [if_pos rfl] at H; exact H
          clear H
          have H := H1
          clear H1
          obtain ⟨y182, hy182⟩ : ∃ y_ : List Int, y_ = (([(a1) % 256] : List Int)) := ⟨_, rfl⟩
          replace H : ((spec_PutRuns.f kj2 l0 a1).bind fun t185 => (if y182.length + t185.length < 140737488355328 then (some ((y182 ++ t185), t178, true)) else (none))) = some (r1, r2, r3) := by first | (rw [hy182]; with_reducible exact H) | (have H2_ := (Option.bind_some _ _).symm.trans H; rw [hy182]; with_reducible exact H2_) | (have H2_ := (Option.bind_some _ _).symm.trans H; with_reducible exact H2_) | with_reducible exact H | (rw [hy182]; exact H) | exact H
          have Ny182 := Aside0.mk hy182
          clear hy182
          replace H := Option.bind_eq_some_iff.mp H
          obtain ⟨t185, A80, H⟩ := H
          replace H : (if y182.length + t185.length < 140737488355328 then (some ((y182 ++ t185), t178, true)) else (none)) = some (r1, r2, r3) := H
          have A8 := Aside0.mk A80
          clear A80
          by_cases c9 : y182.length + t185.length < 140737488355328
          · rw [if_pos c9] at H
            have LMc9 := Aside0.mk c9
            clear c9
            obtain ⟨y188, hy188⟩ : ∃ y_ : List Int, y_ = (y182 ++ t185) := ⟨_, rfl⟩
            replace H : (some (y188, t178, true)) = some (r1, r2, r3) := by first | (rw [hy188]; with_reducible exact H) | (have H2_ := (Option.bind_some _ _).symm.trans H; rw [hy188]; with_reducible exact H2_) | (have H2_ := (Option.bind_some _ _).symm.trans H; with_reducible exact H2_) | with_reducible exact H | (rw [hy188]; exact H) | exact H
            have Ny188 := Aside0.mk hy188
            clear hy188
            simp only [Option.some.injEq, Prod.mk.injEq] at H
            obtain ⟨rfl, rfl, rfl⟩ := H
            go_wp2_with (first | ((with_reducible refine gate_callee (f := 32) rfl ?_); refine goesL_ (some 18) rfl rfl Tryz.func32 (by kernel_rfl) rfl #[.slice A0 l0.length c0, .int .i64 a1] rfl (by (try simp only [List.map_toArray, List.map_cons, List.map_nil]); first | done | rfl | (simp only [List.length_drop, List.length_take]; rfl)) ?_; (with_reducible refine (spec_RunsFit.calls kj2 _ _ l0 a1 t178 true _ ?side1 ?side2 A6.out).mono ?_); (case side1 => repeat (first | exact (Kd.C_below HR0.out HB.out) | (with_reducible refine Kd.C_alloc ?_ _) | (with_reducible refine Kd.C_drewN ?_ _) | (with_reducible refine Kd.C_drew ?_))); (case side2 => exact HC0.out); rintro e w10 ⟨v180, rfl, ho0, hb⟩; refine ⟨_, rfl, ?_⟩; have n0_ := Aside0.mk (Kd.R_lower ho0 (below_size (by repeat (first | (with_reducible first | exact HB.out | apply below_alloc | apply pw_below_drewN | apply below_drew1) | exact HB.out)))); have n1_ := Aside0.mk (below_step (by repeat (first | (with_reducible first | exact HB.out | apply below_alloc | apply pw_below_drewN | apply below_drew1) | exact HB.out)) hb); clear HB; have HO181 := n0_; have HB := n1_; clear n0_ n1_; (try clear hb); (try clear hb2); (try clear hk); (try clear hi); (try clear ho0)) | ((with_reducible refine gate_dst (N := 25) rfl ?_); refine Kd.R_lit (Kd.int .u8) _ 5 ?hg (N := 25) ?hd (xs := ([(a1) % 256] : List Int)) (inner := [.int .u8 ((a1) % 256)]) (ok := fun _ => True) (okp := fun _ => True) ?hr ?hp (fun _ hk => hk) trivial (Below.refl _ _) (Nat.le_refl _) (by simp) ?_; (case hd => rfl); (case hg => rfl); (case hr => first | (go_simp; done) | (go_simp; rfl)); (case hp => exact (Reps.one (show Kd.M (Kd.int .u8) _ _ _ ((a1) % 256) [.int .u8 ((a1) % 256)] from rfl) (Reps.none _ _))); intro v183 w11 ho12 hb hg_ hnew_; clear hg_ hnew_; (first | rw [← Ny182.out] at ho12 | (simp only [Int.reduceToNat] at ho12; rw [← Ny182.out] at ho12)); have n0_ := Aside0.mk (Kd.R_below (by (with_reducible repeat (first | apply Kd.R_alloc | apply Kd.R_drewN | apply Kd.R_drew)); exact HO181.out) hb); have n1_ := Aside0.mk (Kd.R_lower ho12 (below_size (by repeat (first | (with_reducible first | exact HB.out | apply below_alloc | apply pw_below_drewN | apply below_drew1) | exact HB.out)))); have n2_ := Aside0.mk (below_step (by repeat (first | (with_reducible first | exact HB.out | apply below_alloc | apply pw_below_drewN | apply below_drew1) | exact HB.out)) hb); clear HO181; clear HB; have HO181 := n0_; have HO184 := n1_; have HB := n2_; clear n0_ n1_ n2_; clear hb ho12) | ((with_reducible refine gate_callee (f := 33) rfl ?_); refine goesL_ (some 28) rfl rfl Tryz.func33 (by kernel_rfl) rfl #[.slice A0 l0.length c0, .int .i64 a1] rfl (by (try simp only [List.map_toArray, List.map_cons, List.map_nil]); first | done | rfl | (simp only [List.length_drop, List.length_take]; rfl)) ?_; (with_reducible refine (spec_PutRuns.calls kj2 _ _ l0 a1 t185 _ ?side1 ?side2 A8.out).mono ?_); (case side1 => repeat (first | exact (Kd.C_below HR0.out HB.out) | (with_reducible refine Kd.C_alloc ?_ _) | (with_reducible refine Kd.C_drewN ?_ _) | (with_reducible refine Kd.C_drew ?_))); (case side2 => exact HC0.out); rintro e w13 ⟨v186, rfl, ho0, hb⟩; refine ⟨_, rfl, ?_⟩; have n0_ := Aside0.mk (Kd.R_below (by (with_reducible repeat (first | apply Kd.R_alloc | apply Kd.R_drewN | apply Kd.R_drew)); exact HO181.out) hb); have n1_ := Aside0.mk (Kd.R_elder' (by (with_reducible repeat (first | apply Kd.R_alloc | apply Kd.R_drewN | apply Kd.R_drew)); exact HO184.out) (Kd.R_base ho0) hb); have n2_ := Aside0.mk (Kd.R_lower (Kd.R_new' ho0 (Kd.R_lt (by (with_reducible repeat (first | apply Kd.R_alloc | apply Kd.R_drewN | apply Kd.R_drew)); exact HO184.out))) (below_size (by repeat (first | (with_reducible first | exact HB.out | apply below_alloc | apply pw_below_drewN | apply below_drew1) | exact HB.out)))); have n3_ := Aside0.mk (below_step (by repeat (first | (with_reducible first | exact HB.out | apply below_alloc | apply pw_below_drewN | apply below_drew1) | exact HB.out)) hb); clear HO181; clear HO184; clear HB; have HO181 := n0_; have HO184 := n1_; have HO187 := n2_; have HB := n3_; clear n0_ n1_ n2_ n3_; (try clear hb); (try clear hb2); (try clear hk); (try clear hi); (try clear ho0); obtain ⟨Ao15, co15, eo15⟩ := Kd.R_slice HO187.out; subst eo15) | ((with_reducible refine gate_builtin (b := .append) (xs := #[.tmp 25, .tmp 28]) rfl ?_); at_builtin; refine Kd.R_append_rows (Kd.int .u8) (w0 := w) w.heap.size rfl (.tmp 25) (.tmp 28) 24 5 (.int .u8 0) 1 rfl Tryz.underlying24 info5 rfl (by decide) (by omega) v183 y182 t185 _ _ _ (fun k_ => some k_ ≠ (.slice Ao15 t185.length co15 : Value).ownBlock) (fun _ => False) rfl rfl ?aO ?aR (fun _ _ h => h) (fun _ h => h.elim) ?aF ?aB ?aS ?aL ?_; (case aR => repeat (first | exact (Kd.R_reads' HO187.out).2.2 | (with_reducible refine Kd.C_alloc ?_ _) | (with_reducible refine Kd.C_drewN ?_ _) | (with_reducible refine Kd.C_drew ?_))); (case aB => exact (by repeat (first | (with_reducible first | exact HB.out | apply below_alloc | apply pw_below_drewN | apply below_drew1) | exact HB.out))); (case aF => exact (fun k_ hk => Kd.fresh' (Kd.R_lt (by (with_reducible repeat (first | apply Kd.R_alloc | apply Kd.R_drewN | apply Kd.R_drew)); exact HO187.out)) k_ hk)); (case aO => exact (by (with_reducible repeat (first | apply Kd.R_alloc | apply Kd.R_drewN | apply Kd.R_drew)); exact Kd.R_mono HO184.out (fun _ hk => hk.2))); (case aS => exact (below_size (by repeat (first | (with_reducible first | exact HB.out | apply below_alloc | apply pw_below_drewN | apply below_drew1) | exact HB.out)))); (case aL => have := LMc9.out; omega); intro v189 w14 ho hb hg hat; rw [← Ny188.out] at ho; have n0_ := Aside0.mk (Kd.R_over' (by (with_reducible repeat (first | apply Kd.R_alloc | apply Kd.R_drewN | apply Kd.R_drew)); exact HO181.out) (Kd.R_typed (by (with_reducible repeat (first | apply Kd.R_alloc | apply Kd.R_drewN | apply Kd.R_drew)); exact HO184.out)) (by decide) hg); have n1_ := Aside0.mk (Kd.R_after (ok := (fun _ => True)) (by (with_reducible repeat (first | apply Kd.R_alloc | apply Kd.R_drewN | apply Kd.R_drew)); exact HO187.out) hg hat); have n2_ := Aside0.mk (hb); have n3_ := Aside0.mk (ho); clear HO181; clear HO187; clear HB; clear HO184; have HO181 := n0_; have HO187 := n1_; have HB := n2_; have HO190 := n3_; clear n0_ n1_ n2_ n3_; clear ho hb hg hat))
            go_ret3
            exact ⟨_, _, by first | rfl | (simp [errW_none, errW_some] <;> rfl) | (simp [*, errW_none, errW_some] <;> rfl), by (with_reducible repeat (first | apply Kd.R_alloc | apply Kd.R_drewN | apply Kd.R_drew)); exact Kd.R_mono HO190.out (fun _ hk => trivial), by (with_reducible repeat (first | apply Kd.R_alloc | apply Kd.R_drewN | apply Kd.R_drew)); exact HO181.out, by repeat (first | (with_reducible first | exact HB.out | apply below_alloc | apply pw_below_drewN | apply below_drew1) | exact HB.out)⟩
          · rw [if_neg c9] at H
            exact absurd H (by simp)
        · replace c7 := Bool.eq_false_iff.mpr c7
          subst c7
          have H1 : (some (([] : List Int), ([] : List Int), false)) = some (r1, r2, r3) := by rw [if_neg (show ¬ (false = true) by decide)] at H; exact H
          clear H
          have H := H1
          clear H1
          simp only [Option.some.injEq, Prod.mk.injEq] at H
          obtain ⟨rfl, rfl, rfl⟩ := H
          go_wp2_with (first | ((with_reducible refine gate_callee (f := 32) rfl ?_); refine goesL_ (some 18) rfl rfl Tryz.func32 (by kernel_rfl) rfl #[.slice A0 l0.length c0, .int .i64 a1] rfl (by (try simp only [List.map_toArray, List.map_cons, List.map_nil]); first | done | rfl | (simp only [List.length_drop, List.length_take]; rfl)) ?_; (with_reducible refine (spec_RunsFit.calls kj2 _ _ l0 a1 t178 false _ ?side1 ?side2 A6.out).mono ?_); (case side1 => repeat (first | exact (Kd.C_below HR0.out HB.out) | (with_reducible refine Kd.C_alloc ?_ _) | (with_reducible refine Kd.C_drewN ?_ _) | (with_reducible refine Kd.C_drew ?_))); (case side2 => exact HC0.out); rintro e w16 ⟨v180, rfl, ho0, hb⟩; refine ⟨_, rfl, ?_⟩; have n0_ := Aside0.mk (Kd.R_lower ho0 (below_size (by repeat (first | (with_reducible first | exact HB.out | apply below_alloc | apply pw_below_drewN | apply below_drew1) | exact HB.out)))); have n1_ := Aside0.mk (below_step (by repeat (first | (with_reducible first | exact HB.out | apply below_alloc | apply pw_below_drewN | apply below_drew1) | exact HB.out)) hb); clear HB; have HO181 := n0_; have HB := n1_; clear n0_ n1_; (try clear hb); (try clear hb2); (try clear hk); (try clear hi); (try clear ho0)))
          go_ret3
          exact ⟨_, _, by first | rfl | (simp [errW_none, errW_some] <;> rfl) | (simp [*, errW_none, errW_some] <;> rfl), by first | exact Kd.R_nil _ _ _ _ _ | exact Kd.N_nil _ _ _ _ _ | exact Kd.V_nil _ _ _ _ _ | exact Kd.Q_nil _ _ _ _ _ | exact Kd.S_nil _ _ _ _ _, by first | exact Kd.R_nil _ _ _ _ _ | exact Kd.N_nil _ _ _ _ _ | exact Kd.V_nil _ _ _ _ _ | exact Kd.Q_nil _ _ _ _ _ | exact Kd.S_nil _ _ _ _ _, by repeat (first | (with_reducible first | exact HB.out | apply below_alloc | apply pw_below_drewN | apply below_drew1) | exact HB.out)⟩
def laws_indexed.l0 : Nat → List (S35) → List (S35) → List Int → Int → Int → Option ((List (S35)) × Bool)
  | 0, _, _, _, _, _ => none
  | k + 1, x0, x6, x9, x10, x11 => if x11 < x10 then (if 0 ≤ x11 then (if x11 < (x9.length : Int) then (if (rd x9 x11) ≥ (IntKind.u64.wrap ((x0.length : Int))) then (some (([] : List (S35)), false)) else (if 0 ≤ (rd x9 x11) then (if (rd x9 x11) < (x0.length : Int) then (if x6.length < 2513169434916 then (laws_indexed.l0 k x0 (x6 ++ [(⟨(rd_T35 x0 (rd x9 x11)).f0, (rd_T35 x0 (rd x9 x11)).f1, (rd_T35 x0 (rd x9 x11)).f2, (rd_T35 x0 (rd x9 x11)).f3⟩ : S35)]) x9 x10 (wrap64 (x11 + 1))) else (none)) else (none)) else (none))) else (none)) else (none)) else (some (x6, true))
def laws_indexed.f (k : Nat) (l0 : List (S35)) (l1 : List Int) : Option ((List (S35)) × Bool) := laws_indexed.l0 k l0 ([] : List (S35)) l1 (l1.length : Int) 0
theorem laws_indexed.mono_l : ∀ k, (∀ y0 y1 y2 y3 y4, LeO (laws_indexed.l0 k y0 y1 y2 y3 y4) (laws_indexed.l0 (k + 1) y0 y1 y2 y3 y4))
  | 0 => fun _ _ _ _ _ r h => by simp [laws_indexed.l0] at h
  | k + 1 => by
    have ih0 := laws_indexed.mono_l k
    · intro y0 y1 y2 y3 y4
      unfold laws_indexed.l0
      repeat' first
      | (with_reducible exact ih0 _ _ _ _ _)
      | (with_reducible exact LeO.refl _)
      | (with_reducible exact LeO.none _)
      | (with_reducible refine LeO.ite ?_ ?_)
      | (with_reducible refine LeO.bind ?_ (fun _ => ?_))
      | exact ih0 _ _ _ _ _
      | exact LeO.none _
      | refine LeO.ite ?_ ?_
      | refine LeO.bind ?_ (fun _ => ?_)
theorem laws_indexed.mono : ∀ a0 a1 k, LeO (laws_indexed.f k a0 a1) (laws_indexed.f (k + 1) a0 a1) := by
  intro a0 a1 k
  have ih0 := laws_indexed.mono_l k
  unfold laws_indexed.f
  repeat' first
      | (with_reducible exact ih0 _ _ _ _ _)
      | (with_reducible exact LeO.refl _)
      | (with_reducible exact LeO.none _)
      | (with_reducible refine LeO.ite ?_ ?_)
      | (with_reducible refine LeO.bind ?_ (fun _ => ?_))
      | exact ih0 _ _ _ _ _
      | exact LeO.none _
      | refine LeO.ite ?_ ?_
      | refine LeO.bind ?_ (fun _ => ?_)
set_option maxHeartbeats 8000000 in
set_option maxRecDepth 100000 in
theorem laws_indexed.calls (k : Nat) (P0_ : Nat → Prop) (A0 : Option Addr) (c0 : Nat) (l0 : List (S35)) (A1 : Option Addr) (c1 : Nat) (l1 : List Int) (r1 : List (S35)) (r2 : Bool) (w : World) (hs0 : Kd.V k35 35 w w.heap.size (fun k_ => P0_ k_) (.slice A0 l0.length c0) l0) (hr1 : Kd.C (Kd.int .u64) w A1 l1.length l1) (hc1 : l1.length ≤ c1) (h : laws_indexed.f k l0 l1 = some (r1, r2)) :
    Calls Tryz.prog 11 #[.slice A0 l0.length c0, .slice A1 l1.length c1] w fun e w' => ∃ v0_ : Value, e = .returned (.tuple #[v0_, .bool r2]) ∧ Kd.N k35 35 w' w.heap.size (fun k_ => (P0_ k_ ∨ w.heap.size ≤ k_)) v0_ r1 ∧ Below w.heap.size w w' := by
  have hu35 := Tryz.underlying35
  have HO0 := Aside0.mk (show Kd.V k35 35 w w.heap.size (fun k_ => (P0_ k_ ∨ w.heap.size ≤ k_)) (.slice A0 l0.length c0) l0 from Kd.V_mono hs0 (fun k_ hk => .inl hk))
  have HR1 := Aside0.mk hr1
  have HC1 := Aside0.mk hc1
  clear hr1 hc1
  have HB := Aside0.mk (Below.refl w.heap.size w)
  have H : (laws_indexed.l0 k l0 ([] : List (S35)) l1 (l1.length : Int) 0) = some (r1, r2) := h
  clear h
  have H' := Aside0.mk H
  clear H
  go_enter Tryz.func11, Tryz.ntmps11
  go_wp2
  go_loopg [6, 11] k (fun kq v6 v11 w' => ∃ (x6_1 : List (S35)) (x11_1 : Int), v11 = .int .i64 x11_1 ∧ Aside0 (laws_indexed.l0 kq l0 x6_1 l1 (l1.length : Int) x11_1 = some (r1, r2)) ∧ Aside0 (kq ≤ k) ∧ Aside0 (Kd.V k35 35 w' w.heap.size (fun k_ => (P0_ k_ ∨ w.heap.size ≤ k_) ∧ some k_ ≠ (v6 : Value).ownBlock) (.slice A0 l0.length c0) l0) ∧ Aside0 (Kd.N k35 35 w' w.heap.size (fun k_ => (P0_ k_ ∨ w.heap.size ≤ k_)) v6 x6_1) ∧ Aside0 (Below w.heap.size w w'))
  case atStart => exact ⟨(([] : List (S35))), (0), (by first | rfl | (simp; done) | (simp [*]; done)), H', ⟨Nat.le_refl _⟩, ⟨by (with_reducible repeat (first | apply Kd.V_alloc | apply Kd.V_drewN | apply Kd.V_drew)); exact Kd.V_mono HO0.out (fun _ hk => ⟨hk, (by simp [Value.ownBlock])⟩)⟩, ⟨by first | exact Kd.R_nil _ _ _ _ _ | exact Kd.N_nil _ _ _ _ _ | exact Kd.V_nil _ _ _ _ _ | exact Kd.Q_nil _ _ _ _ _ | exact Kd.S_nil _ _ _ _ _⟩, ⟨by repeat (first | (with_reducible first | exact HB.out | apply below_alloc | apply pw_below_drewN | apply below_drew1) | exact HB.out)⟩⟩
  case round =>
    clear H'
    try clear c1
    try clear p2
    obtain ⟨x6_1, x11_1, rfl, HA, HK1, HO_0, HO_6, HB⟩ := hrel
    cases gk with
    | zero => exact absurd HA.out (by simp [laws_indexed.l0])
    | succ k1 =>
      have H := HA.out
      clear HA
      simp only [laws_indexed.l0] at H
      by_cases c3 : x11_1 < (l1.length : Int)
      · rw [if_pos c3] at H
        have c3b0 : decide (x11_1 < (l1.length : Int)) = true := decide_eq_true c3
        clear c3
        by_cases c4 : 0 ≤ x11_1
        · rw [if_pos c4] at H
          have c4b0 : decide (0 ≤ x11_1) = true := decide_eq_true c4
          clear c4
          by_cases c5 : x11_1 < (l1.length : Int)
          · rw [if_pos c5] at H
            have c5b0 : decide (x11_1 < (l1.length : Int)) = true := decide_eq_true c5
            clear c5
            by_cases c6 : (rd l1 x11_1) ≥ (IntKind.u64.wrap ((l0.length : Int)))
            · rw [if_pos c6] at H
              have c6b0 : decide ((IntKind.u64.wrap ((l0.length : Int))) ≤ (rd l1 x11_1)) = true := decide_eq_true c6
              clear c6
              simp only [Option.some.injEq, Prod.mk.injEq] at H
              obtain ⟨rfl, rfl⟩ := H
              have p191 : 0 ≤ (x11_1 : Int) := of_decide_eq_true (by first | (with_reducible assumption) | assumption)
              have q191 : x11_1 < (l1.length : Int) := of_decide_eq_true (by first | (with_reducible assumption) | assumption)
              obtain ⟨ad191, e191, hx191_0⟩ := Kd.at_int HR1.out x11_1 p191 q191
              cases e191
              replace hx191_0 := (HB.out.cell (World.block_lt_of_cell? w _ hx191_0)).trans hx191_0
              replace p191 := eq_true p191
              replace q191 := eq_true q191
              go_wp2
              go_ret2
              exact ⟨_, by first | rfl | (simp [errW_none, errW_some] <;> rfl) | (simp [*, errW_none, errW_some] <;> rfl), by first | exact Kd.R_nil _ _ _ _ _ | exact Kd.N_nil _ _ _ _ _ | exact Kd.V_nil _ _ _ _ _ | exact Kd.Q_nil _ _ _ _ _ | exact Kd.S_nil _ _ _ _ _, by repeat (first | (with_reducible first | exact HB.out | apply below_alloc | apply pw_below_drewN | apply below_drew1) | exact HB.out)⟩
            · rw [if_neg c6] at H
              have c6b0 : decide ((IntKind.u64.wrap ((l0.length : Int))) ≤ (rd l1 x11_1)) = false := decide_eq_false c6
              clear c6
              by_cases c7 : 0 ≤ (rd l1 x11_1)
              · rw [if_pos c7] at H
                have c7b0 : decide (0 ≤ (rd l1 x11_1)) = true := decide_eq_true c7
                clear c7
                by_cases c8 : (rd l1 x11_1) < (l0.length : Int)
                · rw [if_pos c8] at H
                  have c8b0 : decide ((rd l1 x11_1) < (l0.length : Int)) = true := decide_eq_true c8
                  clear c8
                  by_cases c9 : x6_1.length < 2513169434916
                  · rw [if_pos c9] at H
                    have LMc9 := Aside0.mk c9
                    clear c9
                    obtain ⟨y193, hy193⟩ : ∃ y_ : List (S35), y_ = (x6_1 ++ [(⟨(rd_T35 l0 (rd l1 x11_1)).f0, (rd_T35 l0 (rd l1 x11_1)).f1, (rd_T35 l0 (rd l1 x11_1)).f2, (rd_T35 l0 (rd l1 x11_1)).f3⟩ : S35)]) := ⟨_, rfl⟩
                    replace H : (laws_indexed.l0 k1 l0 y193 l1 (l1.length : Int) (wrap64 (x11_1 + 1))) = some (r1, r2) := by first | (rw [hy193]; with_reducible exact H) | (have H2_ := (Option.bind_some _ _).symm.trans H; rw [hy193]; with_reducible exact H2_) | (have H2_ := (Option.bind_some _ _).symm.trans H; with_reducible exact H2_) | with_reducible exact H | (rw [hy193]; exact H) | exact H
                    have Ny193 := Aside0.mk hy193
                    clear hy193
                    have H' := Aside0.mk H
                    clear H
                    have p191 : 0 ≤ (x11_1 : Int) := of_decide_eq_true (by first | (with_reducible assumption) | assumption)
                    have q191 : x11_1 < (l1.length : Int) := of_decide_eq_true (by first | (with_reducible assumption) | assumption)
                    obtain ⟨ad191, e191, hx191_0⟩ := Kd.at_int HR1.out x11_1 p191 q191
                    cases e191
                    replace hx191_0 := (HB.out.cell (World.block_lt_of_cell? w _ hx191_0)).trans hx191_0
                    replace p191 := eq_true p191
                    replace q191 := eq_true q191
                    have p192 : 0 ≤ ((rd l1 x11_1) : Int) := of_decide_eq_true (by first | (with_reducible assumption) | assumption)
                    have q192 : (rd l1 x11_1) < (l0.length : Int) := of_decide_eq_true (by first | (with_reducible assumption) | assumption)
                    obtain ⟨ad192, A192_3, c192_3, e192, hx192_0, hx192_1, hx192_2, hx192_3, hl192_3, hi192_3⟩ := at_T35 (Kd.V_reads' HO_0.out).2.2 (rd l1 x11_1) p192 q192
                    cases e192
                    obtain ⟨ce192, hce192, hMe192, hcc192⟩ := Kd.V_get HO_0.out z35 (rd l1 x11_1) p192 (by first | exact q192 | exact of_decide_eq_true (by first | (with_reducible assumption) | assumption) | (have e_ := (Kd.V_reads' HO_0.out).1; omega))
                    obtain ⟨ua192_3, uc192_3, rfl, ul192_3, ge192_3⟩ := k35_openF hMe192
                    have hv192_3 := hcc192 3 _ rfl
                    rw [add_field _ _ 3 (by omega)] at hv192_3
                    replace hv192_3 := Option.some.inj (hv192_3.symm.trans hx192_3)
                    injection hv192_3 with hva_ hvn_ hvc_
                    rw [hva_] at ge192_3
                    rw [hvc_] at ul192_3
                    have HL192_3 := Aside0.mk (show Kd.V k35 35 _ w.heap.size _ _ ((rd_T35 l0 (rd l1 x11_1)).f3) from Kd.V_mk ul192_3 ge192_3)
                    clear hva_ hvn_ hvc_ ge192_3 ul192_3
                    clear hcc192 hce192
                    have HR192_3 := Aside0.mk hi192_3
                    have HC192_3 := Aside0.mk hl192_3
                    clear hi192_3 hl192_3
                    replace p192 := eq_true p192
                    replace q192 := eq_true q192
                    go_wp2_with (first | ((with_reducible refine gate_builtin (b := .append) (xs := #[.tmp 20, .tmp 25]) rfl ?_); at_builtin; refine Kd.N_append k35 (w0 := w) w.heap.size rfl (.tmp 20) (.tmp 25) 22 35 (.agg #[(.bool false), (.int .u64 0), (.string ⟨#[]⟩), (.slice none 0 0)]) 56 rfl Tryz.underlying22 info35 rfl (by decide) (by omega) u6 x6_1 (⟨(rd_T35 l0 (rd l1 x11_1)).f0, (rd_T35 l0 (rd l1 x11_1)).f1, (rd_T35 l0 (rd l1 x11_1)).f2, (rd_T35 l0 (rd l1 x11_1)).f3⟩ : S35) [.bool ((rd_T35 l0 (rd l1 x11_1)).f0), .int .u64 ((rd_T35 l0 (rd l1 x11_1)).f1), .string ((rd_T35 l0 (rd l1 x11_1)).f2), .slice A192_3 ((rd_T35 l0 (rd l1 x11_1)).f3).length c192_3] (fun k_ => (P0_ k_ ∨ w.heap.size ≤ k_)) (fun k_ => ((fun k_ => (P0_ k_ ∨ w.heap.size ≤ k_))) k_ ∧ some k_ ≠ (u6 : Value).ownBlock) rfl rfl ?aP (fun _ hk => hk) ?aF ?aO ?aB ?aS ?aL ?_; (case aP => exact (k35_mkF _ _ (⟨(rd_T35 l0 (rd l1 x11_1)).f0, (rd_T35 l0 (rd l1 x11_1)).f1, (rd_T35 l0 (rd l1 x11_1)).f2, (rd_T35 l0 (rd l1 x11_1)).f3⟩ : S35) (Kd.V_reads' (Kd.V_mono (ok' := (fun k_ => ((fun k_ => (P0_ k_ ∨ w.heap.size ≤ k_))) k_ ∧ some k_ ≠ (u6 : Value).ownBlock)) (HL192_3.out) (fun k_ hk => ⟨hk.1, hk.2⟩))).2.1 (Kd.V_F (Kd.V_mono (ok' := (fun k_ => ((fun k_ => (P0_ k_ ∨ w.heap.size ≤ k_))) k_ ∧ some k_ ≠ (u6 : Value).ownBlock)) (HL192_3.out) (fun k_ hk => ⟨hk.1, hk.2⟩))))); (case aB => exact (by repeat (first | (with_reducible first | exact HB.out | apply below_alloc | apply pw_below_drewN | apply below_drew1) | exact HB.out))); (case aF => exact (fun k_ hk => (.inr (Nat.le_trans (below_size (by repeat (first | (with_reducible first | exact HB.out | apply below_alloc | apply pw_below_drewN | apply below_drew1) | exact HB.out))) hk)))); (case aO => exact (by (with_reducible repeat (first | apply Kd.N_alloc | apply Kd.N_drewN | apply Kd.N_drew)); exact HO_6.out)); (case aS => exact (below_size (by repeat (first | (with_reducible first | exact HB.out | apply below_alloc | apply pw_below_drewN | apply below_drew1) | exact HB.out)))); (case aL => have := LMc9.out; omega); intro v194 w10 ho hb hg hat; rw [← Ny193.out] at ho; have n0_ := Aside0.mk (Kd.V_afterv (ok := (fun k_ => (P0_ k_ ∨ w.heap.size ≤ k_))) (by (with_reducible repeat (first | apply Kd.V_alloc | apply Kd.V_drewN | apply Kd.V_drew)); exact HO_0.out) hg hat); have n1_ := Aside0.mk (Kd.V_afterv (ok := (fun k_ => (P0_ k_ ∨ w.heap.size ≤ k_))) (by (with_reducible repeat (first | apply Kd.V_alloc | apply Kd.V_drewN | apply Kd.V_drew)); exact HL192_3.out) hg hat); have n2_ := Aside0.mk (hb); have n3_ := Aside0.mk (ho); clear HO_0; clear HL192_3; clear HB; clear HO_6; have HO_0 := n0_; have HL192_3 := n1_; have HB := n2_; have HO195 := n3_; clear n0_ n1_ n2_ n3_; clear ho hb hg hat))
                    go_roundg k1
                    case measure => have := HK1.out; omega
                    case rel => exact ⟨(y193), (wrap64 (x11_1 + 1)), (by first | rfl | (simp; done) | (simp [*]; done)), H', ⟨by have := HK1.out; omega⟩, ⟨by (with_reducible repeat (first | apply Kd.V_alloc | apply Kd.V_drewN | apply Kd.V_drew)); exact HO_0.out⟩, ⟨by (with_reducible repeat (first | apply Kd.N_alloc | apply Kd.N_drewN | apply Kd.N_drew)); exact HO195.out⟩, ⟨by repeat (first | (with_reducible first | exact HB.out | apply below_alloc | apply pw_below_drewN | apply below_drew1) | exact HB.out)⟩⟩
                  · rw [if_neg c9] at H
                    exact absurd H (by simp)
                · rw [if_neg c8] at H
                  exact absurd H (by simp)
              · rw [if_neg c7] at H
                exact absurd H (by simp)
          · rw [if_neg c5] at H
            exact absurd H (by simp)
        · rw [if_neg c4] at H
          exact absurd H (by simp)
      · rw [if_neg c3] at H
        have c3b0 : decide (x11_1 < (l1.length : Int)) = false := decide_eq_false c3
        clear c3
        simp only [Option.some.injEq, Prod.mk.injEq] at H
        obtain ⟨rfl, rfl⟩ := H
        go_wp2
        go_ret2
        exact ⟨_, by first | rfl | (simp [errW_none, errW_some] <;> rfl) | (simp [*, errW_none, errW_some] <;> rfl), by (with_reducible repeat (first | apply Kd.N_alloc | apply Kd.N_drewN | apply Kd.N_drew)); exact HO_6.out, by repeat (first | (with_reducible first | exact HB.out | apply below_alloc | apply pw_below_drewN | apply below_drew1) | exact HB.out)⟩
def impl_copied.f (l0 : List Int) : Option (List Int) := (some (([] : List Int) : List Int)).bind fun y204 => (if y204.length + l0.length < 140737488355328 then (some (y204 ++ l0)) else (none))
set_option maxHeartbeats 8000000 in
set_option maxRecDepth 100000 in
theorem impl_copied.calls (A0 : Option Addr) (c0 : Nat) (l0 : List Int) (r : List Int) (w : World) (hr0 : Kd.C (Kd.int .u8) w A0 l0.length l0) (hc0 : l0.length ≤ c0) (h : impl_copied.f l0 = some r) :
    Calls Tryz.prog 25 #[.slice A0 l0.length c0] w fun e w' => ∃ v0_ : Value, e = .returned (v0_) ∧ Kd.R (Kd.int .u8) 5 w' w.heap.size (fun _ => True) v0_ r ∧ Below w.heap.size w w' := by
  have HR0 := Aside0.mk hr0
  have HC0 := Aside0.mk hc0
  clear hr0 hc0
  have HB := Aside0.mk (Below.refl w.heap.size w)
  have H : ((some (([] : List Int) : List Int)).bind fun y204 => (if y204.length + l0.length < 140737488355328 then (some (y204 ++ l0)) else (none))) = some r := h
  clear h
  obtain ⟨y204, hy204⟩ : ∃ y_ : List Int, y_ = (([] : List Int)) := ⟨_, rfl⟩
  replace H : (if y204.length + l0.length < 140737488355328 then (some (y204 ++ l0)) else (none)) = some r := by first | (rw [hy204]; with_reducible exact H) | (have H2_ := (Option.bind_some _ _).symm.trans H; rw [hy204]; with_reducible exact H2_) | (have H2_ := (Option.bind_some _ _).symm.trans H; with_reducible exact H2_) | with_reducible exact H | (rw [hy204]; exact H) | exact H
  have Ny204 := Aside0.mk hy204
  clear hy204
  by_cases c2 : y204.length + l0.length < 140737488355328
  · rw [if_pos c2] at H
    have LMc2 := Aside0.mk c2
    clear c2
    obtain ⟨y207, hy207⟩ : ∃ y_ : List Int, y_ = (y204 ++ l0) := ⟨_, rfl⟩
    replace H : (some y207) = some r := by first | (rw [hy207]; with_reducible exact H) | (have H2_ := (Option.bind_some _ _).symm.trans H; rw [hy207]; with_reducible exact H2_) | (have H2_ := (Option.bind_some _ _).symm.trans H; with_reducible exact H2_) | with_reducible exact H | (rw [hy207]; exact H) | exact H
    have Ny207 := Aside0.mk hy207
    clear hy207
    obtain rfl := Option.some.inj H
    go_enter Tryz.func25, Tryz.ntmps25
    go_wp2_with (first | ((with_reducible refine gate_dst (N := 3) rfl ?_); refine Kd.R_lit (Kd.int .u8) _ 5 ?hg (N := 3) ?hd (xs := ([] : List Int)) (inner := []) (ok := fun _ => True) (okp := fun _ => True) ?hr ?hp (fun _ hk => hk) trivial (Below.refl _ _) (Nat.le_refl _) (by simp) ?_; (case hd => rfl); (case hg => rfl); (case hr => first | (go_simp; done) | (go_simp; rfl)); (case hp => exact (Reps.none _ _)); intro v205 w3 ho4 hb hg_ hnew_; clear hg_ hnew_; (first | rw [← Ny204.out] at ho4 | (simp only [Int.reduceToNat] at ho4; rw [← Ny204.out] at ho4)); have n0_ := Aside0.mk (Kd.R_lower ho4 (below_size (by repeat (first | (with_reducible first | exact HB.out | apply below_alloc | apply pw_below_drewN | apply below_drew1) | exact HB.out)))); have n1_ := Aside0.mk (below_step (by repeat (first | (with_reducible first | exact HB.out | apply below_alloc | apply pw_below_drewN | apply below_drew1) | exact HB.out)) hb); clear HB; have HO206 := n0_; have HB := n1_; clear n0_ n1_; clear hb ho4) | ((with_reducible refine gate_builtin (b := .append) (xs := #[.tmp 3, .tmp 4]) rfl ?_); at_builtin; refine Kd.R_append_rows (Kd.int .u8) (w0 := w) w.heap.size rfl (.tmp 3) (.tmp 4) 24 5 (.int .u8 0) 1 rfl Tryz.underlying24 info5 rfl (by decide) (by omega) v205 y204 l0 _ _ _ (fun _ => True) (fun _ => False) rfl rfl ?aO ?aR (fun _ _ h => h) (fun _ h => h.elim) ?aF ?aB ?aS ?aL ?_; (case aR => repeat (first | exact (Kd.C_below HR0.out HB.out) | (with_reducible refine Kd.C_alloc ?_ _) | (with_reducible refine Kd.C_drewN ?_ _) | (with_reducible refine Kd.C_drew ?_))); (case aB => exact (by repeat (first | (with_reducible first | exact HB.out | apply below_alloc | apply pw_below_drewN | apply below_drew1) | exact HB.out))); (case aF => exact (fun _ _ => trivial)); (case aO => exact (by (with_reducible repeat (first | apply Kd.R_alloc | apply Kd.R_drewN | apply Kd.R_drew)); exact HO206.out)); (case aS => exact (below_size (by repeat (first | (with_reducible first | exact HB.out | apply below_alloc | apply pw_below_drewN | apply below_drew1) | exact HB.out)))); (case aL => have := LMc2.out; omega); intro v208 w5 ho hb hg hat; rw [← Ny207.out] at ho; have n0_ := Aside0.mk (hb); have n1_ := Aside0.mk (ho); clear HB; clear HO206; have HB := n0_; have HO209 := n1_; clear n0_ n1_; clear ho hb hg hat))
    go_ret
    exact ⟨_, by first | rfl | (simp [errW_none, errW_some] <;> rfl) | (simp [*, errW_none, errW_some] <;> rfl), by (with_reducible repeat (first | apply Kd.R_alloc | apply Kd.R_drewN | apply Kd.R_drew)); exact HO209.out, by repeat (first | (with_reducible first | exact HB.out | apply below_alloc | apply pw_below_drewN | apply below_drew1) | exact HB.out)⟩
  · rw [if_neg c2] at H
    exact absurd H (by simp)
def encoding_newDecoderBase.f  : Option (Int × List Int × Int) := some (0, ([] : List Int), 0)
set_option maxHeartbeats 8000000 in
set_option maxRecDepth 100000 in
theorem encoding_newDecoderBase.calls  (r1 : Int) (r2 : List Int) (r3 : Int) (w : World) (h : encoding_newDecoderBase.f  = some (r1, r2, r3)) :
    Calls Tryz.prog 53 #[] w fun e w' => ∃ v1_ : Value, e = .returned (.agg #[.int .i64 r1, v1_, .int .i64 r3]) ∧ Kd.R (Kd.int .u8) 5 w' w.heap.size (fun _ => True) v1_ r2 ∧ Below w.heap.size w w' := by
  have hu64 := Tryz.underlying64
  have HB := Aside0.mk (Below.refl w.heap.size w)
  have H : (some (0, ([] : List Int), 0)) = some (r1, r2, r3) := h
  clear h
  simp only [Option.some.injEq, Prod.mk.injEq] at H
  obtain ⟨rfl, rfl, rfl⟩ := H
  go_enter Tryz.func53, Tryz.ntmps53
  go_wp2_with (first | ((with_reducible refine gate_dst (N := 0) rfl ?_); refine box_event ?hg (N := 0) ?hd (cs := #[.int .i64 0, .slice none 0 0, .int .i64 0]) (t := 64) ?hr ?_; (case hd => rfl); (case hg => rfl); (case hr => first | (go_simp; done) | (go_simp; rfl)); intro gb210 hg w1 hbox hb; have n0_ := Aside0.mk (below_step (by repeat (first | (with_reducible first | exact HB.out | apply below_alloc | apply pw_below_drewN | apply below_drew1) | exact HB.out)) hb); have n1_ := Aside0.mk (hbox); have n2_ := Aside0.mk ((by rw [hg]; exact (below_size (by repeat (first | (with_reducible first | exact HB.out | apply below_alloc | apply pw_below_drewN | apply below_drew1) | exact HB.out))) : w.heap.size ≤ gb210)); have n3_ := Aside0.mk ((by rw [hg]; exact (below_size (by repeat (first | (with_reducible first | exact HB.out | apply below_alloc | apply pw_below_drewN | apply below_drew1) | exact HB.out))) : w.heap.size ≤ gb210)); clear HB; have HB := n0_; have BK210 := n1_; have GW210 := n2_; have GE210 := n3_; clear n0_ n1_ n2_ n3_; clear hb hbox hg; have hcz2_0 : w1.cell? ⟨gb210, 0, none⟩ = some (.int .i64 0) := (blk_cell BK210.out 0).trans rfl; have hcz2_1 : w1.cell? ⟨gb210, 1, none⟩ = some (.slice none 0 0) := (blk_cell BK210.out 1).trans rfl; have hcz2_2 : w1.cell? ⟨gb210, 2, none⟩ = some (.int .i64 0) := (blk_cell BK210.out 2).trans rfl; have hfz2_0 := blk_frozen BK210.out 0; have hfz2_1 := blk_frozen BK210.out 1; have hfz2_2 := blk_frozen BK210.out 2))
  refine bodyPost_ret (results_cell_row rfl _ _ gb210 64 #[.int .i64 0, .slice none 0 0, .int .i64 0] (0, 0) _ rfl (by (with_reducible repeat (first | refine blk_drewN ?_ _ | refine blk_drew ?_ | refine blk_alloc ?_ _)); refine blk_put (cs := #[.int .i64 0, .slice none 0 0, .int .i64 0]) ?_ 2 _ rfl; (with_reducible repeat (first | refine blk_drewN ?_ _ | refine blk_drew ?_ | refine blk_alloc ?_ _)); refine blk_put (cs := #[.int .i64 0, .slice none 0 0, .int .i64 0]) ?_ 1 _ rfl; (with_reducible repeat (first | refine blk_drewN ?_ _ | refine blk_drew ?_ | refine blk_alloc ?_ _)); refine blk_put (cs := #[.int .i64 0, .slice none 0 0, .int .i64 0]) ?_ 0 _ rfl; (with_reducible repeat (first | refine blk_drewN ?_ _ | refine blk_drew ?_ | refine blk_alloc ?_ _)); exact BK210.out) Tryz.underlying64 rfl (by kernel_rfl)) rfl ?_
  exact ⟨_, by first | rfl | (simp [errW_none, errW_some] <;> rfl) | (simp [*, errW_none, errW_some] <;> rfl), by first | exact Kd.R_nil _ _ _ _ _ | exact Kd.N_nil _ _ _ _ _ | exact Kd.V_nil _ _ _ _ _ | exact Kd.Q_nil _ _ _ _ _ | exact Kd.S_nil _ _ _ _ _, by repeat (first | (with_reducible first | exact HB.out | apply below_alloc | apply pw_below_drewN | apply below_drew1 | refine below_set ?_ GE210.out) | exact HB.out)⟩
end Go.Proofs.YtmcjpnijldhelaaGreatDoor.PFnDictionaryFloat64Read
