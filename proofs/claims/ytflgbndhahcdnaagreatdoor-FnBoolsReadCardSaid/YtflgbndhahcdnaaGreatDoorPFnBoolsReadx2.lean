-- PRINTED BY print.sh 35421559b90ae4d0a3588c463048766b98c2df88dd9212a6774a882060cdf62d: not written by this session
import Derived.Test.YtflgbndhahcdnaaGreatDoorPFnBoolsReadx0
namespace Go.Proofs.YtflgbndhahcdnaaGreatDoor.PFnBoolsRead
open Go.RowKit Go.Proofs.YtflgbndhahcdnaaGreatDoorW.PrintWords Go.Proofs.YtflgbndhahcdnaaGreatDoorW.PrintLast Go.Proofs.YtflgbndhahcdnaaGreatDoorW.PrintMore
attribute [local go_sem] max2_int min2_int max_two min_two max_three min_three max_four min_four   -- for this text's walks alone
set_option linter.unusedVariables false
set_option linter.unusedSimpArgs false

/-! ### spec_Packed: function 7 -/
def spec_Packed.l0 : Nat → Int → List Int → List Bool → Int → Int → Option (List Int)
  | 0, _, _, _, _, _ => none
  | k + 1, x1, x5, x16, x17, x18 => if x18 < x17 then (if 0 ≤ x18 then (if x18 < (x16.length : Int) then (if rdOf false x16 x18 = true then (if 0 ≤ (wrap64 (Int.tdiv (wrap64 (x1 + x18)) 8)) then (if (wrap64 (Int.tdiv (wrap64 (x1 + x18)) 8)) < (x5.length : Int) then (if 0 ≤ (Int.tmod (wrap64 (x1 + x18)) 8) then (spec_Packed.l0 k x1 (x5.set ((wrap64 (Int.tdiv (wrap64 (x1 + x18)) 8)) : Int).toNat (Go.bits .or .u8 (rd x5 (wrap64 (Int.tdiv (wrap64 (x1 + x18)) 8))) (shl .u8 1 (Int.tmod (wrap64 (x1 + x18)) 8)))) x16 x17 (wrap64 (x18 + 1))) else (none)) else (none)) else (none)) else (spec_Packed.l0 k x1 x5 x16 x17 (wrap64 (x18 + 1)))) else (none)) else (none)) else (some x5)
def spec_Packed.f (k : Nat) (l0 : List Bool) (a1 : Int) : Option (List Int) := if 0 ≤ (wrap64 (Int.tdiv (wrap64 ((wrap64 (a1 + (l0.length : Int))) + 7)) 8)) then (if (wrap64 (Int.tdiv (wrap64 ((wrap64 (a1 + (l0.length : Int))) + 7)) 8) : Int).toNat ≤ 281474976710656 then (spec_Packed.l0 k a1 (List.replicate (wrap64 (Int.tdiv (wrap64 ((wrap64 (a1 + (l0.length : Int))) + 7)) 8) : Int).toNat 0) l0 (l0.length : Int) 0) else (none)) else (none)
theorem spec_Packed.mono_l : ∀ k, (∀ y0 y1 y2 y3 y4, LeO (spec_Packed.l0 k y0 y1 y2 y3 y4) (spec_Packed.l0 (k + 1) y0 y1 y2 y3 y4))
  | 0 => fun _ _ _ _ _ r h => by simp [spec_Packed.l0] at h
  | k + 1 => by
    have ih0 := spec_Packed.mono_l k
    · intro y0 y1 y2 y3 y4
      unfold spec_Packed.l0
      repeat' first
      | (with_reducible exact ih0 _ _ _ _ _)
      | (with_reducible exact LeO.refl _)
      | (with_reducible exact LeO.none _)
      | (with_reducible refine LeO.ite ?_ ?_)
      | (with_reducible refine LeO.bind ?_ (fun _ => ?_))
      | exact ih0 _ _ _ _ _
      | exact LeO.none _
      | refine LeO.ite ?_ ?_
      | refine LeO.bind ?_ (fun _ => ?_)
theorem spec_Packed.mono : ∀ a0 a1 k, LeO (spec_Packed.f k a0 a1) (spec_Packed.f (k + 1) a0 a1) := by
  intro a0 a1 k
  have ih0 := spec_Packed.mono_l k
  unfold spec_Packed.f
  repeat' first
      | (with_reducible exact ih0 _ _ _ _ _)
      | (with_reducible exact LeO.refl _)
      | (with_reducible exact LeO.none _)
      | (with_reducible refine LeO.ite ?_ ?_)
      | (with_reducible refine LeO.bind ?_ (fun _ => ?_))
      | exact ih0 _ _ _ _ _
      | exact LeO.none _
      | refine LeO.ite ?_ ?_
      | refine LeO.bind ?_ (fun _ => ?_)
def spec_Packed.T7 : Bool × List (List Nat × List Nat) := (true, [([], []), ([], []), ([1], [1]), ([0, 2], [0, 2]), ([3], [3]), ([], []), ([5], [5]), ([6], [6]), ([4, 7], [4, 7]), ([0, 2, 0, 1, 2, 3, 4, 5, 6, 7, 8], [0, 2]), ([9, 8, 0, 1, 2, 3, 4, 5, 6, 7, 8], [8, 9])])
def spec_Packed.B7 : List Nat := [0, 0, 2, 7, 15, 0, 32, 96, 255, 511, 1023]
theorem spec_Packed.tab7 : rtab .any (opsOf Tryz.f7 7) = spec_Packed.T7 := by kernel_rfl
theorem spec_Packed.bits7 : waitsOk spec_Packed.T7.2 spec_Packed.B7 = true := by kernel_rfl
set_option maxHeartbeats 8000000 in
set_option maxRecDepth 100000 in
theorem spec_Packed.calls (k : Nat) (A0 : Option Addr) (c0 : Nat) (l0 : List Bool) (a1 : Int) (r : List Int) (w : World) (hr0 : Kd.C Kd.bool w A0 l0.length l0) (hc0 : l0.length ≤ c0) (h : spec_Packed.f k l0 a1 = some r) :
    Calls Tryz.prog 7 #[.slice A0 l0.length c0, .int .i64 a1] w fun e w' => ∃ v0_ : Value, e = .returned (v0_) ∧ Kd.R (Kd.int .u8) 5 w' w.heap.size (fun _ => True) v0_ r ∧ Below w.heap.size w w' := by
  have HR0 := Aside0.mk hr0
  have HC0 := Aside0.mk hc0
  clear hr0 hc0
  have HB := Aside0.mk (Below.refl w.heap.size w)
  have H : (if 0 ≤ (wrap64 (Int.tdiv (wrap64 ((wrap64 (a1 + (l0.length : Int))) + 7)) 8)) then (if (wrap64 (Int.tdiv (wrap64 ((wrap64 (a1 + (l0.length : Int))) + 7)) 8) : Int).toNat ≤ 281474976710656 then (spec_Packed.l0 k a1 (List.replicate (wrap64 (Int.tdiv (wrap64 ((wrap64 (a1 + (l0.length : Int))) + 7)) 8) : Int).toNat 0) l0 (l0.length : Int) 0) else (none)) else (none)) = some r := h
  clear h
  obtain ⟨ji3, hji3⟩ : ∃ j_ : Int, (wrap64 (Int.tdiv (wrap64 ((wrap64 (a1 + (l0.length : Int))) + 7)) 8)) = j_ := ⟨_, rfl⟩
  replace H : (if 0 ≤ (ji3) then (if (ji3 : Int).toNat ≤ 281474976710656 then (spec_Packed.l0 k a1 (List.replicate (ji3 : Int).toNat 0) l0 (l0.length : Int) 0) else (none)) else (none)) = some r := by first | (rw [hji3] at H; exact H) | (simp only [hji3] at H ⊢; exact H)
  have hji3w : (IntKind.i64.wrap (Int.tdiv (wrap64 ((wrap64 (a1 + (l0.length : Int))) + 7)) 8)) = ji3 := (i64_w _).trans hji3
  by_cases c4 : 0 ≤ (ji3)
  · rw [if_pos c4] at H
    have c4b0 := eq_true c4
    have c4b1 : decide (0 ≤ (ji3)) = true := decide_eq_true c4
    clear c4
    by_cases c5 : (ji3 : Int).toNat ≤ 281474976710656
    · rw [if_pos c5] at H
      have c5b0 := eq_true c5
      have c5b1 : decide ((ji3 : Int).toNat ≤ 281474976710656) = true := decide_eq_true c5
      clear c5
      obtain ⟨y128, hy128⟩ : ∃ y_ : List Int, y_ = (List.replicate (ji3 : Int).toNat 0) := ⟨_, rfl⟩
      replace H : (spec_Packed.l0 k a1 y128 l0 (l0.length : Int) 0) = some r := by first | (rw [hy128]; with_reducible exact H) | (have H2_ := (Option.bind_some _ _).symm.trans H; rw [hy128]; with_reducible exact H2_) | (have H2_ := (Option.bind_some _ _).symm.trans H; with_reducible exact H2_) | with_reducible exact H | (rw [hy128]; exact H) | exact H
      have Ny128 := Aside0.mk hy128
      clear hy128
      have H' := Aside0.mk H
      clear H
      go_enter Tryz.func7, Tryz.ntmps7
      go_wp2_with (first | ((with_reducible refine gate_dst (N := 15) rfl ?_); refine Kd.R_make (Kd.int .u8) _ 5 rfl (N := 15) rfl 26 _ _ rfl ji3 rfl rfl Tryz.underlying26 (.int .u8 0) 1 info5 rfl (by decide) (by omega) 0 (ok := fun _ => True) (okp := fun _ => True) rfl (fun _ hk => hk) trivial (of_decide_eq_true (by first | (with_reducible assumption) | assumption)) (Nat.le_trans (Nat.mul_le_mul_right _ (of_decide_eq_true (by first | (with_reducible assumption) | assumption) : ji3.toNat ≤ 281474976710656)) (by omega)) (Below.refl _ _) (Nat.le_refl _) ?_; intro v129 w6 ho7 hb hg_ hnew_; clear hg_ hnew_; (first | rw [← Ny128.out] at ho7 | (simp only [Int.reduceToNat] at ho7; rw [← Ny128.out] at ho7)); have n0_ := Aside0.mk (Kd.R_lower ho7 (below_size (by repeat (first | (with_reducible first | exact HB.out | apply below_alloc | apply pw_below_drewN | apply below_drew1) | exact HB.out)))); have n1_ := Aside0.mk (below_step (by repeat (first | (with_reducible first | exact HB.out | apply below_alloc | apply pw_below_drewN | apply below_drew1) | exact HB.out)) hb); clear HB; have HO130 := n0_; have HB := n1_; clear n0_ n1_; clear hb ho7))
      go_loopg [18] k (fun kq v18 w' => ∃ (x5_1 : List Int) (x18_1 : Int), v18 = .int .i64 x18_1 ∧ Aside0 (spec_Packed.l0 kq a1 x5_1 l0 (l0.length : Int) x18_1 = some r) ∧ Aside0 (kq ≤ k) ∧ Aside0 (Kd.R (Kd.int .u8) 5 w' w.heap.size (fun _ => True) v129 x5_1) ∧ Aside0 (Below w.heap.size w w'))
      case atStart => exact ⟨(y128), (0), (by first | rfl | (simp; done) | (simp [*]; done)), H', ⟨Nat.le_refl _⟩, ⟨by (with_reducible repeat (first | apply Kd.R_alloc | apply Kd.R_drewN | apply Kd.R_drew)); exact HO130.out⟩, ⟨by repeat (first | (with_reducible first | exact HB.out | apply below_alloc | apply pw_below_drewN | apply below_drew1) | exact HB.out)⟩⟩
      case round =>
        clear H'
        try clear p2
        try clear c4
        try clear c4b0
        try clear c4b1
        try clear c5
        try clear c5b0
        try clear c5b1
        try clear p6
        try clear c7
        obtain ⟨x5_1, x18_1, rfl, HA, HK1, HO_5, HB⟩ := hrel
        cases gk with
        | zero => exact absurd HA.out (by simp [spec_Packed.l0])
        | succ k1 =>
          have H := HA.out
          clear HA
          simp only [spec_Packed.l0] at H
          by_cases c8 : x18_1 < (l0.length : Int)
          · rw [if_pos c8] at H
            have c8b0 : decide (x18_1 < (l0.length : Int)) = true := decide_eq_true c8
            clear c8
            by_cases c9 : 0 ≤ x18_1
            · rw [if_pos c9] at H
              have c9b0 : decide (0 ≤ x18_1) = true := decide_eq_true c9
              clear c9
              by_cases c10 : x18_1 < (l0.length : Int)
              · rw [if_pos c10] at H
                have c10b0 : decide (x18_1 < (l0.length : Int)) = true := decide_eq_true c10
                clear c10
                obtain ⟨bq11, hbq11⟩ : ∃ b_ : Bool, b_ = (rdOf false l0 x18_1) := ⟨_, rfl⟩
                replace H : (if bq11 = true then (if 0 ≤ (wrap64 (Int.tdiv (wrap64 (a1 + x18_1)) 8)) then (if (wrap64 (Int.tdiv (wrap64 (a1 + x18_1)) 8)) < (x5_1.length : Int) then (if 0 ≤ (Int.tmod (wrap64 (a1 + x18_1)) 8) then (spec_Packed.l0 k1 a1 (x5_1.set ((wrap64 (Int.tdiv (wrap64 (a1 + x18_1)) 8)) : Int).toNat (Go.bits .or .u8 (rd x5_1 (wrap64 (Int.tdiv (wrap64 (a1 + x18_1)) 8))) (shl .u8 1 (Int.tmod (wrap64 (a1 + x18_1)) 8)))) l0 (l0.length : Int) (wrap64 (x18_1 + 1))) else (none)) else (none)) else (none)) else (spec_Packed.l0 k1 a1 x5_1 l0 (l0.length : Int) (wrap64 (x18_1 + 1)))) = some r := by rw [← hbq11] at H; exact H
                have Nbq11 := Aside0.mk hbq11
                clear hbq11
                by_cases c12 : bq11 = true
                · subst c12
                  have H1 : (if 0 ≤ (wrap64 (Int.tdiv (wrap64 (a1 + x18_1)) 8)) then (if (wrap64 (Int.tdiv (wrap64 (a1 + x18_1)) 8)) < (x5_1.length : Int) then (if 0 ≤ (Int.tmod (wrap64 (a1 + x18_1)) 8) then (spec_Packed.l0 k1 a1 (x5_1.set ((wrap64 (Int.tdiv (wrap64 (a1 + x18_1)) 8)) : Int).toNat (Go.bits .or .u8 (rd x5_1 (wrap64 (Int.tdiv (wrap64 (a1 + x18_1)) 8))) (shl .u8 1 (Int.tmod (wrap64 (a1 + x18_1)) 8)))) l0 (l0.length : Int) (wrap64 (x18_1 + 1))) else (none)) else (none)) else (none)) = some r := by rw [if_pos rfl] at H; exact H
                  clear H
                  have H := H1
                  clear H1
                  obtain ⟨ji13, hji13⟩ : ∃ j_ : Int, (wrap64 (Int.tdiv (wrap64 (a1 + x18_1)) 8)) = j_ := ⟨_, rfl⟩
                  replace H : (if 0 ≤ (ji13) then (if (ji13) < (x5_1.length : Int) then (if 0 ≤ (Int.tmod (wrap64 (a1 + x18_1)) 8) then (spec_Packed.l0 k1 a1 (x5_1.set ((ji13) : Int).toNat (Go.bits .or .u8 (rd x5_1 (ji13)) (shl .u8 1 (Int.tmod (wrap64 (a1 + x18_1)) 8)))) l0 (l0.length : Int) (wrap64 (x18_1 + 1))) else (none)) else (none)) else (none)) = some r := by first | (rw [hji13] at H; exact H) | (simp only [hji13] at H ⊢; exact H)
                  have hji13w : (IntKind.i64.wrap (Int.tdiv (wrap64 (a1 + x18_1)) 8)) = ji13 := (i64_w _).trans hji13
                  by_cases c14 : 0 ≤ (ji13)
                  · rw [if_pos c14] at H
                    have c14b0 : decide (0 ≤ (ji13)) = true := decide_eq_true c14
                    clear c14
                    by_cases c15 : (ji13) < (x5_1.length : Int)
                    · rw [if_pos c15] at H
                      have c15b0 : decide ((ji13) < (x5_1.length : Int)) = true := decide_eq_true c15
                      clear c15
                      obtain ⟨ji16, hji16⟩ : ∃ j_ : Int, (Int.tmod (wrap64 (a1 + x18_1)) 8) = j_ := ⟨_, rfl⟩
                      replace H : (if 0 ≤ (ji16) then (spec_Packed.l0 k1 a1 (x5_1.set ((ji13) : Int).toNat (Go.bits .or .u8 (rd x5_1 (ji13)) (shl .u8 1 (ji16)))) l0 (l0.length : Int) (wrap64 (x18_1 + 1))) else (none)) = some r := by first | (rw [hji16] at H; exact H) | (simp only [hji16] at H ⊢; exact H)
                      by_cases c17 : 0 ≤ (ji16)
                      · rw [if_pos c17] at H
                        have c17b0 := eq_true c17
                        have c17b1 : decide (0 ≤ (ji16)) = true := decide_eq_true c17
                        clear c17
                        obtain ⟨ji18, hji18⟩ : ∃ j_ : Int, (shl .u8 1 (ji16)) = j_ := ⟨_, rfl⟩
                        replace H : (spec_Packed.l0 k1 a1 (x5_1.set ((ji13) : Int).toNat (Go.bits .or .u8 (rd x5_1 (ji13)) (ji18))) l0 (l0.length : Int) (wrap64 (x18_1 + 1))) = some r := by first | (rw [hji18] at H; exact H) | (simp only [hji18] at H ⊢; exact H)
                        have hji18_ : (IntKind.u8.wrap (1 * 2 ^ min (ji16).toNat 8)) = ji18 := hji18
                        have hji18z : (ji16) ≤ 8 → (IntKind.u8.wrap (1 * 2 ^ (ji16).toNat)) = ji18 := shl_small hji18
                        have hji18u : (IntKind.u8.wrap (2 ^ min (ji16).toNat 8)) = ji18 := by have h_ := hji18_; rw [Int.one_mul] at h_; exact h_
                        have hji18v : (ji16) ≤ 8 → (IntKind.u8.wrap (2 ^ (ji16).toNat)) = ji18 := fun hle_ => by have h_ := hji18z hle_; rw [Int.one_mul] at h_; exact h_
                        obtain ⟨y133, hy133⟩ : ∃ y_ : List Int, y_ = (x5_1.set ((ji13) : Int).toNat (Go.bits .or .u8 (rd x5_1 (ji13)) (ji18))) := ⟨_, rfl⟩
                        replace H : (spec_Packed.l0 k1 a1 y133 l0 (l0.length : Int) (wrap64 (x18_1 + 1))) = some r := by first | (rw [hy133]; with_reducible exact H) | (have H2_ := (Option.bind_some _ _).symm.trans H; rw [hy133]; with_reducible exact H2_) | (have H2_ := (Option.bind_some _ _).symm.trans H; with_reducible exact H2_) | with_reducible exact H | (rw [hy133]; exact H) | exact H
                        have Ny133 := Aside0.mk hy133
                        clear hy133
                        have H' := Aside0.mk H
                        clear H
                        have p131 : 0 ≤ (x18_1 : Int) := of_decide_eq_true (by first | (with_reducible assumption) | assumption)
                        have q131 : x18_1 < (l0.length : Int) := of_decide_eq_true (by first | (with_reducible assumption) | assumption)
                        obtain ⟨ad131, e131, hx131_0⟩ := Kd.at_bool HR0.out x18_1 p131 q131
                        (try rw [← Nbq11.out] at hx131_0)
                        cases e131
                        replace hx131_0 := (HB.out.cell (World.block_lt_of_cell? w _ hx131_0)).trans hx131_0
                        replace p131 := eq_true p131
                        replace q131 := eq_true q131
                        try go_wp2
                        have n0_ := Aside0.mk (Kd.R_drew HO_5.out)
                        have n1_ := Aside0.mk (below_drew1 HB.out)
                        clear HO_5
                        clear HB
                        have HO_5 := n0_
                        have HB := n1_
                        clear n0_ n1_
                        obtain ⟨Ao21, co21, eo21⟩ := Kd.R_slice HO_5.out
                        (first | subst eo21 | (injection eo21 with f1_ f2_ f3_; have f4_ := f1_.symm; have f5_ := f3_.symm; clear f1_ f2_ f3_; subst f4_; subst f5_))
                        have p132 : 0 ≤ ((ji13) : Int) := of_decide_eq_true (by first | (with_reducible assumption) | assumption)
                        have q132 : (ji13) < (x5_1.length : Int) := of_decide_eq_true (by first | (with_reducible assumption) | assumption)
                        obtain ⟨ad132, e132, hx132_0⟩ := Kd.at_int (Kd.R_reads' HO_5.out).2.2 (ji13) p132 q132
                        cases e132
                        replace p132 := eq_true p132
                        replace q132 := eq_true q132
                        have p19 : 0 ≤ ((ji13) : Int) := of_decide_eq_true (by first | (with_reducible assumption) | assumption)
                        have q19 : ((ji13) : Int) < ((x5_1.length : Int) : Int) := of_decide_eq_true (by first | (with_reducible assumption) | assumption)
                        obtain ⟨go19, co19, eo19, gb19, gl19, cl19, HG19⟩ := Kd.R_form HO_5.out (by omega)
                        (first | cases eo19 | (injection eo19 with ea_ en_ ec_; (first | subst ea_ | (injection ea_ with ea_; subst ea_)); subst ec_; clear en_))
                        have GB19 := Aside0.mk gb19
                        have GG19 := Aside0.mk HG19
                        clear gb19 gl19 HG19
                        (first | simp only [add_plain] at hx132_0 | skip)
                        obtain ⟨hx19_0, hf19_0⟩ := Kd.R_celln 0 HO_5.out ((ji13) : Int) p19 q19
                        replace p19 := eq_true p19
                        replace q19 := eq_true q19
                        have HP22 := Kd.R_putn HO_5.out ((ji13) : Int) (Go.bits .or .u8 (rd x5_1 (ji13)) (ji18))
                        rw [← Ny133.out] at HP22
                        have HQ22 := Aside0.mk HP22
                        clear HP22
                        refine start_ (n := 11) (S := fun w' => w'.cell? ⟨go19, ((ji13)).toNat, none⟩ = some (.int .u8 (rd x5_1 (ji13)))) (ds := [10]) #[false, false, false, false, false, false, false, false, false, false, false] (by kernel_rfl) rfl rfl (hx132_0) (fun hHeld => ?_); refine with_tabW spec_Packed.tab7 spec_Packed.bits7 (fun HT_ HW_ => ?_)
                        generalize wr.drew = w20 at HO_5 HB GG19 HQ22 hf19_0 hx132_0 hx19_0 hHeld ⊢
                        refine pure_ (i := 0) (N := some 27) (v := ?_) (a' := ?_) #[true, false, false, false, false, false, false, false, false, false, false] rfl rfl (any_of HT_.out (by kernel_rfl)) (fun _ _ _ h => h) (Or.inl ⟨by rfl, ?_⟩) ?_ ?_
                        rotate_left
                        · intro w'
                          go_simp
                          with_reducible rfl
                        rotate_left
                        · simp only [Act.put, List.setIfInBounds_toArray, List.set_cons_zero, List.set_cons_succ, i64_w, i32_w]
                          rfl
                        refine pure_ (i := 1) (N := some 28) (v := ?_) (a' := ?_) #[true, true, false, false, false, false, false, false, false, false, false] rfl rfl (any_of HT_.out (by kernel_rfl)) (fun _ _ _ h => h) (Or.inl ⟨by rfl, ?_⟩) ?_ ?_
                        rotate_left
                        · intro w'
                          go_simp
                          with_reducible rfl
                        rotate_left
                        · simp only [Act.put, List.setIfInBounds_toArray, List.set_cons_zero, List.set_cons_succ, i64_w, i32_w]
                          rfl
                        refine pure_ (i := 2) (N := some 29) (v := ?_) (a' := ?_) #[true, true, true, false, false, false, false, false, false, false, false] rfl rfl (any_of HT_.out (by kernel_rfl)) (fun _ _ _ h => h) (Or.inl ⟨by rfl, ?_⟩) ?_ ?_
                        rotate_left
                        · intro w'
                          go_simp
                          with_reducible rfl
                        rotate_left
                        · simp only [Act.put, List.setIfInBounds_toArray, List.set_cons_zero, List.set_cons_succ, i64_w, i32_w]
                          rfl
                        refine pure_ (i := 3) (N := some 30) (v := ?_) (a' := ?_) #[true, true, true, true, false, false, false, false, false, false, false] rfl rfl (any_of HT_.out (by kernel_rfl)) (fun _ _ _ h => h) (Or.inl ⟨by rfl, ?_⟩) ?_ ?_
                        rotate_left
                        · intro w'
                          go_simp
                          with_reducible rfl
                        rotate_left
                        · simp only [Act.put, List.setIfInBounds_toArray, List.set_cons_zero, List.set_cons_succ, i64_w, i32_w]
                          rfl
                        refine pure_ (i := 5) (N := some 32) (v := ?_) (a' := ?_) #[true, true, true, true, false, true, false, false, false, false, false] rfl rfl (any_of HT_.out (by kernel_rfl)) (fun _ _ _ h => h) (Or.inl ⟨by rfl, ?_⟩) ?_ ?_
                        rotate_left
                        · intro w'
                          go_simp
                          with_reducible rfl
                        rotate_left
                        · simp only [Act.put, List.setIfInBounds_toArray, List.set_cons_zero, List.set_cons_succ, i64_w, i32_w]
                          rfl
                        refine pure_ (i := 6) (N := some 33) (v := ?_) (a' := ?_) #[true, true, true, true, false, true, true, false, false, false, false] rfl rfl (any_of HT_.out (by kernel_rfl)) (fun _ _ _ h => h) (Or.inl ⟨by rfl, ?_⟩) ?_ ?_
                        rotate_left
                        · intro w'
                          go_simp
                          with_reducible rfl
                        rotate_left
                        · simp only [Act.put, List.setIfInBounds_toArray, List.set_cons_zero, List.set_cons_succ, i64_w, i32_w]
                          rfl
                        refine pure_ (i := 7) (N := some 34) (v := ?_) (a' := ?_) #[true, true, true, true, false, true, true, true, false, false, false] rfl rfl (any_of HT_.out (by kernel_rfl)) (fun _ _ _ h => h) (Or.inl ⟨by rfl, ?_⟩) ?_ ?_
                        rotate_left
                        · intro w'
                          go_simp
                          with_reducible rfl
                        rotate_left
                        · simp only [Act.put, List.setIfInBounds_toArray, List.set_cons_zero, List.set_cons_succ, i64_w, i32_w]
                          rfl
                        refine take_ (i := 4) (N := some 31) (v := ?_) (a' := ?_) #[true, true, true, true, true, true, true, true, false, false, false] rfl rfl (take_ofW HT_.out HW_.out (by kernel_rfl)) (fun _ _ _ h => h) (Or.inl ⟨by rfl, ?_⟩) hHeld ?_ ?_
                        rotate_left
                        · intro w' s0
                          go_simp
                          with_reducible rfl
                        rotate_left
                        · simp only [Act.put, List.setIfInBounds_toArray, List.set_cons_zero, List.set_cons_succ, i64_w, i32_w]
                          rfl
                        refine pure_ (i := 8) (N := some 35) (v := ?_) (a' := ?_) #[true, true, true, true, true, true, true, true, true, false, false] rfl rfl (any_of HT_.out (by kernel_rfl)) (fun _ _ _ h => h) (Or.inl ⟨by rfl, ?_⟩) ?_ ?_
                        rotate_left
                        · intro w'
                          go_simp
                          with_reducible rfl
                        rotate_left
                        · simp only [Act.put, List.setIfInBounds_toArray, List.set_cons_zero, List.set_cons_succ, i64_w, i32_w]
                          rfl
                        refine pure_ (i := 9) (N := some 36) (v := ?_) (a' := ?_) #[true, true, true, true, true, true, true, true, true, true, false] rfl rfl (any_of HT_.out (by kernel_rfl)) (fun _ _ _ h => h) (Or.inl ⟨by rfl, ?_⟩) ?_ ?_
                        rotate_left
                        · intro w'
                          go_simp
                          with_reducible rfl
                        rotate_left
                        · simp only [Act.put, List.setIfInBounds_toArray, List.set_cons_zero, List.set_cons_succ, i64_w, i32_w]
                          rfl
                        refine last_ (i := 10) (N := none) #[true, true, true, true, true, true, true, true, true, true, true] rfl rfl (one_of HT_.out (by kernel_rfl)) (by decide) (fun K hK => ?_)
                        refine skip_ (w1 := ?_) (by rfl) rfl ?_ ?_
                        rotate_left
                        · go_simp
                          rfl
                        refine hK.out _ _ ?_
                        clear hK K
                        refine done_ (done_of HT_.out (by kernel_rfl)) ?_
                        try go_wp2
                        go_roundg k1
                        case measure => have := HK1.out; omega
                        case rel => exact ⟨(y133), (wrap64 (x18_1 + 1)), (by first | rfl | (simp; done) | (simp [*]; done)), H', ⟨by have := HK1.out; omega⟩, ⟨by (with_reducible repeat (first | apply Kd.R_alloc | apply Kd.R_drewN | apply Kd.R_drew)); exact HQ22.out⟩, ⟨by repeat (first | (with_reducible first | exact HB.out | apply below_alloc | apply pw_below_drewN | apply below_drew1 | refine below_set ?_ GB19.out) | exact HB.out)⟩⟩
                      · rw [if_neg c17] at H
                        exact absurd H (by simp)
                    · rw [if_neg c15] at H
                      exact absurd H (by simp)
                  · rw [if_neg c14] at H
                    exact absurd H (by simp)
                · replace c12 := Bool.eq_false_iff.mpr c12
                  subst c12
                  have H1 : (spec_Packed.l0 k1 a1 x5_1 l0 (l0.length : Int) (wrap64 (x18_1 + 1))) = some r := by rw [if_neg (show ¬ (false = true) by decide)] at H; exact H
                  clear H
                  have H := H1
                  clear H1
                  have H' := Aside0.mk H
                  clear H
                  have p131 : 0 ≤ (x18_1 : Int) := of_decide_eq_true (by first | (with_reducible assumption) | assumption)
                  have q131 : x18_1 < (l0.length : Int) := of_decide_eq_true (by first | (with_reducible assumption) | assumption)
                  obtain ⟨ad131, e131, hx131_0⟩ := Kd.at_bool HR0.out x18_1 p131 q131
                  (try rw [← Nbq11.out] at hx131_0)
                  cases e131
                  replace hx131_0 := (HB.out.cell (World.block_lt_of_cell? w _ hx131_0)).trans hx131_0
                  replace p131 := eq_true p131
                  replace q131 := eq_true q131
                  go_wp2
                  go_roundg k1
                  case measure => have := HK1.out; omega
                  case rel => exact ⟨(x5_1), (wrap64 (x18_1 + 1)), (by first | rfl | (simp; done) | (simp [*]; done)), H', ⟨by have := HK1.out; omega⟩, ⟨by (with_reducible repeat (first | apply Kd.R_alloc | apply Kd.R_drewN | apply Kd.R_drew)); exact HO_5.out⟩, ⟨by repeat (first | (with_reducible first | exact HB.out | apply below_alloc | apply pw_below_drewN | apply below_drew1) | exact HB.out)⟩⟩
              · rw [if_neg c10] at H
                exact absurd H (by simp)
            · rw [if_neg c9] at H
              exact absurd H (by simp)
          · rw [if_neg c8] at H
            have c8b0 : decide (x18_1 < (l0.length : Int)) = false := decide_eq_false c8
            clear c8
            obtain rfl := Option.some.inj H
            go_wp2
            go_ret
            exact ⟨_, by first | rfl | (simp [errW_none, errW_some] <;> rfl) | (simp only [← hji3]; first | rfl | (simp [errW_none, errW_some] <;> rfl)) | (simp [*, errW_none, errW_some] <;> rfl), by (with_reducible repeat (first | apply Kd.R_alloc | apply Kd.R_drewN | apply Kd.R_drew)); exact HO_5.out, by repeat (first | (with_reducible first | exact HB.out | apply below_alloc | apply pw_below_drewN | apply below_drew1) | exact HB.out)⟩
    · rw [if_neg c5] at H
      exact absurd H (by simp)
  · rw [if_neg c4] at H
    exact absurd H (by simp)

/-! ### laws_behind: function 8 -/
def laws_behind.f (l0 : List Int) : Option (List Int) := (some (([((l0.length : Int)) % 256, ((l0.length : Int) / 256) % 256, ((l0.length : Int) / 65536) % 256, ((l0.length : Int) / 16777216) % 256] : List Int) : List Int)).bind fun y134 => (if y134.length + l0.length < 140737488355328 then (some (y134 ++ l0)) else (none))
set_option maxHeartbeats 8000000 in
set_option maxRecDepth 100000 in
theorem laws_behind.calls (A0 : Option Addr) (c0 : Nat) (l0 : List Int) (r : List Int) (w : World) (hr0 : Kd.C (Kd.int .u8) w A0 l0.length l0) (hc0 : l0.length ≤ c0) (h : laws_behind.f l0 = some r) :
    Calls Tryz.prog 8 #[.slice A0 l0.length c0] w fun e w' => ∃ v0_ : Value, e = .returned (v0_) ∧ Kd.R (Kd.int .u8) 5 w' w.heap.size (fun _ => True) v0_ r ∧ Below w.heap.size w w' := by
  have HR0 := Aside0.mk hr0
  have HC0 := Aside0.mk hc0
  clear hr0 hc0
  have HB := Aside0.mk (Below.refl w.heap.size w)
  have H : ((some (([((l0.length : Int)) % 256, ((l0.length : Int) / 256) % 256, ((l0.length : Int) / 65536) % 256, ((l0.length : Int) / 16777216) % 256] : List Int) : List Int)).bind fun y134 => (if y134.length + l0.length < 140737488355328 then (some (y134 ++ l0)) else (none))) = some r := h
  clear h
  obtain ⟨y134, hy134⟩ : ∃ y_ : List Int, y_ = (([((l0.length : Int)) % 256, ((l0.length : Int) / 256) % 256, ((l0.length : Int) / 65536) % 256, ((l0.length : Int) / 16777216) % 256] : List Int)) := ⟨_, rfl⟩
  replace H : (if y134.length + l0.length < 140737488355328 then (some (y134 ++ l0)) else (none)) = some r := by first | (rw [hy134]; with_reducible exact H) | (have H2_ := (Option.bind_some _ _).symm.trans H; rw [hy134]; with_reducible exact H2_) | (have H2_ := (Option.bind_some _ _).symm.trans H; with_reducible exact H2_) | with_reducible exact H | (rw [hy134]; exact H) | exact H
  have Ny134 := Aside0.mk hy134
  clear hy134
  by_cases c2 : y134.length + l0.length < 140737488355328
  · rw [if_pos c2] at H
    have LMc2 := Aside0.mk c2
    clear c2
    obtain ⟨y137, hy137⟩ : ∃ y_ : List Int, y_ = (y134 ++ l0) := ⟨_, rfl⟩
    replace H : (some y137) = some r := by first | (rw [hy137]; with_reducible exact H) | (have H2_ := (Option.bind_some _ _).symm.trans H; rw [hy137]; with_reducible exact H2_) | (have H2_ := (Option.bind_some _ _).symm.trans H; with_reducible exact H2_) | with_reducible exact H | (rw [hy137]; exact H) | exact H
    have Ny137 := Aside0.mk hy137
    clear hy137
    obtain rfl := Option.some.inj H
    go_enter Tryz.func8, Tryz.ntmps8
    go_wp2_with (first | ((with_reducible refine gate_dst (N := 17) rfl ?_); refine Kd.R_lit (Kd.int .u8) _ 5 ?hg (N := 17) ?hd (xs := ([((l0.length : Int)) % 256, ((l0.length : Int) / 256) % 256, ((l0.length : Int) / 65536) % 256, ((l0.length : Int) / 16777216) % 256] : List Int)) (inner := [.int .u8 (((l0.length : Int)) % 256), .int .u8 (((l0.length : Int) / 256) % 256), .int .u8 (((l0.length : Int) / 65536) % 256), .int .u8 (((l0.length : Int) / 16777216) % 256)]) (ok := fun _ => True) (okp := fun _ => True) ?hr ?hp (fun _ hk => hk) trivial (Below.refl _ _) (Nat.le_refl _) (by simp) ?_; (case hd => rfl); (case hg => rfl); (case hr => first | (go_simp; done) | (go_simp; rfl)); (case hp => exact (Reps.one (show Kd.M (Kd.int .u8) _ _ _ (((l0.length : Int)) % 256) [.int .u8 (((l0.length : Int)) % 256)] from rfl) (Reps.one (show Kd.M (Kd.int .u8) _ _ _ (((l0.length : Int) / 256) % 256) [.int .u8 (((l0.length : Int) / 256) % 256)] from rfl) (Reps.one (show Kd.M (Kd.int .u8) _ _ _ (((l0.length : Int) / 65536) % 256) [.int .u8 (((l0.length : Int) / 65536) % 256)] from rfl) (Reps.one (show Kd.M (Kd.int .u8) _ _ _ (((l0.length : Int) / 16777216) % 256) [.int .u8 (((l0.length : Int) / 16777216) % 256)] from rfl) (Reps.none _ _)))))); intro v135 w3 ho4 hb hg_ hnew_; clear hg_ hnew_; (first | rw [← Ny134.out] at ho4 | (simp only [Int.reduceToNat] at ho4; rw [← Ny134.out] at ho4)); have n0_ := Aside0.mk (Kd.R_lower ho4 (below_size (by repeat (first | (with_reducible first | exact HB.out | apply below_alloc | apply pw_below_drewN | apply below_drew1) | exact HB.out)))); have n1_ := Aside0.mk (below_step (by repeat (first | (with_reducible first | exact HB.out | apply below_alloc | apply pw_below_drewN | apply below_drew1) | exact HB.out)) hb); clear HB; have HO136 := n0_; have HB := n1_; clear n0_ n1_; clear hb ho4) | ((with_reducible refine gate_builtin (b := .append) (xs := #[.tmp 17, .tmp 18]) rfl ?_); at_builtin; refine Kd.R_append_rows (Kd.int .u8) (w0 := w) w.heap.size rfl (.tmp 17) (.tmp 18) 26 5 (.int .u8 0) 1 rfl Tryz.underlying26 info5 rfl (by decide) (by omega) v135 y134 l0 _ _ _ (fun _ => True) (fun _ => False) rfl rfl ?aO ?aR (fun _ _ h => h) (fun _ h => h.elim) ?aF ?aB ?aS ?aL ?_; (case aR => repeat (first | exact (Kd.C_below HR0.out HB.out) | (with_reducible refine Kd.C_alloc ?_ _) | (with_reducible refine Kd.C_drewN ?_ _) | (with_reducible refine Kd.C_drew ?_))); (case aB => exact (by repeat (first | (with_reducible first | exact HB.out | apply below_alloc | apply pw_below_drewN | apply below_drew1) | exact HB.out))); (case aF => exact (fun _ _ => trivial)); (case aO => exact (by (with_reducible repeat (first | apply Kd.R_alloc | apply Kd.R_drewN | apply Kd.R_drew)); exact HO136.out)); (case aS => exact (below_size (by repeat (first | (with_reducible first | exact HB.out | apply below_alloc | apply pw_below_drewN | apply below_drew1) | exact HB.out)))); (case aL => have := LMc2.out; omega); intro v138 w5 ho hb hg hat; rw [← Ny137.out] at ho; have n0_ := Aside0.mk (hb); have n1_ := Aside0.mk (ho); clear HB; clear HO136; have HB := n0_; have HO139 := n1_; clear n0_ n1_; clear ho hb hg hat))
    go_ret
    exact ⟨_, by first | rfl | (simp [errW_none, errW_some] <;> rfl) | (simp [*, errW_none, errW_some] <;> rfl), by (with_reducible repeat (first | apply Kd.R_alloc | apply Kd.R_drewN | apply Kd.R_drew)); exact HO139.out, by repeat (first | (with_reducible first | exact HB.out | apply below_alloc | apply pw_below_drewN | apply below_drew1) | exact HB.out)⟩
  · rw [if_neg c2] at H
    exact absurd H (by simp)

/-! ### spec_PutVLQ: function 25 -/
def spec_PutVLQ.l0 : Nat → Int → List Int → Option (List Int)
  | 0, _, _ => none
  | k + 1, x0, x3 => if x0 ≥ 128 then (if x3.length < 140737488355328 then (spec_PutVLQ.l0 k (x0 / 128) (x3 ++ [Go.bits .or .u8 ((x0) % 256) 128])) else (none)) else (if x3.length < 140737488355328 then (some (x3 ++ [(x0) % 256])) else (none))
def spec_PutVLQ.f (k : Nat) (a0 : Int) : Option (List Int) := spec_PutVLQ.l0 k a0 ([] : List Int)
theorem spec_PutVLQ.mono_l : ∀ k, (∀ y0 y1, LeO (spec_PutVLQ.l0 k y0 y1) (spec_PutVLQ.l0 (k + 1) y0 y1))
  | 0 => fun _ _ r h => by simp [spec_PutVLQ.l0] at h
  | k + 1 => by
    have ih0 := spec_PutVLQ.mono_l k
    · intro y0 y1
      unfold spec_PutVLQ.l0
      repeat' first
      | (with_reducible exact ih0 _ _)
      | (with_reducible exact LeO.refl _)
      | (with_reducible exact LeO.none _)
      | (with_reducible refine LeO.ite ?_ ?_)
      | (with_reducible refine LeO.bind ?_ (fun _ => ?_))
      | exact ih0 _ _
      | exact LeO.none _
      | refine LeO.ite ?_ ?_
      | refine LeO.bind ?_ (fun _ => ?_)
theorem spec_PutVLQ.mono : ∀ a0 k, LeO (spec_PutVLQ.f k a0) (spec_PutVLQ.f (k + 1) a0) := by
  intro a0 k
  have ih0 := spec_PutVLQ.mono_l k
  unfold spec_PutVLQ.f
  repeat' first
      | (with_reducible exact ih0 _ _)
      | (with_reducible exact LeO.refl _)
      | (with_reducible exact LeO.none _)
      | (with_reducible refine LeO.ite ?_ ?_)
      | (with_reducible refine LeO.bind ?_ (fun _ => ?_))
      | exact ih0 _ _
      | exact LeO.none _
      | refine LeO.ite ?_ ?_
      | refine LeO.bind ?_ (fun _ => ?_)
set_option maxHeartbeats 8000000 in
set_option maxRecDepth 100000 in
theorem spec_PutVLQ.calls (k : Nat) (a0 : Int) (r : List Int) (w : World) (h : spec_PutVLQ.f k a0 = some r) :
    Calls Tryz.prog 25 #[.int .u64 a0] w fun e w' => ∃ v0_ : Value, e = .returned (v0_) ∧ Kd.R (Kd.int .u8) 5 w' w.heap.size (fun _ => True) v0_ r ∧ Below w.heap.size w w' := by
  have HB := Aside0.mk (Below.refl w.heap.size w)
  have H : (spec_PutVLQ.l0 k a0 ([] : List Int)) = some r := h
  clear h
  have H' := Aside0.mk H
  clear H
  go_enter Tryz.func25, Tryz.ntmps25
  go_wp2
  go_loopg [0, 3] k (fun kq v0 v3 w' => ∃ (x0_1 : Int) (x3_1 : List Int), v0 = .int .u64 x0_1 ∧ Aside0 (spec_PutVLQ.l0 kq x0_1 x3_1 = some r) ∧ Aside0 (kq ≤ k) ∧ Aside0 (Kd.R (Kd.int .u8) 5 w' w.heap.size (fun _ => True) v3 x3_1) ∧ Aside0 (Below w.heap.size w w'))
  case atStart => exact ⟨(a0), (([] : List Int)), (by first | rfl | (simp; done) | (simp [*]; done)), H', ⟨Nat.le_refl _⟩, ⟨by first | exact Kd.R_nil _ _ _ _ _ | exact Kd.N_nil _ _ _ _ _ | exact Kd.V_nil _ _ _ _ _ | exact Kd.Q_nil _ _ _ _ _ | exact Kd.S_nil _ _ _ _ _⟩, ⟨by repeat (first | (with_reducible first | exact HB.out | apply below_alloc | apply pw_below_drewN | apply below_drew1) | exact HB.out)⟩⟩
  case round =>
    clear H'
    obtain ⟨x0_1, x3_1, rfl, HA, HK1, HO_3, HB⟩ := hrel
    cases gk with
    | zero => exact absurd HA.out (by simp [spec_PutVLQ.l0])
    | succ k1 =>
      have H := HA.out
      clear HA
      simp only [spec_PutVLQ.l0] at H
      by_cases c2 : x0_1 ≥ 128
      · rw [if_pos c2] at H
        have c2b0 : decide (128 ≤ x0_1) = true := decide_eq_true c2
        clear c2
        by_cases c3 : x3_1.length < 140737488355328
        · rw [if_pos c3] at H
          have LMc3 := Aside0.mk c3
          clear c3
          obtain ⟨y140, hy140⟩ : ∃ y_ : List Int, y_ = (x3_1 ++ [Go.bits .or .u8 ((x0_1) % 256) 128]) := ⟨_, rfl⟩
          replace H : (spec_PutVLQ.l0 k1 (x0_1 / 128) y140) = some r := by first | (rw [hy140]; with_reducible exact H) | (have H2_ := (Option.bind_some _ _).symm.trans H; rw [hy140]; with_reducible exact H2_) | (have H2_ := (Option.bind_some _ _).symm.trans H; with_reducible exact H2_) | with_reducible exact H | (rw [hy140]; exact H) | exact H
          have Ny140 := Aside0.mk hy140
          clear hy140
          have H' := Aside0.mk H
          clear H
          go_wp2_with (first | ((with_reducible refine gate_builtin (b := .append) (xs := #[.tmp 6, .tmp 10]) rfl ?_); at_builtin; refine Kd.R_append (Kd.int .u8) (w0 := w) w.heap.size rfl (.tmp 6) (.tmp 10) 26 5 (.int .u8 0) 1 rfl Tryz.underlying26 info5 rfl (by decide) (by omega) u3 x3_1 (Go.bits .or .u8 ((x0_1) % 256) 128) [.int .u8 (Go.bits .or .u8 ((x0_1) % 256) 128)] (fun _ => True) (fun _ => False) rfl rfl ?aP (fun _ hk => hk.elim) ?aF ?aO ?aB ?aS ?aL ?_; (case aP => exact rfl); (case aB => exact (by repeat (first | (with_reducible first | exact HB.out | apply below_alloc | apply pw_below_drewN | apply below_drew1) | exact HB.out))); (case aF => exact (fun _ _ => trivial)); (case aO => exact (by (with_reducible repeat (first | apply Kd.R_alloc | apply Kd.R_drewN | apply Kd.R_drew)); exact HO_3.out)); (case aS => exact (below_size (by repeat (first | (with_reducible first | exact HB.out | apply below_alloc | apply pw_below_drewN | apply below_drew1) | exact HB.out)))); (case aL => have := LMc3.out; omega); intro v141 w4 ho hb hg hat; rw [← Ny140.out] at ho; have n0_ := Aside0.mk (hb); have n1_ := Aside0.mk (ho); clear HB; clear HO_3; have HB := n0_; have HO142 := n1_; clear n0_ n1_; clear ho hb hg hat))
          go_roundg k1
          case measure => have := HK1.out; omega
          case rel => exact ⟨(x0_1 / 128), (y140), (by first | rfl | (simp; done) | (simp [*]; done)), H', ⟨by have := HK1.out; omega⟩, ⟨by (with_reducible repeat (first | apply Kd.R_alloc | apply Kd.R_drewN | apply Kd.R_drew)); exact HO142.out⟩, ⟨by repeat (first | (with_reducible first | exact HB.out | apply below_alloc | apply pw_below_drewN | apply below_drew1) | exact HB.out)⟩⟩
        · rw [if_neg c3] at H
          exact absurd H (by simp)
      · rw [if_neg c2] at H
        have c2b0 : decide (128 ≤ x0_1) = false := decide_eq_false c2
        clear c2
        by_cases c5 : x3_1.length < 140737488355328
        · rw [if_pos c5] at H
          have LMc5 := Aside0.mk c5
          clear c5
          obtain ⟨y143, hy143⟩ : ∃ y_ : List Int, y_ = (x3_1 ++ [(x0_1) % 256]) := ⟨_, rfl⟩
          replace H : (some y143) = some r := by first | (rw [hy143]; with_reducible exact H) | (have H2_ := (Option.bind_some _ _).symm.trans H; rw [hy143]; with_reducible exact H2_) | (have H2_ := (Option.bind_some _ _).symm.trans H; with_reducible exact H2_) | with_reducible exact H | (rw [hy143]; exact H) | exact H
          have Ny143 := Aside0.mk hy143
          clear hy143
          obtain rfl := Option.some.inj H
          go_wp2_with (first | ((with_reducible refine gate_builtin (b := .append) (xs := #[.tmp 14, .tmp 17]) rfl ?_); at_builtin; refine Kd.R_append (Kd.int .u8) (w0 := w) w.heap.size rfl (.tmp 14) (.tmp 17) 26 5 (.int .u8 0) 1 rfl Tryz.underlying26 info5 rfl (by decide) (by omega) u3 x3_1 ((x0_1) % 256) [.int .u8 ((x0_1) % 256)] (fun _ => True) (fun _ => False) rfl rfl ?aP (fun _ hk => hk.elim) ?aF ?aO ?aB ?aS ?aL ?_; (case aP => exact rfl); (case aB => exact (by repeat (first | (with_reducible first | exact HB.out | apply below_alloc | apply pw_below_drewN | apply below_drew1) | exact HB.out))); (case aF => exact (fun _ _ => trivial)); (case aO => exact (by (with_reducible repeat (first | apply Kd.R_alloc | apply Kd.R_drewN | apply Kd.R_drew)); exact HO_3.out)); (case aS => exact (below_size (by repeat (first | (with_reducible first | exact HB.out | apply below_alloc | apply pw_below_drewN | apply below_drew1) | exact HB.out)))); (case aL => have := LMc5.out; omega); intro v144 w6 ho hb hg hat; rw [← Ny143.out] at ho; have n0_ := Aside0.mk (hb); have n1_ := Aside0.mk (ho); clear HB; clear HO_3; have HB := n0_; have HO145 := n1_; clear n0_ n1_; clear ho hb hg hat))
          go_ret
          exact ⟨_, by first | rfl | (simp [errW_none, errW_some] <;> rfl) | (simp [*, errW_none, errW_some] <;> rfl), by (with_reducible repeat (first | apply Kd.R_alloc | apply Kd.R_drewN | apply Kd.R_drew)); exact HO145.out, by repeat (first | (with_reducible first | exact HB.out | apply below_alloc | apply pw_below_drewN | apply below_drew1) | exact HB.out)⟩
        · rw [if_neg c5] at H
          exact absurd H (by simp)

end Go.Proofs.YtflgbndhahcdnaaGreatDoor.PFnBoolsRead
