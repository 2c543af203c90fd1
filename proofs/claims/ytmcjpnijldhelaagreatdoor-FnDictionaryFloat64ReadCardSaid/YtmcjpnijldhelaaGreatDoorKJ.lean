/- Part 10 of the proof: the texts VE, VF, VG, DM, DKF, joined. What each proves stands ahead of it. -/
import Derived.Test.YtmcjpnijldhelaaGreatDoorKI
import Derived.Test.YtmcjpnijldhelaaGreatDoorKF
import Derived.Test.YtmcjpnijldhelaaGreatDoorKG
set_option linter.unusedVariables false
set_option linter.unusedSimpArgs false
/- Values: whether all are plain, their bytes. (Printed by wip/mk_ve.py.) -/
namespace Go.Proofs.YtmcjpnijldhelaaGreatDoor
open Go Go.RowKit Go.Proofs.YtmcjpnijldhelaaGreatDoor.PFnDictionaryFloat64Read Go.Proofs.YtmcjpnijldhelaaGreatDoorW.PrintWords Go.Proofs.YtmcjpnijldhelaaGreatDoorW.PrintMore
theorem mem_take_succ {α : Type} {P : α → Prop} {l : List α} {k : Nat} (hk : k < l.length) (h : ∀ v ∈ l.take k, P v) (hP : P l[k]) : ∀ v ∈ l.take (k + 1), P v := by
  rw [List.take_add_one, List.getElem?_eq_getElem hk]
  intro v hv
  rcases List.mem_append.1 hv with hv | hv
  · exact h v hv
  · simp at hv; rw [hv]; exact hP
set_option maxRecDepth 100000 in
set_option maxHeartbeats 1000000 in
theorem plainAll_ok (l : List S35) (A : Option Addr) (c : Nat) (w : World) (hC : Kd.C k35 w A l.length l) (hl : l.length ≤ 1000000) : Calls Tryz.prog 13 #[tyF, .slice A l.length c] w fun e w' => ∃ r, e = .returned (.bool r) ∧ (r = true → (∀ v ∈ l, PlainV v) ∧ l.length ≤ 500) ∧ Below w.heap.size w w' := by
  have HC := Lib.hid hC
  have Hf := Lib.hid oneFits_ok
  clear hC
  unfold tyF at *
  go_enter Tryz.func13, Tryz.ntmps13
  go_wp2_with fail
  obtain ⟨w1, hw1⟩ : ∃ w1, w1 = w.alloc (.cells #[.int .i64 3, .int .i64 64, .bool false, .int .i64 0, .int .i64 0, .int .i64 0, .string ⟨#[]⟩, .bool false, .slice none 0 0, .slice none 0 0] 32) := ⟨_, rfl⟩
  have k1 : ∀ (i : Nat) (v : Value), #[.int .i64 3, .int .i64 64, .bool false, .int .i64 0, .int .i64 0, .int .i64 0, .string ⟨#[]⟩, .bool false, .slice none 0 0, .slice none 0 0][i]? = some v → w1.cell? ⟨w.heap.size, i, none⟩ = some v := fun i v hv => by rw [hw1]; exact fresh_cell rfl hv
  have hb1 : Below w.heap.size w w1 := by rw [hw1]; exact ((Chg.refl Nix w).alloc _).toBelow
  have hs1 : w1.heap.size = w.heap.size + 1 := by rw [hw1]; simp
  rw [← hw1]
  have K1 := Lib.hid k1
  have HB1 := Lib.hid hb1
  clear k1 hb1 hw1
  go_loopw [9] (fun i wx => ∃ k, k ≤ l.length ∧ i = .int .i64 (k : Nat) ∧ (∀ v ∈ l.take k, PlainV v) ∧ Below w1.heap.size w1 wx) (fun i _ => l.length - (intOf i).toNat)
  case atStart => exact ⟨0, Nat.zero_le _, rfl, (fun v hv => by cases hv), Below.refl _ _⟩
  case round =>
    obtain ⟨k, hk, rfl, hP, hB⟩ := hrel
    have HB := Lib.hid hB
    have HP := Lib.hid hP
    clear hB hP
    by_cases hkl : k < l.length
    · obtain ⟨g, o, A3, c3, rfl, h0, h1, h2, h3⟩ := val_at HC.out k hkl
      have hC' := HB1.out.trans (HB.out.mono (by omega))
      have e0 := (Chg.ofBelow hC').keep h0 (fun h => h)
      have e1 := (Chg.ofBelow hC').keep h1 (fun h => h)
      have e2 := (Chg.ofBelow hC').keep h2 (fun h => h)
      have e3 := (Chg.ofBelow hC').keep h3 (fun h => h)
      generalize hv : l[k] = v at *
      obtain ⟨f0, f1, f2, f3⟩ := v
      simp only at e0 e1 e2 e3
      have HV := Lib.hid hv
      clear hC' h0 h1 h2 h3 hv
      obtain ⟨o1, ho1⟩ : ∃ o1, o1 = Obj.cells #[.bool f0, .int .u64 f1, .string f2, .slice A3 f3.length c3] 35 := ⟨_, rfl⟩
      have t : ∀ (i : Nat) (v : Value), #[.int .i64 3, .int .i64 64, .bool false, .int .i64 0, .int .i64 0, .int .i64 0, .string ⟨#[]⟩, .bool false, .slice none 0 0, .slice none 0 0][i]? = some v → (wr.alloc o1).cell? ⟨w.heap.size, i, none⟩ = some v := fun i v hv => ((Chg.ofBelow HB.out).alloc o1).keep (K1.out i v hv) (fun h => h)
      rw [ho1] at t
      have t0 : (wr.alloc (.cells #[.bool f0, .int .u64 f1, .string f2, .slice A3 f3.length c3] 35)).cell? ⟨w.heap.size, 0, none⟩ = some (.int .i64 3) := t 0 _ rfl
      have t1 : (wr.alloc (.cells #[.bool f0, .int .u64 f1, .string f2, .slice A3 f3.length c3] 35)).cell? ⟨w.heap.size, 1, none⟩ = some (.int .i64 64) := t 1 _ rfl
      have t2 : (wr.alloc (.cells #[.bool f0, .int .u64 f1, .string f2, .slice A3 f3.length c3] 35)).cell? ⟨w.heap.size, 2, none⟩ = some (.bool false) := t 2 _ rfl
      have t3 : (wr.alloc (.cells #[.bool f0, .int .u64 f1, .string f2, .slice A3 f3.length c3] 35)).cell? ⟨w.heap.size, 3, none⟩ = some (.int .i64 0) := t 3 _ rfl
      have t4 : (wr.alloc (.cells #[.bool f0, .int .u64 f1, .string f2, .slice A3 f3.length c3] 35)).cell? ⟨w.heap.size, 4, none⟩ = some (.int .i64 0) := t 4 _ rfl
      have t5 : (wr.alloc (.cells #[.bool f0, .int .u64 f1, .string f2, .slice A3 f3.length c3] 35)).cell? ⟨w.heap.size, 5, none⟩ = some (.int .i64 0) := t 5 _ rfl
      have t6 : (wr.alloc (.cells #[.bool f0, .int .u64 f1, .string f2, .slice A3 f3.length c3] 35)).cell? ⟨w.heap.size, 6, none⟩ = some (.string ⟨#[]⟩) := t 6 _ rfl
      have t7 : (wr.alloc (.cells #[.bool f0, .int .u64 f1, .string f2, .slice A3 f3.length c3] 35)).cell? ⟨w.heap.size, 7, none⟩ = some (.bool false) := t 7 _ rfl
      have t8 : (wr.alloc (.cells #[.bool f0, .int .u64 f1, .string f2, .slice A3 f3.length c3] 35)).cell? ⟨w.heap.size, 8, none⟩ = some (.slice none 0 0) := t 8 _ rfl
      have t9 : (wr.alloc (.cells #[.bool f0, .int .u64 f1, .string f2, .slice A3 f3.length c3] 35)).cell? ⟨w.heap.size, 9, none⟩ = some (.slice none 0 0) := t 9 _ rfl
      have hB3 : Below w1.heap.size w1 (wr.alloc (.cells #[.bool f0, .int .u64 f1, .string f2, .slice A3 f3.length c3] 35)) := ((Chg.ofBelow HB.out).alloc _).toBelow
      have HB3 := Lib.hid hB3
      have hs3 := hB3.size
      clear t ho1 hB3
      cases f0
      · go_wp2_with fail
        refine (Hf.out f1 f2 A3 f3.length c3 _).mono ?_
        rintro e w4 ⟨r, rfl, hr, hb⟩
        have HB4 := Lib.hid (HB3.out.trans (hb.mono hs3))
        clear hb Hf
        cases r
        · go_wp2_with fail
          go_ret
          exact ⟨false, rfl, (fun h => by cases h), HB1.out.trans (HB4.out.mono (by omega))⟩
        · have hr' := hr rfl
          have HP' : Hid (∀ v ∈ l.take (k + 1), PlainV v) := Lib.hid (mem_take_succ hkl HP.out (by rw [HV.out]; exact ⟨rfl, hr'.2, List.length_eq_zero_iff.1 hr'.1⟩))
          clear hr hr'
          go_wp2_with fail
          go_roundw
          case rel => exact ⟨k + 1, by omega, by go_num, HP'.out, HB4.out⟩
          case measure => simp [intOf]; omega
      · go_wp2_with fail
        go_ret
        exact ⟨false, rfl, (fun h => by cases h), HB1.out.trans (HB3.out.mono (by omega))⟩
    · have hke : k = l.length := by omega
      subst hke
      go_wp2_with fail
      go_ret
      have hP := HP.out
      rw [List.take_length] at hP
      exact ⟨_, rfl, (fun h => ⟨hP, by have := of_decide_eq_true h; omega⟩), HB1.out.trans (HB.out.mono (by omega))⟩
theorem frombitsI_run (b : Int) (w : World) : ∃ x, (callFunc 65 #[.int .u64 b]).run Tryz.prog w = .ok (.value (.float .f64 x)) w := ⟨b.toNat, by kernel_rfl⟩
set_option maxRecDepth 100000 in
set_option maxHeartbeats 1000000 in
theorem floatOf_ok (b : Int) (w : World) : Calls Tryz.prog 36 #[.int .i64 64, .int .u64 b] w fun e w' => ∃ x, e = .returned (.float .f64 x) ∧ Below w.heap.size w w' := by
  obtain ⟨x, hx⟩ := frombitsI_run b w
  go_enter Tryz.func36, Tryz.ntmps36
  go_wp2_with fail
  go_ret
  exact ⟨_, rfl, Below.refl _ _⟩
set_option maxRecDepth 100000 in
set_option maxHeartbeats 1000000 in
theorem plainFloats_ok (l : List S35) (A : Option Addr) (c : Nat) (w : World) (hC : Kd.C k35 w A l.length l) (hl : l.length ≤ 1000000) (hp : ∀ v ∈ l, PlainV v) : Calls Tryz.prog 14 #[tyF, .slice A l.length c] w fun e w' => ∃ r, e = .returned (.bool r) ∧ Below w.heap.size w w' := by
  have HC := Lib.hid hC
  have Hf := Lib.hid floatOf_ok
  have HPv := Lib.hid hp
  clear hp
  clear hC
  unfold tyF at *
  go_enter Tryz.func14, Tryz.ntmps14
  go_wp2_with fail
  obtain ⟨w1, hw1⟩ : ∃ w1, w1 = w.alloc (.cells #[.int .i64 3, .int .i64 64, .bool false, .int .i64 0, .int .i64 0, .int .i64 0, .string ⟨#[]⟩, .bool false, .slice none 0 0, .slice none 0 0] 32) := ⟨_, rfl⟩
  have k1 : ∀ (i : Nat) (v : Value), #[.int .i64 3, .int .i64 64, .bool false, .int .i64 0, .int .i64 0, .int .i64 0, .string ⟨#[]⟩, .bool false, .slice none 0 0, .slice none 0 0][i]? = some v → w1.cell? ⟨w.heap.size, i, none⟩ = some v := fun i v hv => by rw [hw1]; exact fresh_cell rfl hv
  have hb1 : Below w.heap.size w w1 := by rw [hw1]; exact ((Chg.refl Nix w).alloc _).toBelow
  have hs1 : w1.heap.size = w.heap.size + 1 := by rw [hw1]; simp
  rw [← hw1]
  have K1 := Lib.hid k1
  have HB1 := Lib.hid hb1
  clear k1 hb1 hw1
  go_loopw [10] (fun i wx => ∃ k, k ≤ l.length ∧ i = .int .i64 (k : Nat) ∧ Below w1.heap.size w1 wx) (fun i _ => l.length - (intOf i).toNat)
  case atStart => exact ⟨0, Nat.zero_le _, rfl, Below.refl _ _⟩
  case round =>
    obtain ⟨k, hk, rfl, hB⟩ := hrel
    have HB := Lib.hid hB
    clear hB
    by_cases hkl : k < l.length
    · obtain ⟨g, o, A3, c3, rfl, h0, h1, h2, h3⟩ := val_at HC.out k hkl
      have hC' := HB1.out.trans (HB.out.mono (by omega))
      have e0 := (Chg.ofBelow hC').keep h0 (fun h => h)
      have e1 := (Chg.ofBelow hC').keep h1 (fun h => h)
      have e2 := (Chg.ofBelow hC').keep h2 (fun h => h)
      have e3 := (Chg.ofBelow hC').keep h3 (fun h => h)
      generalize hv : l[k] = v at *
      obtain ⟨f0, f1, f2, f3⟩ := v
      simp only at e0 e1 e2 e3
      have HV := Lib.hid hv
      clear hC' h0 h1 h2 h3 hv
      obtain ⟨o1, ho1⟩ : ∃ o1, o1 = Obj.cells #[.bool f0, .int .u64 f1, .string f2, .slice A3 f3.length c3] 35 := ⟨_, rfl⟩
      have t : ∀ (i : Nat) (v : Value), #[.int .i64 3, .int .i64 64, .bool false, .int .i64 0, .int .i64 0, .int .i64 0, .string ⟨#[]⟩, .bool false, .slice none 0 0, .slice none 0 0][i]? = some v → (wr.alloc o1).cell? ⟨w.heap.size, i, none⟩ = some v := fun i v hv => ((Chg.ofBelow HB.out).alloc o1).keep (K1.out i v hv) (fun h => h)
      rw [ho1] at t
      have t0 : (wr.alloc (.cells #[.bool f0, .int .u64 f1, .string f2, .slice A3 f3.length c3] 35)).cell? ⟨w.heap.size, 0, none⟩ = some (.int .i64 3) := t 0 _ rfl
      have t1 : (wr.alloc (.cells #[.bool f0, .int .u64 f1, .string f2, .slice A3 f3.length c3] 35)).cell? ⟨w.heap.size, 1, none⟩ = some (.int .i64 64) := t 1 _ rfl
      have t2 : (wr.alloc (.cells #[.bool f0, .int .u64 f1, .string f2, .slice A3 f3.length c3] 35)).cell? ⟨w.heap.size, 2, none⟩ = some (.bool false) := t 2 _ rfl
      have t3 : (wr.alloc (.cells #[.bool f0, .int .u64 f1, .string f2, .slice A3 f3.length c3] 35)).cell? ⟨w.heap.size, 3, none⟩ = some (.int .i64 0) := t 3 _ rfl
      have t4 : (wr.alloc (.cells #[.bool f0, .int .u64 f1, .string f2, .slice A3 f3.length c3] 35)).cell? ⟨w.heap.size, 4, none⟩ = some (.int .i64 0) := t 4 _ rfl
      have t5 : (wr.alloc (.cells #[.bool f0, .int .u64 f1, .string f2, .slice A3 f3.length c3] 35)).cell? ⟨w.heap.size, 5, none⟩ = some (.int .i64 0) := t 5 _ rfl
      have t6 : (wr.alloc (.cells #[.bool f0, .int .u64 f1, .string f2, .slice A3 f3.length c3] 35)).cell? ⟨w.heap.size, 6, none⟩ = some (.string ⟨#[]⟩) := t 6 _ rfl
      have t7 : (wr.alloc (.cells #[.bool f0, .int .u64 f1, .string f2, .slice A3 f3.length c3] 35)).cell? ⟨w.heap.size, 7, none⟩ = some (.bool false) := t 7 _ rfl
      have t8 : (wr.alloc (.cells #[.bool f0, .int .u64 f1, .string f2, .slice A3 f3.length c3] 35)).cell? ⟨w.heap.size, 8, none⟩ = some (.slice none 0 0) := t 8 _ rfl
      have t9 : (wr.alloc (.cells #[.bool f0, .int .u64 f1, .string f2, .slice A3 f3.length c3] 35)).cell? ⟨w.heap.size, 9, none⟩ = some (.slice none 0 0) := t 9 _ rfl
      have hB3 : Below w1.heap.size w1 (wr.alloc (.cells #[.bool f0, .int .u64 f1, .string f2, .slice A3 f3.length c3] 35)) := ((Chg.ofBelow HB.out).alloc _).toBelow
      have HB3 := Lib.hid hB3
      have hs3 := hB3.size
      clear t ho1 hB3
      obtain rfl : f0 = false := by have := (HPv.out _ (List.getElem_mem hkl)).1; rw [HV.out] at this; exact this
      go_wp2_with fail
      refine (Hf.out f1 _).mono ?_
      rintro e w4 ⟨x, rfl, hb⟩
      have hb' := HB3.out.trans (hb.mono hs3)
      have HB4 := Lib.hid hb'
      have s0 : w4.cell? ⟨w.heap.size, 0, none⟩ = some (.int .i64 3) := (Chg.ofBelow hb).keep t0 (fun h => h)
      have s1 : w4.cell? ⟨wr.heap.size, 0, none⟩ = some (.bool false) := (Chg.ofBelow hb).keep (fresh_cell rfl rfl) (fun h => h)
      clear hb hb' Hf
      go_wp2_with fail
      all_goals first
        | (go_ret; exact ⟨_, rfl, HB1.out.trans (HB4.out.mono (by omega))⟩)
        | (go_roundw; (case rel => exact ⟨k + 1, by omega, by go_num, HB4.out⟩); (case measure => simp [intOf]; omega))
    · have hke : k = l.length := by omega
      subst hke
      go_wp2_with fail
      go_ret
      exact ⟨_, rfl, HB1.out.trans (HB.out.mono (by omega))⟩
end Go.Proofs.YtmcjpnijldhelaaGreatDoor
/- Values plainly, as bytes. (Printed by wip/mk_ve.py.) -/
namespace Go.Proofs.YtmcjpnijldhelaaGreatDoor
open Go Go.RowKit Go.Proofs.YtmcjpnijldhelaaGreatDoor.PFnDictionaryFloat64Read Go.Proofs.YtmcjpnijldhelaaGreatDoorW.PrintWords Go.Proofs.YtmcjpnijldhelaaGreatDoorW.PrintMore
/-- The bytes of values, the lowest first. -/
def vbytes (l : List S35) : List Nat := l.flatMap fun v => leB v.f1.toNat 8
theorem vbytes_len (l : List S35) : (vbytes l).length = 8 * l.length := by
  induction l with
  | nil => rfl
  | cons v l ih => rw [vbytes, List.flatMap_cons, List.length_append, ← vbytes, ih, leB_length, List.length_cons]; omega
theorem b8_app (a b : List Nat) : b8 (a ++ b) = b8 a ++ b8 b := List.map_append
theorem vbytes_succ {l : List S35} {k : Nat} (hk : k < l.length) : vbytes (l.take (k + 1)) = vbytes (l.take k) ++ leB (l[k].f1.toNat) 8 := by
  rw [List.take_add_one, List.getElem?_eq_getElem hk, vbytes, vbytes, List.flatMap_append]
  simp
/-- The cells of an owned row that is not empty. -/
theorem owns_cells {w : World} {base : Nat} {e : TypeId} {sz n : Nat} {v : Value} {xs : List Value} (h : w.ownsRow base e sz v n xs) (hn : 0 < n) : ∃ g c, v = .slice (some ⟨g, 0, none⟩) n c ∧ n ≤ c ∧ c ≤ maxLen ∧ base ≤ g ∧ ∀ j u, xs[j]? = some u → w.cell? ⟨g, j, none⟩ = some u := by
  rcases h.2 with ⟨-, h0⟩ | ⟨g, cap, cur, hv, hb, hg, hnc, hm, hs, ht⟩
  · omega
  · refine ⟨g, cap, hv, hnc, hm, hb, fun j u hu => ?_⟩
    rw [← ht] at hu
    have hj : j < n * sz := by
      have := (List.getElem?_eq_some_iff.1 hu).1
      rw [List.length_take] at this; omega
    rw [List.getElem?_take_of_lt hj, Array.getElem?_toList] at hu
    rw [blk_cell hg]; exact hu
set_option maxRecDepth 100000 in
set_option maxHeartbeats 1000000 in
theorem plainly_ok (l : List S35) (A : Option Addr) (c : Nat) (w : World) (hC : Kd.C k35 w A l.length l) (hl : l.length ≤ 1000000) (hn : ∀ v ∈ l, 0 ≤ v.f1) : Calls Tryz.prog 8 #[tyF, .slice A l.length c] w fun e w' => ∃ v, e = .returned v ∧ w'.ownsRow w.heap.size 5 1 v (8 * l.length) (b8 (vbytes l)) ∧ Below w.heap.size w w' := by
  have HC := Lib.hid hC
  have Hf := Lib.hid plainBytes_ok
  have HPv := Lib.hid hn
  clear hn
  clear hC
  unfold tyF at *
  go_enter Tryz.func8, Tryz.ntmps8
  go_wp2_with fail
  obtain ⟨w1, hw1⟩ : ∃ w1, w1 = w.alloc (.cells #[.int .i64 3, .int .i64 64, .bool false, .int .i64 0, .int .i64 0, .int .i64 0, .string ⟨#[]⟩, .bool false, .slice none 0 0, .slice none 0 0] 32) := ⟨_, rfl⟩
  have k1 : ∀ (i : Nat) (v : Value), #[.int .i64 3, .int .i64 64, .bool false, .int .i64 0, .int .i64 0, .int .i64 0, .string ⟨#[]⟩, .bool false, .slice none 0 0, .slice none 0 0][i]? = some v → w1.cell? ⟨w.heap.size, i, none⟩ = some v := fun i v hv => by rw [hw1]; exact fresh_cell rfl hv
  have hb1 : Below w.heap.size w w1 := by rw [hw1]; exact ((Chg.refl Nix w).alloc _).toBelow
  have hs1 : w1.heap.size = w.heap.size + 1 := by rw [hw1]; simp
  rw [← hw1]
  have K1 := Lib.hid k1
  have HB1 := Lib.hid hb1
  clear k1 hb1 hw1
  go_loopw [5, 10] (fun v i wx => ∃ k v5, k ≤ l.length ∧ i = .int .i64 (k : Nat) ∧ v5 = v ∧ wx.ownsRow w1.heap.size 5 1 v5 (8 * k) (b8 (vbytes (l.take k))) ∧ Below w1.heap.size w1 wx) (fun _ i _ => l.length - (intOf i).toNat)
  case atStart => exact ⟨0, _, Nat.zero_le _, rfl, rfl, World.ownsRow_nil _ _ _ _, Below.refl _ _⟩
  case round =>
    obtain ⟨k, v5, hk, rfl, rfl, hO, hB⟩ := hrel
    have HB := Lib.hid hB
    have HO := Lib.hid hO
    clear hB hO
    by_cases hkl : k < l.length
    · obtain ⟨g, o, A3, c3, rfl, h0, h1, h2, h3⟩ := val_at HC.out k hkl
      have hC' := HB1.out.trans (HB.out.mono (by omega))
      have e0 := (Chg.ofBelow hC').keep h0 (fun h => h)
      have e1 := (Chg.ofBelow hC').keep h1 (fun h => h)
      have e2 := (Chg.ofBelow hC').keep h2 (fun h => h)
      have e3 := (Chg.ofBelow hC').keep h3 (fun h => h)
      generalize hv : l[k] = v at *
      obtain ⟨f0, f1, f2, f3⟩ := v
      simp only at e0 e1 e2 e3
      have HV := Lib.hid hv
      clear hC' h0 h1 h2 h3 hv
      obtain ⟨o1, ho1⟩ : ∃ o1, o1 = Obj.cells #[.bool f0, .int .u64 f1, .string f2, .slice A3 f3.length c3] 35 := ⟨_, rfl⟩
      have t : ∀ (i : Nat) (v : Value), #[.int .i64 3, .int .i64 64, .bool false, .int .i64 0, .int .i64 0, .int .i64 0, .string ⟨#[]⟩, .bool false, .slice none 0 0, .slice none 0 0][i]? = some v → (wr.alloc o1).cell? ⟨w.heap.size, i, none⟩ = some v := fun i v hv => ((Chg.ofBelow HB.out).alloc o1).keep (K1.out i v hv) (fun h => h)
      rw [ho1] at t
      have t0 : (wr.alloc (.cells #[.bool f0, .int .u64 f1, .string f2, .slice A3 f3.length c3] 35)).cell? ⟨w.heap.size, 0, none⟩ = some (.int .i64 3) := t 0 _ rfl
      have t1 : (wr.alloc (.cells #[.bool f0, .int .u64 f1, .string f2, .slice A3 f3.length c3] 35)).cell? ⟨w.heap.size, 1, none⟩ = some (.int .i64 64) := t 1 _ rfl
      have t2 : (wr.alloc (.cells #[.bool f0, .int .u64 f1, .string f2, .slice A3 f3.length c3] 35)).cell? ⟨w.heap.size, 2, none⟩ = some (.bool false) := t 2 _ rfl
      have t3 : (wr.alloc (.cells #[.bool f0, .int .u64 f1, .string f2, .slice A3 f3.length c3] 35)).cell? ⟨w.heap.size, 3, none⟩ = some (.int .i64 0) := t 3 _ rfl
      have t4 : (wr.alloc (.cells #[.bool f0, .int .u64 f1, .string f2, .slice A3 f3.length c3] 35)).cell? ⟨w.heap.size, 4, none⟩ = some (.int .i64 0) := t 4 _ rfl
      have t5 : (wr.alloc (.cells #[.bool f0, .int .u64 f1, .string f2, .slice A3 f3.length c3] 35)).cell? ⟨w.heap.size, 5, none⟩ = some (.int .i64 0) := t 5 _ rfl
      have t6 : (wr.alloc (.cells #[.bool f0, .int .u64 f1, .string f2, .slice A3 f3.length c3] 35)).cell? ⟨w.heap.size, 6, none⟩ = some (.string ⟨#[]⟩) := t 6 _ rfl
      have t7 : (wr.alloc (.cells #[.bool f0, .int .u64 f1, .string f2, .slice A3 f3.length c3] 35)).cell? ⟨w.heap.size, 7, none⟩ = some (.bool false) := t 7 _ rfl
      have t8 : (wr.alloc (.cells #[.bool f0, .int .u64 f1, .string f2, .slice A3 f3.length c3] 35)).cell? ⟨w.heap.size, 8, none⟩ = some (.slice none 0 0) := t 8 _ rfl
      have t9 : (wr.alloc (.cells #[.bool f0, .int .u64 f1, .string f2, .slice A3 f3.length c3] 35)).cell? ⟨w.heap.size, 9, none⟩ = some (.slice none 0 0) := t 9 _ rfl
      have hB3 : Below w1.heap.size w1 (wr.alloc (.cells #[.bool f0, .int .u64 f1, .string f2, .slice A3 f3.length c3] 35)) := ((Chg.ofBelow HB.out).alloc _).toBelow
      have HB3 := Lib.hid hB3
      have hs3 := hB3.size
      clear t ho1 hB3
      obtain ⟨n, rfl⟩ : ∃ n : Nat, f1 = n := ⟨f1.toNat, by have := HPv.out _ (List.getElem_mem hkl); rw [HV.out] at this; simp only at this; omega⟩
      go_wp2_with fail
      refine (Hf.out n f0 f2 A3 f3.length c3 _).mono ?_
      rintro e w4 ⟨v, rfl, hO4, hb⟩
      obtain ⟨g4, c4, rfl, hc4, hm4, hg4, hcell⟩ := owns_cells hO4 (by decide)
      have hb' := HB3.out.trans (hb.mono hs3)
      have hs4 := hb'.size
      have HB4 := Lib.hid hb'
      have HC4 := Lib.hid hcell
      have hO5 := ownsRow_chg HO.out (((Chg.refl Nix wr).alloc (.cells #[.bool f0, .int .u64 (n : Int), .string f2, .slice A3 f3.length c3] 35)).trans (Chg.ofBelow hb))
      have HO5 := Lib.hid hO5
      clear hb hb' Hf hO4 hcell hO5 HO t0 t1 t2 t3 t4 t5 t6 t7 t8 t9 e0 e1 e2 e3
      obtain ⟨i, hi, hz, hs1', hby⟩ := info_parts infoB
      go_wp2_with (at_builtin; go_must (refine (Go.wpList_append_own _ rfl (.tmp 14) (.tmp 17) 24 rfl w1.heap.size 5 i _ 1 1 Tryz.underlying24 hi hz hs1' hby rfl (by omega) _ (8 * k) (b8 (vbytes (l.take k))) rfl HO5.out ⟨g4, 0, none⟩ 8 c4 (b8 (leB n 8)) rfl rfl ?c1 ?c2 ?c3 ?c4 ?c5 ?_)))
      case c1 =>
        intro j u hu
        rw [addr_add, Nat.zero_add]
        exact HC4.out j u hu
      case c2 => intro u hu; unfold b8 at hu; obtain ⟨x, -, rfl⟩ := List.mem_map.1 hu; rfl
      case c3 => unfold maxLen; omega
      case c4 => omega
      case c5 => exact hs4
      intro v' w' hO' hG' _
      obtain ⟨p', c', rfl, -⟩ := ownsRow_slice hO'
      have hB' : Below w1.heap.size w1 w' := HB4.out.grown hG' hs4 (fun g hg => (World.ownsRow.lt HO5.out g hg).1)
      have hO2 : w'.ownsRow w1.heap.size 5 1 (.slice p' (8 * k + 8) c') (8 * (k + 1)) (b8 (vbytes (l.take (k + 1)))) := by
        have e : b8 (vbytes (l.take (k + 1))) = b8 (vbytes (l.take k)) ++ b8 (leB n 8) := by
          rw [vbytes_succ hkl, b8_app, HV.out]; rfl
        rw [e, hs1]
        exact hO'
      have HO2 := Lib.hid hO2
      have HB' := Lib.hid hB'
      clear hO' hG' hB' hO2 HO5 HC4 HB HB4
      go_wp2_with fail
      go_roundw
      case rel => exact ⟨k + 1, _, by omega, by go_num, rfl, HO2.out, HB'.out⟩
      case measure => simp [intOf]; omega
    · have hke : k = l.length := by omega
      subst hke
      go_wp2_with fail
      go_ret
      have hO := HO.out
      rw [List.take_length] at hO
      exact ⟨_, rfl, ownsRow_base hO (by omega), HB1.out.trans (HB.out.mono (by omega))⟩
end Go.Proofs.YtmcjpnijldhelaaGreatDoor
/- Values that are the same. -/
namespace Go.Proofs.YtmcjpnijldhelaaGreatDoor
open Go Go.RowKit Go.Proofs.YtmcjpnijldhelaaGreatDoor.PFnDictionaryFloat64Read Go.Proofs.YtmcjpnijldhelaaGreatDoorW.PrintWords Go.Proofs.YtmcjpnijldhelaaGreatDoorW.PrintMore
set_option maxRecDepth 100000 in
set_option maxHeartbeats 1000000 in
theorem sameValue_ok (b : Int) (p q : Option Addr) (c d : Nat) (w : World) : Calls Tryz.prog 9 #[.agg #[.bool false, .int .u64 b, .string ⟨#[]⟩, .slice p 0 c], .agg #[.bool false, .int .u64 b, .string ⟨#[]⟩, .slice q 0 d]] w fun e w' => e = .returned (.bool true) ∧ Below w.heap.size w w' := by
  have Hf := Lib.hid sameNone_ok
  go_enter Tryz.func9, Tryz.ntmps9
  go_wp2_with fail
  obtain ⟨w1, hw1⟩ : ∃ w1, w1 = (w.alloc (.cells #[.bool false, .int .u64 b, .string ⟨#[]⟩, .slice p 0 c] 35)).alloc (.cells #[.bool false, .int .u64 b, .string ⟨#[]⟩, .slice q 0 d] 35) := ⟨_, rfl⟩
  rw [← hw1]
  have hb1 : Below w.heap.size w w1 := by rw [hw1]; exact (((Chg.refl Nix w).alloc _).alloc _).toBelow
  refine (Hf.out p q c d w1).mono ?_
  rintro e w' ⟨rfl, rfl⟩
  clear hw1 Hf
  go_wp2_with fail
  go_ret
  exact ⟨rfl, hb1⟩
set_option maxRecDepth 100000 in
set_option maxHeartbeats 1000000 in
theorem sameValues_ok (l : List S35) (A B : Option Addr) (c d : Nat) (w : World) (hA : Kd.C k35 w A l.length l) (hB : Kd.C k35 w B l.length l) (hp : ∀ v ∈ l, PlainV v) (hl : l.length ≤ 1000000) : Calls Tryz.prog 16 #[.slice A l.length c, .slice B l.length d] w fun e w' => e = .returned (.bool true) ∧ Below w.heap.size w w' := by
  have HA := Lib.hid hA
  have HBr := Lib.hid hB
  have HP := Lib.hid hp
  have Hf := Lib.hid sameValue_ok
  clear hA hB hp
  go_enter Tryz.func16, Tryz.ntmps16
  go_wp2_with fail
  go_loopw [13] (fun i wx => ∃ k, k ≤ l.length ∧ i = .int .i64 (k : Nat) ∧ Below w.heap.size w wx) (fun i _ => l.length - (intOf i).toNat)
  case atStart => exact ⟨0, Nat.zero_le _, rfl, Below.refl _ _⟩
  case round =>
    obtain ⟨k, hk, rfl, hB⟩ := hrel
    have HB := Lib.hid hB
    have hsz := hB.size
    clear hB
    by_cases hkl : k < l.length
    · obtain ⟨g, o, A3, c3, rfl, h0, h1, h2, h3⟩ := val_at HA.out k hkl
      obtain ⟨g', o', B3, d3, rfl, i0, i1, i2, i3⟩ := val_at HBr.out k hkl
      have e0 := (Chg.ofBelow HB.out).keep h0 (fun h => h)
      have e1 := (Chg.ofBelow HB.out).keep h1 (fun h => h)
      have e2 := (Chg.ofBelow HB.out).keep h2 (fun h => h)
      have e3 := (Chg.ofBelow HB.out).keep h3 (fun h => h)
      have j0 := (Chg.ofBelow HB.out).keep i0 (fun h => h)
      have j1 := (Chg.ofBelow HB.out).keep i1 (fun h => h)
      have j2 := (Chg.ofBelow HB.out).keep i2 (fun h => h)
      have j3 := (Chg.ofBelow HB.out).keep i3 (fun h => h)
      obtain ⟨p0, p2, p3⟩ := HP.out _ (List.getElem_mem hkl)
      clear h0 h1 h2 h3 i0 i1 i2 i3
      generalize l[k] = v at *
      obtain ⟨f0, f1, f2, f3⟩ := v
      simp only at p0 p2 p3
      subst p0 p2 p3
      simp only [List.length_nil] at e0 e1 e2 e3 j0 j1 j2 j3
      go_upto_region 6 with fail
      (refine wp_region_txt [] (by kernel_rfl) (by kernel_rfl) ?_; repeat (first | (refine wpTxt_pure rfl rfl (fun K hK => ?_); go_simp; refine hK _ ?_; clear hK K) | (refine wpTxt_still rfl rfl (fun K hK => ?_); go_simp; refine hK _ ?_; clear hK K)))
      refine wpTxt_effect rfl rfl (fun K hK => ?_); go_simp
      refine (Hf.out f1 A3 B3 c3 d3 _).mono ?_
      rintro e w5 ⟨rfl, hb⟩
      have HB5 := Lib.hid (HB.out.drew.trans (hb.mono hsz))
      clear hb Hf
      (refine hK _ _ ?_; clear hK K)
      repeat (first | (refine wpTxt_pure rfl rfl (fun K hK => ?_); go_simp; refine hK _ ?_; clear hK K) | (refine wpTxt_still rfl rfl (fun K hK => ?_); go_simp; refine hK _ ?_; clear hK K))
      refine wpTxt_nil ?_
      go_wp2_with fail
      go_roundw
      case rel => exact ⟨k + 1, by omega, by go_num, HB5.out⟩
      case measure => simp [intOf]; omega
    · have hke : k = l.length := by omega
      subst hke
      go_wp2_with fail
      go_ret
      exact ⟨rfl, HB.out⟩
end Go.Proofs.YtmcjpnijldhelaaGreatDoor
/- The least and the greatest of indexes. -/
namespace Go.Proofs.YtmcjpnijldhelaaGreatDoor
open Go Go.RowKit
set_option maxRecDepth 100000 in
set_option maxHeartbeats 1000000 in
theorem minmax32_ok (ib io n c L : Nat) (K : Nat → Nat) (w : World) (hn : 1 ≤ n) (hn2 : n ≤ 1000000) (hL : L ≤ 1000000) (hK : ∀ j, j < n → w.cell? ⟨ib, io + j, none⟩ = some (.int .i32 (K j))) (hKl : ∀ j, j < n → K j < L) :
    Calls Tryz.prog 214 #[.slice (some ⟨ib, io, none⟩) n c] w fun e w' => ∃ a b : Nat, e = .returned (.tuple #[.int .i32 a, .int .i32 b]) ∧ a ≤ b ∧ b < L ∧ (∀ j, j < n → K j ≤ b) ∧ w = w' := by
  have HK := Lib.hid hK
  have HKl := Lib.hid hKl
  clear hK hKl
  go_enter Tryz.func214, Tryz.ntmps214
  go_wp2_with fail
  go_loopw [2, 3, 8] (fun x y i wx => ∃ (j : Nat) (a b : Int), j ≤ n ∧ i = .int .i64 j ∧ x = .int .i32 a ∧ y = .int .i32 b ∧ (∀ t, t < j → a ≤ K t ∧ (K t : Int) ≤ b) ∧ (j = 0 → a = 2147483647 ∧ b = -2147483648) ∧ (0 < j → ∃ s t, s < j ∧ t < j ∧ a = K s ∧ b = K t) ∧ w = wx) (fun _ _ i _ => n - (intOf i).toNat)
  case atStart => exact ⟨0, _, _, Nat.zero_le _, rfl, rfl, rfl, fun t ht => by omega, fun _ => ⟨rfl, rfl⟩, fun h => by omega, rfl⟩
  case round =>
    obtain ⟨j, a, b, hj, rfl, rfl, rfl, hall, h0, h1, rfl⟩ := hrel
    have Hall := Lib.hid hall
    have H0 := Lib.hid h0
    have H1 := Lib.hid h1
    clear hall h0 h1
    by_cases hjn : j < n
    · have c1 := HK.out j hjn
      have hkl := HKl.out j hjn
      have hrel2 : ∀ (a' b' : Int), (a' = if (K j : Int) < a then (K j : Int) else a) → (b' = if b < K j then (K j : Int) else b) → (∀ t, t < j + 1 → a' ≤ K t ∧ (K t : Int) ≤ b') ∧ (0 < j + 1 → ∃ s t, s < j + 1 ∧ t < j + 1 ∧ a' = K s ∧ b' = K t) := by
        intro a' b' ha hb
        refine ⟨fun t ht => ?_, fun _ => ?_⟩
        · by_cases htj : t = j
          · subst htj
            constructor
            · rw [ha]; split <;> omega
            · rw [hb]; split <;> omega
          · obtain ⟨e1, e2⟩ := Hall.out t (by omega)
            constructor
            · rw [ha]; split <;> omega
            · rw [hb]; split <;> omega
        · by_cases hj0 : j = 0
          · obtain ⟨rfl, rfl⟩ := H0.out hj0
            refine ⟨j, j, by omega, by omega, ?_, ?_⟩
            · rw [ha]; split <;> omega
            · rw [hb]; split <;> omega
          · obtain ⟨s, t, hs, ht, e1, e2⟩ := H1.out (by omega)
            by_cases g1 : (K j : Int) < a
            · by_cases g2 : b < K j
              · exact ⟨j, j, by omega, by omega, by rw [ha, if_pos g1], by rw [hb, if_pos g2]⟩
              · exact ⟨j, t, by omega, by omega, by rw [ha, if_pos g1], by rw [hb, if_neg g2]; exact e2⟩
            · by_cases g2 : b < K j
              · exact ⟨s, j, by omega, by omega, by rw [ha, if_neg g1]; exact e1, by rw [hb, if_pos g2]⟩
              · exact ⟨s, t, by omega, by omega, by rw [ha, if_neg g1]; exact e1, by rw [hb, if_neg g2]; exact e2⟩
      have Hrel2 := Lib.hid hrel2
      clear hrel2
      by_cases g1 : (K j : Int) < a
      all_goals
        by_cases g2 : b < K j
        all_goals
          have hfin := Hrel2.out _ _ rfl rfl
          simp only [g1, g2, if_true, if_false] at hfin
          have Hfin := Lib.hid hfin
          clear hfin
          go_wp2_with fail
          go_roundw
          case rel => exact ⟨j + 1, _, _, by omega, by go_num, rfl, rfl, Hfin.out.1, fun h => by omega, Hfin.out.2, trivial⟩
          case measure => simp [intOf]; omega
    · have hje : j = n := by omega
      subst hje
      obtain ⟨s, t, hs, ht, rfl, rfl⟩ := H1.out (by omega)
      go_wp2_with fail
      go_ret2
      exact ⟨K s, K t, rfl, by have := (Hall.out s hs).2; omega, HKl.out t ht, fun j hj => by have := (Hall.out j hj).2; omega, rfl⟩
theorem minmax_ok (ib io n c L : Nat) (K : Nat → Nat) (w : World) (hn : 1 ≤ n) (hn2 : n ≤ 1000000) (hL : L ≤ 1000000) (hK : ∀ j, j < n → w.cell? ⟨ib, io + j, none⟩ = some (.int .i32 (K j))) (hKl : ∀ j, j < n → K j < L) :
    Calls Tryz.prog 213 #[.slice (some ⟨ib, io, none⟩) n c] w fun e w' => ∃ a b : Nat, e = .returned (.tuple #[.int .i32 a, .int .i32 b]) ∧ a ≤ b ∧ b < L ∧ (∀ j, j < n → K j ≤ b) ∧ w = w' := by
  have Hcall := Lib.hid (minmax32_ok ib io n c L K w hn hn2 hL hK hKl)
  clear hK hKl
  go_enter Tryz.func213, Tryz.ntmps213
  go_wp2_with fail
  refine Hcall.out.mono ?_
  rintro e w1 ⟨a, b, rfl, hab, hb, hall, rfl⟩
  have Hall := Lib.hid hall
  clear hall
  go_wp2_with fail
  go_ret2
  exact ⟨a, b, rfl, hab, hb, Hall.out, rfl⟩
end Go.Proofs.YtmcjpnijldhelaaGreatDoor
/- The dictionary's converter: whether indexes are valid, filling, copying. Of float64. -/
namespace Go.Proofs.YtmcjpnijldhelaaGreatDoor
open Go Go.RowKit
namespace XF
set_option maxRecDepth 100000 in
set_option maxHeartbeats 1000000 in
theorem single_ok (us : List Value) (Ov : Nat → Prop) (Sv : Nat → World → Prop) (vd dc m idx : Nat) (v : Value) (w : World) (hV : ValD us Ov Sv vd) (h : DCV us Ov Sv vd dc m v w) (hi : idx < us.length) (hul : us.length ≤ 1000) (h1 : ∀ u ∈ us, IsE u) :
    Calls Tryz.prog 219 #[.pointer (some ⟨dc, 0, none⟩), .int .i32 idx] w fun e w' => e = .returned (.bool true) ∧ ∃ m' v', m ≤ m' ∧ idx < m' ∧ Asked us Ov Sv vd dc v w m' v' w' := by
  have Hcall := Lib.hid (ensure_ok us Ov Sv vd dc m idx v w hV h hi hul h1)
  clear hV h h1
  go_enter Tryz.func219, Tryz.ntmps219
  go_wp2_with fail
  refine Hcall.out.mono ?_
  rintro e w1 ⟨rfl, m', v', hm, him, hA⟩
  obtain ⟨p, c, rfl, hmc, -⟩ := hA.1.slice
  have k2 := hA.1.di
  have HA := Lib.hid hA
  clear hA
  go_wp2_with fail
  go_ret
  exact ⟨rfl, m', _, hm, him, HA.out⟩
set_option maxRecDepth 100000 in
set_option maxHeartbeats 1000000 in
theorem valid_ok (us : List Value) (Ov : Nat → Prop) (Sv : Nat → World → Prop) (vd dc m : Nat) (v : Value) (ib io n c : Nat) (K : Nat → Nat) (w : World) (hV : ValD us Ov Sv vd) (h : DCV us Ov Sv vd dc m v w) (hn : 1 ≤ n) (hn2 : n ≤ 1000000) (hK : ∀ j, j < n → w.cell? ⟨ib, io + j, none⟩ = some (.int .i32 (K j))) (hKl : ∀ j, j < n → K j < us.length) (hul : us.length ≤ 1000) (h1 : ∀ u ∈ us, IsE u) :
    Calls Tryz.prog 218 #[.pointer (some ⟨dc, 0, none⟩), .slice (some ⟨ib, io, none⟩) n c] w fun e w' => e = .returned (.bool true) ∧ ∃ m' v', m ≤ m' ∧ (∀ j, j < n → K j < m') ∧ Asked us Ov Sv vd dc v w m' v' w' := by
  have Hmm := Lib.hid (minmax_ok ib io n c us.length K w hn hn2 (by omega) hK hKl)
  have Hens := Lib.hid (fun idx (hi : idx < us.length) => ensure_ok us Ov Sv vd dc m idx v w hV h hi hul h1)
  have HKl := Lib.hid hKl
  clear hV h h1 hK hKl
  go_enter Tryz.func218, Tryz.ntmps218
  go_wp2_with fail
  refine Hmm.out.mono ?_
  rintro e w1 ⟨a, b, rfl, hab, hb, hall, rfl⟩
  have Hcall := Lib.hid (Hens.out b hb)
  have Hall := Lib.hid hall
  clear Hens hall
  go_wp2_with fail
  refine Hcall.out.mono ?_
  rintro e w2 ⟨rfl, m', v', hm, him, hA⟩
  obtain ⟨p, c, rfl, hmc, -⟩ := hA.1.slice
  have k2 := hA.1.di
  have HA := Lib.hid hA
  have hbm : (b : Int) < m' := by omega
  have ham : (a : Int) < m' := by omega
  clear hA
  go_wp2_with fail
  go_ret
  exact ⟨rfl, m', _, hm, fun j hj => Nat.lt_of_le_of_lt (Hall.out j hj) him, HA.out⟩
set_option maxRecDepth 100000 in
set_option maxHeartbeats 1000000 in
theorem copy_ok (us : List Value) (Ov : Nat → Prop) (Sv : Nat → World → Prop) (vd dc m : Nat) (v : Value) (ib io n c ob oo len cap : Nat) (K : Nat → Nat) (w : World) (hV : ValD us Ov Sv vd) (h : DCV us Ov Sv vd dc m v w) (hn2 : n ≤ 1000000) (hnl : n ≤ len) (hK : ∀ j, j < n → w.cell? ⟨ib, io + j, none⟩ = some (.int .i32 (K j))) (hKl : ∀ j, j < n → K j < m)
    (hib : ib ≠ ob) (hob : ¬ OD dc Ov v ob) (hd : ∀ j, j < n → ∃ u, w.cell? ⟨ob, oo + j, none⟩ = some u) (hf : ∀ j, j < n → w.frozen? ⟨ob, oo + j, none⟩ = false) (hul : us.length ≤ 1000) (h1 : ∀ u ∈ us, IsE u) :
    Calls Tryz.prog 215 #[.pointer (some ⟨dc, 0, none⟩), .slice (some ⟨ob, oo, none⟩) len cap, .slice (some ⟨ib, io, none⟩) n c] w fun e w' => e = .returned .nilIface ∧ DCV us Ov Sv vd dc m v w' ∧ Chg (fun a x => a = ob ∧ oo ≤ x ∧ x < oo + n) w w' ∧ ∀ j, j < n → w'.cell? ⟨ob, oo + j, none⟩ = some (us.getD (K j) .nilIface) := by
  obtain ⟨p, cc, rfl, hmc, hcl⟩ := h.slice
  have hml := h.ml
  have H := Lib.hid h
  have HV := Lib.hid hV
  have H1 := Lib.hid h1
  have HK := Lib.hid hK
  have HKl := Lib.hid hKl
  have Hd := Lib.hid hd
  have Hf := Lib.hid hf
  have Hob := Lib.hid hob
  have Hcl := Lib.hid hcl
  clear h hV h1 hK hKl hd hf hob hcl
  have Hsf := run_store_float Tryz.prog
  go_enter Tryz.func215, Tryz.ntmps215
  go_wp2_with fail
  go_loopw [11] (fun i wx => ∃ j, j ≤ n ∧ i = .int .i64 j ∧ Chg (fun a x => a = ob ∧ oo ≤ x ∧ x < oo + n) w wx ∧ (∀ i, i < n → ∃ u, wx.cell? ⟨ob, oo + i, none⟩ = some u) ∧ ∀ i, i < j → wx.cell? ⟨ob, oo + i, none⟩ = some (us.getD (K i) .nilIface)) (fun i _ => n - (intOf i).toNat)
  case atStart => exact ⟨0, Nat.zero_le _, rfl, Chg.refl _ _, Hd.out, fun i hi => by omega⟩
  case round =>
    obtain ⟨j, hj, rfl, hc, hd, ho⟩ := hrel
    by_cases hjn : j < n
    · obtain ⟨g, rfl, hg, hcell⟩ := Hcl.out (K j) (HKl.out j hjn)
      have hgo : g ≠ ob := by rintro rfl; exact Hob.out (.inr (.inr hg))
      have hdo : dc ≠ ob := by rintro rfl; exact Hob.out (.inl rfl)
      have c1 := hc.keep (HK.out j hjn) (fun hh => hib hh.1)
      have c2 := hc.keep H.out.di (fun hh => hdo hh.1)
      have c3 := hc.keep hcell (fun hh => hgo hh.1)
      obtain ⟨u, hu⟩ := Hd.out j hjn
      obtain ⟨u2, hu2⟩ := hd j hjn
      have hfz := (hc.frozen ob (oo + j) (World.block_lt_of_cell? _ _ hu)).trans (Hf.out j hjn)
      have hKm := HKl.out j hjn
      have hKm' : (K j : Int) < m := by omega
      obtain ⟨x, hx⟩ : ∃ x, x = us.getD (K j) .nilIface := ⟨_, rfl⟩
      obtain ⟨y, hy⟩ : IsE x := by
        refine H1.out x ?_
        rw [hx, List.getD_eq_getElem?_getD, List.getElem?_eq_getElem (by omega)]
        exact List.getElem_mem _
      rw [← hx, hy] at c3
      have Hx := Lib.hid hx
      have Hy := Lib.hid hy
      have Hc := Lib.hid hc
      have Ho := Lib.hid ho
      have Hd2 := Lib.hid hd
      clear hx hy hc ho hcell hu hd
      go_wp2_with fail
      go_roundw
      case rel =>
        refine ⟨j + 1, by omega, by go_num, Hc.out.setCell _ _ (fun _ => ⟨rfl, by omega, by omega⟩) _, fun i hi => cell_is _ (Hd2.out i hi), fun i hi => ?_⟩
        by_cases hij : i = j
        · subst hij
          rw [← Hx.out, Hy.out]
          exact World.cell?_setCell_same _ _ _ hu2
        · exact cell_ne _ (Ho.out i (by omega)) (by omega)
      case measure => simp [intOf]; omega
    · have hje : j = n := by omega
      subst hje
      have Hc := Lib.hid hc
      have Ho := Lib.hid ho
      clear hc ho hd
      go_wp2_with fail
      go_ret
      exact ⟨rfl, H.out.keep HV.out Hc.out (by rintro a x ⟨rfl, -⟩; exact Hob.out), Hc.out, Ho.out⟩
/-- One value laid all over: i of them are laid. -/
structure Fl (ob oo n i : Nat) (x : Value) (w wr : World) : Prop where
  chg : Chg (fun a y => a = ob ∧ oo ≤ y ∧ y < oo + n) w wr
  dst : ∀ j, j < n → ∃ u, wr.cell? ⟨ob, oo + j, none⟩ = some u
  out : ∀ j, j < i → j < n → wr.cell? ⟨ob, oo + j, none⟩ = some x
set_option maxRecDepth 100000 in
set_option maxHeartbeats 1000000 in
theorem fill_ok (us : List Value) (Ov : Nat → Prop) (Sv : Nat → World → Prop) (vd dc m idx : Nat) (v : Value) (ob oo n cap : Nat) (w : World) (hV : ValD us Ov Sv vd) (h : DCV us Ov Sv vd dc m v w) (hn : 1 ≤ n) (hn2 : n ≤ 1000000000) (hnc : n ≤ cap) (hcap : cap ≤ 1000000000000000000) (hi : idx < us.length)
    (hob : ¬ OD dc Ov v ob) (hd : ∀ j, j < n → ∃ u, w.cell? ⟨ob, oo + j, none⟩ = some u) (hf : ∀ j, j < n → w.frozen? ⟨ob, oo + j, none⟩ = false) (hul : us.length ≤ 1000) (h1 : ∀ u ∈ us, IsE u) :
    Calls Tryz.prog 216 #[.pointer (some ⟨dc, 0, none⟩), .slice (some ⟨ob, oo, none⟩) n cap, .int .i32 idx] w fun e w' => e = .returned .nilIface ∧ ∃ m' v', m ≤ m' ∧ idx < m' ∧ DCV us Ov Sv vd dc m' v' w' ∧ Chg (fun a x => OD dc Ov v a ∨ (a = ob ∧ oo ≤ x ∧ x < oo + n)) w w' ∧ Stays w v v' ∧ ∀ j, j < n → w'.cell? ⟨ob, oo + j, none⟩ = some (us.getD idx .nilIface) := by
  have Hcall := Lib.hid (ensure_ok us Ov Sv vd dc m idx v w hV h hi hul h1)
  have HV := Lib.hid hV
  have H1 := Lib.hid h1
  have Hd := Lib.hid hd
  have Hf := Lib.hid hf
  have Hob := Lib.hid hob
  clear h hV h1 hd hf hob hi
  have Hsf := run_store_float Tryz.prog
  go_enter Tryz.func216, Tryz.ntmps216
  go_wp2_with fail
  refine Hcall.out.mono ?_
  rintro e w1 ⟨rfl, m', v', hm, him, hA⟩
  obtain ⟨p, cc, rfl, hmc, hcl⟩ := hA.1.slice
  have k2 := hA.1.di
  have hml := hA.1.ml
  obtain ⟨g, rfl, hg, hcell⟩ := hcl idx him
  have hobl : ob < w.heap.size := by
    obtain ⟨u, hu⟩ := Hd.out 0 (by omega)
    exact World.block_lt_of_cell? _ _ hu
  have hob1 : ¬ OD dc Ov (.slice (some ⟨g, 0, none⟩) m' cc) ob := by
    rintro (hh | hh | hh)
    · exact Hob.out (.inl hh)
    · exact Hob.out (.inr (.inl hh))
    · rcases hA.2.2 ob hh with h6 | h6
      · exact Hob.out (.inr (.inr h6))
      · omega
  have hd1 : ∀ j, j < n → ∃ u, w1.cell? ⟨ob, oo + j, none⟩ = some u := fun j hj => by
    obtain ⟨u, hu⟩ := Hd.out j hj
    exact ⟨u, hA.2.1.keep hu Hob.out⟩
  have hf1 : ∀ j, j < n → w1.frozen? ⟨ob, oo + j, none⟩ = false := fun j hj => (hA.2.1.frozen _ _ hobl).trans (Hf.out j hj)
  obtain ⟨x, hx⟩ : ∃ x, x = us.getD idx .nilIface := ⟨_, rfl⟩
  obtain ⟨y, hy⟩ : IsE x := by
    refine H1.out x ?_
    rw [hx, List.getD_eq_getElem?_getD, List.getElem?_eq_getElem (by omega)]
    exact List.getElem_mem _
  rw [← hx, hy] at hcell
  have him' : (idx : Int) < m' := by omega
  have hil : idx < us.length := by omega
  have Hil := Lib.hid hil
  clear hil
  obtain ⟨u0, hu0⟩ := hd1 0 (by omega)
  have hf0 := hf1 0 (by omega)
  rw [Nat.add_zero] at hu0 hf0
  have hxone : x.oneCell' = true := by rw [hy]; rfl
  have h0 : Fl ob oo n 1 x w1 (w1.setCell ⟨ob, oo, none⟩ x) := by
    refine ⟨(Chg.refl _ _).setCell _ _ (fun _ => ⟨rfl, by omega, by omega⟩) _, fun j hj => cell_is _ (hd1 j hj), fun j hj _ => ?_⟩
    obtain rfl : j = 0 := by omega
    rw [Nat.add_zero]
    exact World.cell?_setCell_same _ _ _ hu0
  rw [hy] at h0
  have H0 := Lib.hid h0
  have HA := Lib.hid hA
  have Hf1 := Lib.hid hf1
  have Hob1 := Lib.hid hob1
  have Hx := Lib.hid hx
  have Hy := Lib.hid hy
  have Hh1 := Lib.hid hd1
  have Hm := Lib.hid hm
  have Him := Lib.hid him
  clear hA hf1 hob1 hx hy h0 hcl hd1 Hcall hm him
  go_wp2_with fail
  obtain ⟨w2, hw2⟩ : ∃ w2, w2 = w1.setCell ⟨ob, oo, none⟩ (.float .f64 y) := ⟨_, rfl⟩
  rw [← hw2] at H0 ⊢
  clear hw2
  go_loopw [8] (fun i wx => ∃ t, 1 ≤ t ∧ t ≤ 2 * n ∧ i = .int .i64 (t : Nat) ∧ Fl ob oo n t (.float .f64 y) w1 wx) (fun i _ => n - (intOf i).toNat)
  case atStart => exact ⟨1, by omega, by omega, rfl, H0.out⟩
  case round =>
    obtain ⟨t, ht1, ht2, rfl, hF⟩ := hrel
    have HF := Lib.hid hF
    clear hF
    by_cases htn : t < n
    · have htn' : (t : Int) < n := by omega
      have hct : ¬ cap = t := by omega
      have htt : ((t : Nat) : Int).toNat = t := by omega
      have ht00 : 0 ≤ (t : Int) := by omega
      have htc : t ≤ cap := by omega
      have htl : t ≤ n := by omega
      have htc2 : (t : Int) ≤ cap := by omega
      go_wp2_with fail
      refine wp_region_txt [] (by kernel_rfl) (by kernel_rfl) ?_
      repeat (first | (refine wpTxt_pure rfl rfl (fun K hK => ?_); go_simp; refine hK _ ?_; clear hK K) | (refine wpTxt_still rfl rfl (fun K hK => ?_); go_simp; refine hK _ ?_; clear hK K))
      obtain ⟨q, hq⟩ : ∃ q, q = min t (n - t) := ⟨_, rfl⟩
      obtain ⟨i, hi2, hz, hs1, hby⟩ := info_parts infoE
      refine wpTxt_copy_chg rfl (.tmp 32) (.tmp 35) 107 107 rfl 93 Tryz.underlying107 (show (Tryz.prog.info? 93).map (·.size) = some 1 by rw [hi2]; exact congrArg some hs1) _ _ _ _ _ _ rfl rfl q (by rw [hq]) ob (oo + t) ob oo (fun _ => .float .f64 y) (fun _ => ⟨rfl, rfl⟩) (fun j hj => HF.out.out j (by omega) (by omega)) (fun j hj => by have := HF.out.dst (t + j) (by omega); rwa [← Nat.add_assoc] at this) (fun j hj => by have := (HF.out.chg.frozen ob (oo + (t + j)) (HA.out.2.1.lt hobl)).trans (Hf1.out (t + j) (by omega)); rwa [← Nat.add_assoc] at this) (fun j hj => rfl) ?_
      intro w3 hc3 ho3
      have hF3 : Fl ob oo n (t * 2) (.float .f64 y) w1 w3 := by
        have hc3' := Chg.undrew hc3
        refine ⟨HF.out.chg.trans (hc3'.mono (by rintro a x _ ⟨rfl, h1, h2⟩; exact ⟨rfl, by omega, by omega⟩)), fun j hj => ?_, fun j hj hjn => ?_⟩
        · by_cases hh : t ≤ j ∧ j < t + q
          · have := ho3 (j - t) (by omega)
            exact ⟨_, by rwa [show oo + t + (j - t) = oo + j by omega] at this⟩
          · obtain ⟨u, hu⟩ := HF.out.dst j hj
            exact ⟨u, hc3'.keep hu (by rintro ⟨-, h1, h2⟩; omega)⟩
        · by_cases hh : t ≤ j
          · have := ho3 (j - t) (by omega)
            rwa [show oo + t + (j - t) = oo + j by omega] at this
          · exact hc3'.keep (HF.out.out j (by omega) hjn) (by rintro ⟨-, h1, h2⟩; omega)
      have HF3 := Lib.hid hF3
      clear hF3 hc3 ho3
      repeat (first | (refine wpTxt_pure rfl rfl (fun K hK => ?_); go_simp; refine hK _ ?_; clear hK K) | (refine wpTxt_still rfl rfl (fun K hK => ?_); go_simp; refine hK _ ?_; clear hK K))
      refine wpTxt_nil ?_
      go_wp2_with fail
      go_roundw
      case rel => exact ⟨t * 2, by omega, by omega, by go_num, HF3.out⟩
      case measure => simp [intOf]; omega
    · have htn' : ¬ (t : Int) < n := by omega
      go_wp2_with fail
      go_ret
      refine ⟨rfl, m', Hm.out, Him.out, _, HA.out.1.keep HV.out HF.out.chg (by rintro a x ⟨rfl, -⟩; exact Hob1.out), HA.out.2.1.comp HF.out.chg (fun _ _ _ h => .inl h) (fun _ _ _ h => .inr h), HA.out.2.2, fun j hj => ?_⟩
      rw [← List.getD_eq_getElem?_getD]
      rw [← Hx.out, Hy.out]
      exact HF.out.out j (by omega) hj
end XF
end Go.Proofs.YtmcjpnijldhelaaGreatDoor
