/- Part 17 of the proof: the texts VI, PO, VJ, VK, VL, VM, joined. What each proves stands ahead of it. -/
import Derived.Test.YtmcjpnijldhelaaGreatDoorKP
import Derived.Test.YtmcjpnijldhelaaGreatDoorKH
import Derived.OpenShut
import Derived.ChangeSlices
set_option linter.unusedVariables false
set_option linter.unusedSimpArgs false
/- Rows of the print and mine: numbers, values. -/
namespace Go.Proofs.YtmcjpnijldhelaaGreatDoor
open Go Go.RowKit Go.Proofs.YtmcjpnijldhelaaGreatDoor.PFnDictionaryFloat64Read Go.Proofs.YtmcjpnijldhelaaGreatDoorW.PrintWords Go.Proofs.YtmcjpnijldhelaaGreatDoorW.PrintMore
theorem row_C {w : World} {k : IntKind} {g o : Nat} (xs : List Int) (hl : xs.length ≤ 9223372036854775807) (h : ∀ j x, xs[j]? = some x → w.cell? ⟨g, o + j, none⟩ = some (.int k x)) : Kd.C (Kd.int k) w (some ⟨g, o, none⟩) xs.length xs := by
  refine ⟨rfl, hl, fun _ => ⟨_, rfl, fun j p hp => ⟨[.int k p], rfl, rfl, fun i u hu => ?_⟩⟩⟩
  cases i with
  | succ i => simp at hu
  | zero =>
    have hu' : u = .int k p := by simpa using hu.symm
    subst hu'
    rw [show (Kd.int k).sz = 1 from rfl, Nat.mul_one, Nat.add_zero, addr_add]
    exact h j p hp
theorem nil_C {α : Type} (d : Kd α) (w : World) (p : Option Addr) : Kd.C d w p ([] : List α).length [] := ⟨rfl, by simp, fun h => absurd h (Nat.lt_irrefl 0)⟩
/-- An owned row of bytes, as the print reads it. -/
theorem owns_C {w : World} {base : Nat} {v : Value} {n : Nat} {l : List Nat} (h : w.ownsRow base 5 1 v n (b8 l)) : ∃ p c, v = .slice p (ints l).length c ∧ (ints l).length ≤ c ∧ c ≤ 9223372036854775807 ∧ Kd.C (Kd.int .u8) w p (ints l).length (ints l) := by
  have hn : n = l.length := by
    have := h.1
    unfold b8 at this
    rw [List.length_map] at this; omega
  subst hn
  rw [ints_len]
  by_cases h0 : l.length = 0
  · obtain rfl : l = [] := List.length_eq_zero_iff.1 h0
    obtain ⟨p, c, rfl, hc⟩ := ownsRow_slice h
    have hcap : c ≤ 9223372036854775807 := by
      rcases h.2 with ⟨hv, -⟩ | ⟨g, cap, cur, hv, -, -, -, hm, -⟩
      · injection hv with _ _ hv; omega
      · injection hv with _ _ hv; unfold maxLen at hm; omega
    exact ⟨p, c, rfl, hc, hcap, nil_C _ _ p⟩
  · obtain ⟨g, c, rfl, hc, hm, hg, hcell⟩ := owns_cells h (by omega)
    unfold maxLen at hm
    refine ⟨_, c, rfl, hc, by omega, ?_⟩
    have := row_C (w := w) (k := .u8) (g := g) (o := 0) (ints l) (by rw [ints_len]; omega) (fun j x hx => by
      rw [Nat.zero_add]
      refine hcell j _ ?_
      unfold ints at hx
      unfold b8
      rw [List.getElem?_map] at hx ⊢
      obtain ⟨y, hy, rfl⟩ := Option.map_eq_some_iff.1 hx
      rw [hy]; rfl)
    rwa [ints_len] at this
/-- A number as a value. -/
def mkV (n : Nat) : S35 := ⟨false, n, ⟨#[]⟩, []⟩
theorem heapV : Kd.Heap k35 := Kd.heap_fix (fun _ hd => Kd.heap_iso _ (Kd.heap_pair Kd.heap_bool (Kd.heap_pair (Kd.heap_int _) (Kd.heap_pair Kd.heap_string (Kd.heap_slice 35 hd)))))
theorem mkV_K (w : World) (n : Nat) : k35.K w (mkV n) (vcell n) := k35_mk w (mkV n) (A3 := none) (c3 := 0) (Nat.le_refl _) (Kd.C_nil _ _)
theorem vcells_get (l : List Nat) (j i n : Nat) (hj : l[j]? = some n) (u : Value) (hu : (vcell n)[i]? = some u) : (vcells l)[j * 4 + i]? = some u := by
  induction l generalizing j with
  | nil => cases hj
  | cons b l ih =>
    rw [vcells, List.flatMap_cons, ← vcells]
    have hi : i < 4 := by have := (List.getElem?_eq_some_iff.1 hu).1; exact this
    have hb : (vcell b).length = 4 := rfl
    cases j with
    | zero =>
      obtain rfl : b = n := by simpa using hj
      rw [Nat.zero_mul, Nat.zero_add, List.getElem?_append_left (by omega)]; exact hu
    | succ j =>
      rw [List.getElem?_append_right (by omega), hb, show (j + 1) * 4 + i - 4 = j * 4 + i by omega]
      exact ih j (by simpa using hj)
theorem rowV_C {w : World} {g o : Nat} (l : List Nat) (hl : l.length ≤ 9223372036854775807) (h : ∀ j u, (vcells l)[j]? = some u → w.cell? ⟨g, o + j, none⟩ = some u) : Kd.C k35 w (some ⟨g, o, none⟩) (l.map mkV).length (l.map mkV) := by
  refine ⟨rfl, by rw [List.length_map]; exact hl, fun _ => ⟨_, rfl, fun j p hp => ?_⟩⟩
  rw [List.getElem?_map] at hp
  obtain ⟨n, hn, rfl⟩ := Option.map_eq_some_iff.1 hp
  refine ⟨vcell n, rfl, mkV_K w n, fun i u hu => ?_⟩
  rw [addr_add]
  exact h _ u (vcells_get l j i n hn u hu)
theorem owns_V {w : World} {base : Nat} {v : Value} {n : Nat} {l : List Nat} (h : w.ownsRow base 35 4 v n (vcells l)) : ∃ p c, v = .slice p (l.map mkV).length c ∧ (l.map mkV).length ≤ c ∧ Kd.C k35 w p (l.map mkV).length (l.map mkV) := by
  have hn : n = l.length := by
    have := h.1
    rw [vcells_len] at this; omega
  subst hn
  rw [List.length_map]
  by_cases h0 : l.length = 0
  · obtain rfl : l = [] := List.length_eq_zero_iff.1 h0
    obtain ⟨p, c, rfl, hc⟩ := ownsRow_slice h
    exact ⟨p, c, rfl, hc, nil_C _ _ p⟩
  · obtain ⟨g, c, rfl, hc, hm, hg, hcell⟩ := owns_cells h (by omega)
    unfold maxLen at hm
    refine ⟨_, c, rfl, hc, ?_⟩
    have := rowV_C (w := w) (g := g) (o := 0) l (by omega) (fun j u hu => by rw [Nat.zero_add]; exact hcell j u hu)
    rwa [List.length_map] at this
/-- A plain value is its number's. -/
theorem plain_mk {v : S35} (h : PlainV v) (h0 : 0 ≤ v.f1) : mkV v.f1.toNat = v := by
  obtain ⟨h1, h2, h3⟩ := h
  obtain ⟨f0, f1, f2, f3⟩ := v
  simp only at h0 h1 h2 h3
  subst h1 h2 h3
  unfold mkV
  rw [Int.toNat_of_nonneg h0]
end Go.Proofs.YtmcjpnijldhelaaGreatDoor
/- The argument of runs, opened. -/
namespace Go.Proofs.YtmcjpnijldhelaaGreatDoor
open Go Go.RowKit Go.ChangeShapes Go.WideShapes Go.ChangeAt Go.Proofs.YtmcjpnijldhelaaGreatDoor.PFnDictionaryFloat64Read Go.Proofs.YtmcjpnijldhelaaGreatDoorW.PrintWords Go.Proofs.YtmcjpnijldhelaaGreatDoorW.PrintMore
theorem add_add' (a : Addr) (m i : Nat) : (a.add m).add i = a.add (m + i) := by
  unfold Addr.add
  by_cases hm : m = 0
  · subst hm; simp
  · by_cases hi : i = 0
    · subst hi; simp
    · simp [hm, hi, Nat.add_assoc]
theorem len3 {α : Type} (l : List α) (h : l.length = 3) : ∃ a b c, l = [a, b, c] := by
  match l, h with
  | [a, b, c], _ => exact ⟨a, b, c, rfl⟩
theorem choose_list {α : Type} {Q : Nat → α → Prop} : ∀ n, (∀ i, i < n → ∃ x, Q i x) → ∃ l : List α, l.length = n ∧ ∀ (i : Nat) (x : α), l[i]? = some x → Q i x
  | 0, _ => ⟨[], rfl, fun i x h => by simp at h⟩
  | n + 1, h => by
    obtain ⟨l, hl, hq⟩ := choose_list n (fun i hi => h i (by omega))
    obtain ⟨x, hx⟩ := h n (by omega)
    refine ⟨l ++ [x], by rw [List.length_append, hl]; rfl, fun i y hy => ?_⟩
    by_cases hi : i < n
    · rw [List.getElem?_append_left (by omega)] at hy
      exact hq i y hy
    · have hin : i < n + 1 := by
        have := (List.getElem?_eq_some_iff.1 hy).1
        rw [List.length_append, hl] at this
        exact this
      have : i = n := by omega
      subst this
      rw [List.getElem?_append_right (by omega), hl, Nat.sub_self] at hy
      have : x = y := by simpa using hy
      subst this; exact hx
section
variable {H : Type} {enc : TypeId × Value → H} {w : World} {base : Nat} {sp : Nat → Bool} {held : Bool}
/-- A row of numbers, as the print reads it. -/
theorem open_C {t e : TypeId} {k : IntKind} {fuel : Nat} {cs : List Value} {x : DataW H × List MemPlace} (ht : Tryz.prog.underlying t = some (.slice e)) (he : Tryz.prog.underlying e = some (.int k)) (hc : Tryz.prog.cellsOf e = 1)
    (h : DataW.trod enc Tryz.prog w base sp held fuel t cs = some x) : ∃ A c, ∃ xs : List Int, cs = [.slice A xs.length c] ∧ xs.length ≤ c ∧ Kd.C (Kd.int k) w A xs.length xs ∧ ∀ n ∈ xs, (Lit.int k n).wf = true := by
  rcases open_ints ht he hc h with ⟨rfl, -⟩ | ⟨a, len, cap, zs, rfl, -, hl, hm, hz, -, hcell, hwz⟩
  · exact ⟨none, 0, [], rfl, Nat.le_refl _, Kd.C_nil _ _, fun n hn => by cases hn⟩
  · have hlz : len ≤ zs.length := by rw [hz]; split <;> omega
    have hlt : (zs.take len).length = len := by rw [List.length_take]; omega
    refine ⟨some a, cap, zs.take len, by rw [hlt], by omega, ⟨rfl, by rw [hlt]; unfold maxLen at hm; omega, fun _ => ⟨a, rfl, fun j p hp => ⟨[.int k p], rfl, rfl, fun i u hu => ?_⟩⟩⟩, fun n hn => hwz n (List.mem_of_mem_take hn)⟩
    have hj : j < len := by rw [← hlt]; exact (List.getElem?_eq_some_iff.1 hp).1
    rw [List.getElem?_take_of_lt hj] at hp
    cases i with
    | succ i => simp at hu
    | zero =>
      have hu' : u = .int k p := by simpa using hu.symm
      subst hu'
      rw [show (Kd.int k).sz = 1 from rfl, Nat.mul_one, Nat.add_zero]
      have := hcell j (by omega)
      rw [List.getD_eq_getElem?_getD, hp] at this
      exact this
theorem wf_u64 {n : Int} (h : (Lit.int .u64 n).wf = true) : 0 ≤ n ∧ n < 18446744073709551616 := by
  simp [Lit.wf, IntKind.min, IntKind.max, IntKind.signed, IntKind.bits] at h
  omega
theorem wf_i64 {n : Int} (h : (Lit.int .i64 n).wf = true) : -9223372036854775808 ≤ n ∧ n ≤ 9223372036854775807 := by
  simp [Lit.wf, IntKind.min, IntKind.max, IntKind.signed, IntKind.bits] at h
  omega
theorem open_run {fuel : Nat} {cs : List Value} {x : DataW H × List MemPlace} (h : DataW.trod enc Tryz.prog w base sp held fuel 53 cs = some x) : ∃ r : S53, IsRun r ∧ k53.K w r cs := by
  obtain ⟨xs, n, -, -, hl, hxl, hf⟩ := DataW.trod_struct Tryz.underlying53 h
  have hl3 : cs.length = 3 := hl.trans (by kernel_rfl)
  have hx3 : xs.length = 3 := hxl
  obtain ⟨c0, c1, c2, rfl⟩ := len3 cs hl3
  have h0 := hf 0 _ rfl
  have h1 := hf 1 _ rfl
  have h2 := hf 2 _ rfl
  rw [List.getElem?_eq_getElem (by omega)] at h0 h1 h2
  obtain ⟨b, e0, -⟩ := DataW.trod_bool Tryz.underlying4 h0
  obtain ⟨m, e1, -, w1⟩ := DataW.trod_int Tryz.underlying3 h1
  obtain ⟨A, c, ys, e2, hc, hC, hw⟩ := open_C Tryz.underlying37 Tryz.underlying33 (by kernel_rfl) h2
  have s4 : Tryz.prog.cellsOf 4 = 1 := by kernel_rfl
  have s3 : Tryz.prog.cellsOf 3 = 1 := by kernel_rfl
  have s25 : Tryz.prog.cellsOf 37 = 1 := by kernel_rfl
  change ([c0, c1, c2].drop 0).take (Tryz.prog.cellsOf 4) = _ at e0
  change ([c0, c1, c2].drop 1).take (Tryz.prog.cellsOf 3) = _ at e1
  change ([c0, c1, c2].drop 2).take (Tryz.prog.cellsOf 37) = _ at e2
  rw [s4] at e0
  rw [s3] at e1
  rw [s25] at e2
  have f0 : c0 = .bool b := by simpa using e0
  have f1 : c1 = .int .i64 m := by simpa using e1
  have f2 : c2 = .slice A ys.length c := by simpa using e2
  subst f0 f1 f2
  exact ⟨⟨b, m, ys⟩, ⟨fun v hv => wf_u64 (hw v hv), wf_i64 w1⟩, k53_mk w ⟨b, m, ys⟩ hc hC⟩
theorem open_runs {fuel : Nat} {cs : List Value} {x : DataW H × List MemPlace} (h : DataW.trod enc Tryz.prog w base sp held fuel 23 cs = some x) : ∃ A c, ∃ l : List S53, cs = [.slice A l.length c] ∧ l.length ≤ c ∧ Kd.C k53 w A l.length l ∧ ∀ r ∈ l, IsRun r := by
  rcases DataW.trod_slice Tryz.underlying23 h with ⟨rfl, -⟩ | ⟨a, len, cap, elems, rest, n, -, rfl, -, -, hl, hm, hlen, hel, -, -⟩
  · exact ⟨none, 0, [], rfl, Nat.le_refl _, Kd.C_nil _ _, fun n hn => by cases hn⟩
  · have hsz : Tryz.prog.cellsOf 53 = 3 := by kernel_rfl
    have each : ∀ i, i < len → ∃ r : S53, IsRun r ∧ ∃ c : List Value, c.length = 3 ∧ k53.K w r c ∧ ∀ j u, c[j]? = some u → w.cell? (a.add (i * 3 + j)) = some u := by
      intro i hi
      have h1 := hel i hi
      rw [List.getElem?_eq_getElem (by omega), hsz, Option.bind_eq_some_iff] at h1
      obtain ⟨c, hc, hr⟩ := h1
      obtain ⟨r, hr1, hr2⟩ := open_run hr
      obtain ⟨-, hcl, hcc⟩ := World.cells?_some hc
      refine ⟨r, hr1, c, hcl, hr2, fun j u hu => ?_⟩
      have hj : j < 3 := by rw [← hcl]; exact (List.getElem?_eq_some_iff.1 hu).1
      have := hcc j hj
      rw [add_add', hu] at this
      exact this
    obtain ⟨l, hll, hq⟩ := choose_list len each
    refine ⟨some a, cap, l, by rw [hll], by omega, ⟨rfl, by rw [hll]; unfold maxLen at hm; omega, fun _ => ⟨a, rfl, fun j p hp => ?_⟩⟩, fun r hr => ?_⟩
    · obtain ⟨-, c, hc1, hc2, hc3⟩ := hq j p hp
      exact ⟨c, hc1, hc2, hc3⟩
    · obtain ⟨i, hi⟩ := List.getElem?_of_mem hr
      exact (hq i r hi).1
end
end Go.Proofs.YtmcjpnijldhelaaGreatDoor
/- The argument of values, opened. -/
namespace Go.Proofs.YtmcjpnijldhelaaGreatDoor
open Go Go.RowKit Go.ChangeShapes Go.WideShapes Go.ChangeAt Go.Proofs.YtmcjpnijldhelaaGreatDoor.PFnDictionaryFloat64Read Go.Proofs.YtmcjpnijldhelaaGreatDoorW.PrintWords Go.Proofs.YtmcjpnijldhelaaGreatDoorW.PrintMore
theorem len4' {α : Type} (l : List α) (h : l.length = 4) : ∃ a b c d, l = [a, b, c, d] := by
  match l, h with
  | [a, b, c, d], _ => exact ⟨a, b, c, d, rfl⟩
section
variable {H : Type} {enc : TypeId × Value → H} {w : World} {base : Nat} {sp : Nat → Bool} {held : Bool}
theorem open_vals : ∀ (fuel : Nat) {cs : List Value} {x : DataW H × List MemPlace} (_ : DataW.trod enc Tryz.prog w base sp held fuel 22 cs = some x), ∃ A c, ∃ l : List S35, cs = [.slice A l.length c] ∧ l.length ≤ c ∧ c ≤ 9223372036854775807 ∧ Kd.C k35 w A l.length l ∧ ∀ v ∈ l, 0 ≤ v.f1 ∧ v.f1 < 18446744073709551616 := by
  intro fuel
  induction fuel using Nat.strongRecOn with
  | _ fuel ih =>
    intro cs x h
    rcases DataW.trod_slice Tryz.underlying22 h with ⟨rfl, -⟩ | ⟨a, len, cap, elems, rest, n, hfn, rfl, -, -, hl, hm, hlen, hel, -, -⟩
    · exact ⟨none, 0, [], rfl, Nat.le_refl _, by omega, Kd.C_nil _ _, fun n hn => by cases hn⟩
    · have hsz : Tryz.prog.cellsOf 35 = 4 := by kernel_rfl
      have value : ∀ {cs : List Value} {x : DataW H × List MemPlace} (_ : DataW.trod enc Tryz.prog w base sp held n 35 cs = some x), ∃ r : S35, (0 ≤ r.f1 ∧ r.f1 < 18446744073709551616) ∧ k35.K w r cs := by
        intro cs x h
        obtain ⟨xs, m, hnm, -, hl, hxl, hf⟩ := DataW.trod_struct Tryz.underlying35 h
        have hl4 : cs.length = 4 := hl.trans (by kernel_rfl)
        have hx4 : xs.length = 4 := hxl
        obtain ⟨c0, c1, c2, c3, rfl⟩ := len4' cs hl4
        have h0 := hf 0 _ rfl
        have h1 := hf 1 _ rfl
        have h2 := hf 2 _ rfl
        have h3 := hf 3 _ rfl
        rw [List.getElem?_eq_getElem (by omega)] at h0 h1 h2 h3
        obtain ⟨b, e0, -⟩ := DataW.trod_bool Tryz.underlying4 h0
        obtain ⟨m1, e1, -, w1⟩ := DataW.trod_int Tryz.underlying33 h1
        obtain ⟨s, e2, -⟩ := DataW.trod_string Tryz.underlying9 h2
        obtain ⟨A, c, ys, e3, hc, -, hC, -⟩ := ih m (by omega) h3
        have s0 : Tryz.prog.cellsOf 4 = 1 := by kernel_rfl
        have s1 : Tryz.prog.cellsOf 33 = 1 := by kernel_rfl
        have s2 : Tryz.prog.cellsOf 9 = 1 := by kernel_rfl
        have s3 : Tryz.prog.cellsOf 22 = 1 := by kernel_rfl
        change ([c0, c1, c2, c3].drop 0).take (Tryz.prog.cellsOf 4) = _ at e0
        change ([c0, c1, c2, c3].drop 1).take (Tryz.prog.cellsOf 33) = _ at e1
        change ([c0, c1, c2, c3].drop 2).take (Tryz.prog.cellsOf 9) = _ at e2
        change ([c0, c1, c2, c3].drop 3).take (Tryz.prog.cellsOf 22) = _ at e3
        rw [s0] at e0
        rw [s1] at e1
        rw [s2] at e2
        rw [s3] at e3
        have f0 : c0 = .bool b := by simpa using e0
        have f1 : c1 = .int .u64 m1 := by simpa using e1
        have f2 : c2 = .string s := by simpa using e2
        have f3 : c3 = .slice A ys.length c := by simpa using e3
        subst f0 f1 f2 f3
        exact ⟨⟨b, m1, s, ys⟩, wf_u64 w1, k35_mk w ⟨b, m1, s, ys⟩ hc hC⟩
      have each : ∀ i, i < len → ∃ r : S35, (0 ≤ r.f1 ∧ r.f1 < 18446744073709551616) ∧ ∃ c : List Value, c.length = 4 ∧ k35.K w r c ∧ ∀ j u, c[j]? = some u → w.cell? (a.add (i * 4 + j)) = some u := by
        intro i hi
        have h1 := hel i hi
        rw [List.getElem?_eq_getElem (by omega), hsz, Option.bind_eq_some_iff] at h1
        obtain ⟨c, hc, hr⟩ := h1
        obtain ⟨r, hr1, hr2⟩ := value hr
        obtain ⟨-, hcl, hcc⟩ := World.cells?_some hc
        refine ⟨r, hr1, c, hcl, hr2, fun j u hu => ?_⟩
        have hj : j < 4 := by rw [← hcl]; exact (List.getElem?_eq_some_iff.1 hu).1
        have := hcc j hj
        rw [add_add', hu] at this
        exact this
      obtain ⟨l, hll, hq⟩ := choose_list len each
      refine ⟨some a, cap, l, by rw [hll], by omega, by unfold maxLen at hm; omega, ⟨rfl, by rw [hll]; unfold maxLen at hm; omega, fun _ => ⟨a, rfl, fun j p hp => ?_⟩⟩, fun r hr => ?_⟩
      · obtain ⟨-, c, hc1, hc2, hc3⟩ := hq j p hp
        exact ⟨c, hc1, hc2, hc3⟩
      · obtain ⟨i, hi⟩ := List.getElem?_of_mem hr
        exact (hq i r hi).1
end
end Go.Proofs.YtmcjpnijldhelaaGreatDoor
/- What is written by a dictionary is read. -/
namespace Go.Proofs.YtmcjpnijldhelaaGreatDoor
open Go Go.RowKit Go.Proofs.YtmcjpnijldhelaaGreatDoor.PFnDictionaryFloat64Read Go.Proofs.YtmcjpnijldhelaaGreatDoorW.PrintWords Go.Proofs.YtmcjpnijldhelaaGreatDoorW.PrintMore
theorem vbytes_get (l : List S35) (k j : Nat) (v : S35) (hk : l[k]? = some v) (hj : j < 8) : (vbytes l)[8 * k + j]? = (leB v.f1.toNat 8)[j]? := by
  induction l generalizing k with
  | nil => cases hk
  | cons b l ih =>
    rw [vbytes, List.flatMap_cons, ← vbytes]
    have hb := leB_length 8 b.f1.toNat
    cases k with
    | zero =>
      obtain rfl : b = v := by simpa using hk
      rw [Nat.mul_zero, Nat.zero_add, List.getElem?_append_left (by omega)]
    | succ k =>
      rw [List.getElem?_append_right (by omega), hb, show 8 * (k + 1) + j - 8 = 8 * k + j by omega]
      exact ih k (by simpa using hk)
theorem vbytes_num (l : List S35) (k : Nat) (hk : k < l.length) (h0 : 0 ≤ (pick l k).f1) (h1 : (pick l k).f1 < 18446744073709551616) : leV (fun j => (vbytes l).getD j 0) (8 * k) 8 = (pick l k).f1.toNat := by
  have hp : l[k]? = some (pick l k) := by
    unfold pick
    rw [List.getD_eq_getElem?_getD, List.getElem?_eq_getElem hk]; rfl
  refine leB_stand 8 _ _ ?_ fun j v hv => ?_
  · rw [show 256 ^ 8 = 18446744073709551616 from rfl]; omega
  · have hj : j < 8 := by have := (List.getElem?_eq_some_iff.1 hv).1; rwa [leB_length] at this
    show (vbytes l).getD (8 * k + j) 0 = v
    rw [List.getD_eq_getElem?_getD, vbytes_get l k j _ hp hj, hv]; rfl
theorem pick_mem (l : List S35) (k : Nat) (hk : k < l.length) : pick l k ∈ l := by
  unfold pick
  rw [List.getD_eq_getElem?_getD, List.getElem?_eq_getElem hk]
  exact List.getElem_mem hk
theorem nums_V (l : List S35) (vs : List Nat) (ns : List Int) (hp : ∀ v ∈ l, PlainV v) (hv : ∀ v ∈ l, 0 ≤ v.f1 ∧ v.f1 < 18446744073709551616) (ha : ∀ x ∈ vs, x < l.length) : (nums (vbytes l) vs ns).map mkV = takesV ns (vs.map (pick l)) := by
  rw [takesV_map]
  unfold nums
  rw [List.map_map]
  refine List.map_congr_left fun k hk => ?_
  have hk' := ha k (takesV_mem ns vs k hk)
  have hm := pick_mem l k hk'
  show mkV (leV _ (8 * k) 8) = pick l k
  rw [vbytes_num l k hk' (hv _ hm).1 (hv _ hm).2]
  exact plain_mk (hp _ hm) (hv _ hm).1
theorem vbytes_lt (l : List S35) : ∀ x ∈ vbytes l, x < 256 := by
  intro x hx
  unfold vbytes at hx
  obtain ⟨v, -, hx⟩ := List.mem_flatMap.1 hx
  exact leB_lt 8 _ x hx
theorem readD_ok (c0 c6 bc W : Nat) (A0 A6 bp : Option Addr) (ee eu : Addr) (l : List S35) (vs bs : List Nat) (ns : List Int) (w : World) (hE : Eofs w ee eu) (hg : 7 < w.heap.size)
    (hK0 : Kd.C (Kd.int .u8) w A0 (ints (vbytes l)).length (ints (vbytes l))) (hc0 : (ints (vbytes l)).length ≤ c0) (hp : ∀ v ∈ l, PlainV v) (hv : ∀ v ∈ l, 0 ≤ v.f1 ∧ v.f1 < 18446744073709551616) (hl : l.length ≤ 1000)
    (hK6 : Kd.C (Kd.int .u8) w A6 (ints (W :: bs)).length (ints (W :: bs))) (hc6 : (ints (W :: bs)).length ≤ c6) (hbs : ∀ x ∈ bs, x < 256) (hbl : bs.length ≤ 80000) (hne : bs ≠ []) (hW1 : 1 ≤ W) (hW2 : W ≤ 20)
    (hr : ∀ D L, StandB D 0 bs → bs.length ≤ L → Runs D L W 0 vs) (ha : ∀ x ∈ vs, x < l.length) (h1 : vs ≠ []) (hvl : vs.length ≤ 1000000) (hns : Kd.C (Kd.int .i64) w bp ns.length ns) (hnc : ns.length ≤ 1000000) (hf : FitsN ns vs.length) :
    Calls Tryz.prog 17 #[.slice A0 (ints (vbytes l)).length c0, .int .i64 l.length, .slice A6 (ints (W :: bs)).length c6, .int .i64 vs.length, .slice bp ns.length bc] w fun e w' =>
      ∃ p c, e = .returned (.tuple #[.slice p (takesV ns (vs.map (pick l))).length c, .bool true]) ∧ Kd.C k35 w' p (takesV ns (vs.map (pick l))).length (takesV ns (vs.map (pick l))) ∧ Chg Nix w w' := by
  have hN1 : 1 ≤ l.length := by
    cases vs with
    | nil => exact absurd rfl h1
    | cons x vs => have := ha x (by simp); omega
  have hL1 : 1 ≤ bs.length := by
    cases bs with
    | nil => exact absurd rfl hne
    | cons x bs => simp
  have h := dictRead_ok l.length W c0 c6 bc A0 A6 bp ee eu (vbytes l) (W :: bs) vs ns w hE hg hK0 hc0 (vbytes_lt l) (vbytes_len l) hN1 hl hK6 hc6 (fun x hx => by
      rcases List.mem_cons.1 hx with rfl | hx
      · omega
      · exact hbs x hx) bs.length (by rw [List.length_cons]; omega) hL1 (by omega) rfl hW1 (by omega) (hr _ _ (fun j v hv => by
        rw [Nat.zero_add]
        show (W :: bs).getD (1 + j) 0 = v
        rw [List.getD_eq_getElem?_getD, Nat.add_comm, List.getElem?_cons_succ, hv]; rfl) (Nat.le_refl _)) ha hvl hns hnc hf
  refine h.mono ?_
  rintro e w' ⟨v, rfl, hO, hC⟩
  obtain ⟨p, c, rfl, -, hK⟩ := owns_V hO
  rw [nums_V l vs ns hp hv ha] at hK ⊢
  exact ⟨p, c, rfl, hK, hC⟩
theorem awakeD_runs : ∀ D L, StandB D 0 [2, 0] → [2, 0].length ≤ L → Runs D L 1 0 [0] := by
  intro D L hs hl
  refine Runs.put_rep (n := 1) (v := 0) (vs := []) (by decide) (by decide) (by decide) ?_ ?_ (.nil _)
  · rw [vlq_lo 2 (by decide)]
    exact hs
  · rw [vlq_lo 2 (by decide)]; exact hl
end Go.Proofs.YtmcjpnijldhelaaGreatDoor
/- The law's awake part. -/
namespace Go.Proofs.YtmcjpnijldhelaaGreatDoor
open Go Go.RowKit Go.Proofs.YtmcjpnijldhelaaGreatDoor.PFnDictionaryFloat64Read Go.Proofs.YtmcjpnijldhelaaGreatDoorW.PrintWords Go.Proofs.YtmcjpnijldhelaaGreatDoorW.PrintMore
theorem five_C (w : World) : Kd.C k35 (w.alloc (.cells #[.bool false, .int .u64 5, .string ⟨#[]⟩, .slice none 0 0] 35)) (some ⟨w.heap.size, 0, none⟩) [mkV 5].length [mkV 5] :=
  rowV_C [5] (by decide) fun j u hu => by
    rw [Nat.zero_add]
    refine fresh_cell rfl ?_
    rw [← Array.getElem?_toList]
    exact hu
theorem plain5 : ∀ v ∈ [mkV 5], PlainV v := fun v hv => by
  obtain rfl : v = mkV 5 := by simpa using hv
  exact ⟨rfl, rfl, rfl⟩
theorem range5 : ∀ v ∈ [mkV 5], 0 ≤ v.f1 ∧ v.f1 < 18446744073709551616 := fun v hv => by
  obtain rfl : v = mkV 5 := by simpa using hv
  exact ⟨by decide, by decide⟩
theorem plainlyC_ok (l : List S35) (A : Option Addr) (c : Nat) (w : World) (hC : Kd.C k35 w A l.length l) (hl : l.length ≤ 1000000) (hv : ∀ v ∈ l, 0 ≤ v.f1) :
    Calls Tryz.prog 8 #[tyF, .slice A l.length c] w fun e w' => ∃ p c, e = .returned (.slice p (ints (vbytes l)).length c) ∧ (ints (vbytes l)).length ≤ c ∧ Kd.C (Kd.int .u8) w' p (ints (vbytes l)).length (ints (vbytes l)) ∧ Chg Nix w w' := by
  refine (plainly_ok l A c w hC hl hv).mono ?_
  rintro e w' ⟨v, rfl, hO, hb⟩
  obtain ⟨p, c, rfl, hc, -, hK⟩ := owns_C hO
  exact ⟨p, c, rfl, hc, hK, Chg.ofBelow hb⟩
theorem awakeP_ok (w : World) : Calls Tryz.prog 8 #[tyF, .slice (some ⟨w.heap.size, 0, none⟩) 1 1] (w.alloc (.cells #[.bool false, .int .u64 5, .string ⟨#[]⟩, .slice none 0 0] 35)) fun e w' =>
    ∃ p c, e = .returned (.slice p (ints (vbytes [mkV 5])).length c) ∧ (ints (vbytes [mkV 5])).length ≤ c ∧ Kd.C (Kd.int .u8) w' p (ints (vbytes [mkV 5])).length (ints (vbytes [mkV 5])) ∧ Chg Nix w w' := by
  refine (plainlyC_ok [mkV 5] _ 1 _ (five_C w) (by decide) (fun v hv => (range5 v hv).1)).mono ?_
  rintro e w' ⟨p, c, rfl, hc, hK, hC⟩
  exact ⟨p, c, rfl, hc, hK, (Chg.new _ _).trans hC⟩
theorem awakeD_ok (p : Option Addr) (c : Nat) (ee eu : Addr) (w : World) (hE : Eofs w ee eu) (hg : 7 < w.heap.size) (hc : (ints (vbytes [mkV 5])).length ≤ c) (hK : Kd.C (Kd.int .u8) w p (ints (vbytes [mkV 5])).length (ints (vbytes [mkV 5]))) :
    Calls Tryz.prog 17 #[.slice p (ints (vbytes [mkV 5])).length c, .int .i64 1, .slice (some ⟨w.heap.size, 0, none⟩) 3 3, .int .i64 1, .slice (some ⟨w.heap.size + 1, 0, none⟩) 1 1] ((w.alloc (.cells #[.int .u8 1, .int .u8 2, .int .u8 0] 5)).alloc (.cells #[.int .i64 1] 3)) fun e w' =>
      ∃ p c, e = .returned (.tuple #[.slice p 1 c, .bool true]) ∧ Kd.C k35 w' p [mkV 5].length [mkV 5] ∧ Chg Nix w w' := by
  have hC : Chg Nix w ((w.alloc (.cells #[.int .u8 1, .int .u8 2, .int .u8 0] 5)).alloc (.cells #[.int .i64 1] 3)) := (Chg.new _ _).alloc _
  have hs : ((w.alloc (.cells #[.int .u8 1, .int .u8 2, .int .u8 0] 5)).alloc (.cells #[.int .i64 1] 3)).heap.size = w.heap.size + 2 := by simp
  have h := readD_ok c 3 1 1 p (some ⟨w.heap.size, 0, none⟩) (some ⟨w.heap.size + 1, 0, none⟩) ee eu [mkV 5] [0] [2, 0] [1] ((w.alloc (.cells #[.int .u8 1, .int .u8 2, .int .u8 0] 5)).alloc (.cells #[.int .i64 1] 3))
    (hE.keep hC (fun h => h) (fun h => h)) (by omega) (Kd.C_below hK hC.toBelow) hc plain5 range5 (by decide)
    (row_C (ints [1, 2, 0]) (by decide) fun j x hx => by
      rw [Nat.zero_add]
      refine (Chg.new _ _).keep (fresh_cell rfl ?_) (fun h => h)
      match j, hx with
      | 0, hx => (have : x = 1 := by simpa [ints] using hx.symm); subst this; rfl
      | 1, hx => (have : x = 2 := by simpa [ints] using hx.symm); subst this; rfl
      | 2, hx => (have : x = 0 := by simpa [ints] using hx.symm); subst this; rfl
      | j + 3, hx => simp [ints] at hx)
    (by decide) (by decide) (by decide) (by decide) (by decide) (by decide) awakeD_runs (by decide) (by decide) (by decide)
    (row_C [1] (by decide) fun j x hx => by
      rw [Nat.zero_add]
      refine fresh_cell (by simp) ?_
      match j, hx with
      | 0, hx => (have : x = 1 := by simpa using hx.symm); subst this; rfl
      | j + 1, hx => simp at hx)
    (by decide) ⟨by decide, by decide, trivial⟩
  refine h.mono ?_
  rintro e w' ⟨p', c', rfl, hK', hC'⟩
  exact ⟨p', c', rfl, hK', hC.trans hC'⟩
end Go.Proofs.YtmcjpnijldhelaaGreatDoor
/- The law's walk. -/
namespace Go.Proofs.YtmcjpnijldhelaaGreatDoor
open Go Go.RowKit Go.Proofs.YtmcjpnijldhelaaGreatDoor.PFnDictionaryFloat64Read Go.Proofs.YtmcjpnijldhelaaGreatDoorW.PrintWords Go.Proofs.YtmcjpnijldhelaaGreatDoorW.PrintMore
set_option maxRecDepth 100000 in
set_option maxHeartbeats 1000000 in
theorem law_ok (d : List S35) (A0 : Option Addr) (c0 : Nat) (a1 : Int) (l : List S53) (A2 : Option Addr) (c2 : Nat) (ns : List Int) (A3 : Option Addr) (c3 : Nat) (ee eu : Addr) (w : World)
    (hr0 : Kd.C k35 w A0 d.length d) (hc0 : d.length ≤ c0) (hv0 : ∀ v ∈ d, 0 ≤ v.f1 ∧ v.f1 < 18446744073709551616) (hr2 : Kd.C k53 w A2 l.length l) (hc2 : l.length ≤ c2) (hI : ∀ r ∈ l, IsRun r) (hr3 : Kd.C (Kd.int .i64) w A3 ns.length ns) (hc3 : ns.length ≤ c3) (hN : ∀ n ∈ ns, -9223372036854775808 ≤ n ∧ n ≤ 9223372036854775807) (hE : Eofs w ee eu) (hg : 7 < w.heap.size) :
    Calls Tryz.prog 4 #[.slice A0 d.length c0, .int .i64 a1, .slice A2 l.length c2, .slice A3 ns.length c3] w fun e w' => e = .returned (.bool true) ∧ Chg Nix w w' := by
  obtain ⟨b, hb⟩ := fits_ev l
  obtain ⟨k, hk⟩ := hb.get
  have Hcall1 := Lib.hid (laws_zzFits5.calls k A2 c2 l b w hr2 hc2 hk)
  clear hb hk
  have H0 := Lib.hid hr0
  have HV := Lib.hid hv0
  have H2 := Lib.hid hr2
  have H3 := Lib.hid hr3
  have HI := Lib.hid hI
  have HN := Lib.hid hN
  have HE := Lib.hid hE
  clear hr0 hr2 hr3 hI hN hE hv0
  by_cases hd : (2147483647 : Int) < d.length
  · go_enter Tryz.func4, Tryz.ntmps4
    go_wp2_with fail
    go_ret
    exact ⟨rfl, Chg.refl _ _⟩
  · go_enter Tryz.func4, Tryz.ntmps4
    go_wp2_with fail
    refine Hcall1.out.mono ?_
    rintro e w1 ⟨rfl, hB1⟩
    have HC1 := Lib.hid (Chg.ofBelow hB1)
    clear hB1 Hcall1
    cases b with
    | false =>
      go_wp2_with fail
      go_ret
      exact ⟨rfl, HC1.out⟩
    | true =>
      by_cases hbig : (2147483647 : Int) < ns.length
      · go_wp2_with fail
        go_ret
        exact ⟨rfl, HC1.out⟩
      · have Hcall2 := Lib.hid (awakeP_ok w1)
        unfold tyF at Hcall2
        go_wp2_with fail
        refine Hcall2.out.mono ?_
        rintro e w2 ⟨p2, c2', rfl, hc2', hK2, hC2⟩
        have HC2 := Lib.hid (HC1.out.trans hC2)
        have HK2 := Lib.hid hK2
        have Hcall3 := Lib.hid (awakeD_ok p2 c2' ee eu w2 (HE.out.keep HC2.out (fun h => h) (fun h => h)) (Nat.lt_of_lt_of_le hg HC2.out.size) hc2' hK2)
        clear hC2 hK2 Hcall2 HC1
        go_wp2_with fail
        refine Hcall3.out.mono ?_
        rintro e w3 ⟨p3, c3', rfl, hK3, hC3⟩
        have HC3 := Lib.hid (HC2.out.trans hC3)
        obtain ⟨g3, o3, A3', d3', rfl, e0, e1, e2, e3⟩ := val_at hK3 0 (by decide)
        rw [Nat.zero_mul, Nat.add_zero] at e0 e1 e2 e3
        have e0' : w3.cell? ⟨g3, o3, none⟩ = some (.bool false) := e0
        have e1' : w3.cell? ⟨g3, o3 + 1, none⟩ = some (.int .u64 5) := e1
        have e2' : w3.cell? ⟨g3, o3 + 2, none⟩ = some (.string ⟨#[]⟩) := e2
        have e3' : w3.cell? ⟨g3, o3 + 3, none⟩ = some (.slice A3' 0 d3') := e3
        have Hcall4 := Lib.hid (sameValue_ok 5 A3' none d3' 0 w3)
        clear hC3 hK3 Hcall3 HC2 HK2 hc2' e0 e1 e2 e3
        go_wp2_with fail
        refine Hcall4.out.mono ?_
        rintro e w4 ⟨rfl, hb4⟩
        have HC4 := Lib.hid (HC3.out.trans (Chg.ofBelow hb4))
        clear hb4 HC3 Hcall4 e0' e1' e2' e3'
        obtain ⟨⟨data, nums, fit⟩, hev, hno, hfit⟩ := byIndex_ev l a1 HI.out
        obtain ⟨k, hk⟩ := hev.get
        have Hcall5 := Lib.hid (laws_byIndex.calls k A2 c2 l a1 data nums fit w4 (Kd.C_below H2.out HC4.out.toBelow) hc2 hk)
        have hat : ∃ at_ : List Nat, nums = ints at_ ∧ at_.length ≤ 12000 ∧ (fit = true → at_ = allOf l) := by
          cases fit with
          | false => exact ⟨[], hno rfl, by decide, fun h => by cases h⟩
          | true =>
            obtain ⟨W, -, -, -, hL, hF, hall, -⟩ := hfit rfl
            have := allOf_len W l hF
            exact ⟨allOf l, hall, by omega, fun _ => rfl⟩
        obtain ⟨at_, rfl, hal, hat⟩ := hat
        have Hfit := Lib.hid hfit
        have Hat := Lib.hid hat
        clear hev hk hno hfit hat
        go_wp2_with fail
        refine Hcall5.out.mono ?_
        rintro e w5 ⟨v5, v5', rfl, hR5, hR5', hB5⟩
        obtain ⟨A5, c5, rfl, hc5, hK5⟩ := Kd.R_reads hR5
        obtain ⟨A5', c5', rfl, hc5', hK5'⟩ := Kd.R_reads hR5'
        have HC5 := Lib.hid (HC4.out.trans (Chg.ofBelow hB5))
        have HK5 := Lib.hid hK5
        obtain ⟨⟨all, also⟩, hev, hall⟩ := indexed_ev d at_ (by omega) (by omega)
        obtain ⟨k, hk⟩ := hev.get
        have Hcall6 := Lib.hid (laws_indexed.calls k _ A0 c0 d A5' c5' (ints at_) all also w5 (Kd.V_mk hc0 (Kd.C_F heapV (Kd.C_below H0.out HC5.out.toBelow))) hK5' hc5' hk)
        have Hall := Lib.hid hall
        clear hR5 hR5' hB5 hK5 hK5' HC4 Hcall5 hev hk hall hc5'
        go_wp2_with fail
        refine Hcall6.out.mono ?_
        rintro e w6 ⟨v6, rfl, hN6, hB6⟩
        obtain ⟨A6, c6, rfl⟩ := Kd.N_slice hN6
        obtain ⟨-, hc6, hK6⟩ := Kd.N_reads' hN6
        have HC6 := Lib.hid (HC5.out.trans (Chg.ofBelow hB6))
        have HK6 := Lib.hid hK6
        have HK5 := Lib.hid (Kd.C_below HK5.out hB6)
        clear hN6 hB6 hK6 HC5 Hcall6
        cases fit with
        | false =>
          go_wp2_with fail
          go_ret
          exact ⟨rfl, HC6.out⟩
        | true =>
          cases also with
          | false =>
            go_wp2_with fail
            go_ret
            exact ⟨rfl, HC6.out⟩
          | true =>
            obtain ⟨hin, hall'⟩ := Hall.out rfl
            have hall'' : all = at_.map (pick d) := hall'
            subst hall''
            have hml : (at_.map (pick d)).length = at_.length := List.length_map _
            have Hin := Lib.hid hin
            clear hin hall' Hall
            by_cases hz : at_.length = 0
            · have hz' : ((at_.length : Int) == 0) = true := by rw [hz]; rfl
              go_wp2_with fail
              go_ret
              exact ⟨rfl, HC6.out⟩
            · have hz' : ((at_.length : Int) == 0) = false := by
                rw [beq_eq_false_iff_ne]; omega
              by_cases h100 : (100 : Int) < d.length
              · go_wp2_with fail
                go_ret
                exact ⟨rfl, HC6.out⟩
              · have Hcall7 := Lib.hid (plainAll_ok d A0 c0 w6 (Kd.C_below H0.out HC6.out.toBelow) (by omega))
                unfold tyF at Hcall7
                go_wp2_with fail
                refine Hcall7.out.mono ?_
                rintro e w7 ⟨r7, rfl, hr7, hb7⟩
                have HC7 := Lib.hid (HC6.out.trans (Chg.ofBelow hb7))
                have HK6' := Lib.hid (Kd.C_below HK6.out hb7)
                have HK5' := Lib.hid (Kd.C_below HK5.out hb7)
                clear hb7 Hcall7 HC6 HK6 HK5
                cases r7 with
                | false =>
                  go_wp2_with fail
                  go_ret
                  exact ⟨rfl, HC7.out⟩
                | true =>
                  have HP := Lib.hid (hr7 rfl).1
                  clear hr7
                  have Hcall8 := Lib.hid (plainFloats_ok d A0 c0 w7 (Kd.C_below H0.out HC7.out.toBelow) (by omega) HP.out)
                  unfold tyF at Hcall8
                  go_wp2_with fail
                  refine Hcall8.out.mono ?_
                  rintro e w8 ⟨r8, rfl, hb8⟩
                  have HC8 := Lib.hid (HC7.out.trans (Chg.ofBelow hb8))
                  have HK6 := Lib.hid (Kd.C_below HK6'.out hb8)
                  have HK5 := Lib.hid (Kd.C_below HK5'.out hb8)
                  clear hb8 Hcall8 HC7 HK6' HK5'
                  cases r8 with
                  | false =>
                    go_wp2_with fail
                    go_ret
                    exact ⟨rfl, HC8.out⟩
                  | true =>
                    obtain ⟨⟨want, is⟩, hev, hw⟩ := batchedValues_ev (at_.map (pick d)) ns HN.out (by omega)
                    obtain ⟨k, hk⟩ := hev.get
                    have hcall9 := spec_BatchedValues.calls k _ A6 c6 (at_.map (pick d)) A3 c3 ns want is w8 (Kd.V_mk hc6 (Kd.C_F heapV HK6.out)) (Kd.C_below H3.out HC8.out.toBelow) hc3 hk
                    rw [hml] at hcall9
                    have Hcall9 := Lib.hid hcall9
                    clear hcall9
                    have Hw := Lib.hid hw
                    clear hev hk hw
                    go_wp2_with fail
                    refine Hcall9.out.mono ?_
                    rintro e w9 ⟨v9, rfl, hN9, hB9⟩
                    obtain ⟨A9, c9, rfl⟩ := Kd.N_slice hN9
                    obtain ⟨-, hc9, hK9⟩ := Kd.N_reads' hN9
                    have HC9 := Lib.hid (HC8.out.trans (Chg.ofBelow hB9))
                    have HK9 := Lib.hid hK9
                    have HK5' := Lib.hid (Kd.C_below HK5.out hB9)
                    clear hN9 hB9 hK9 HC8 Hcall9 HK5 HK6
                    cases is with
                    | false =>
                      go_wp2_with fail
                      go_ret
                      exact ⟨rfl, HC9.out⟩
                    | true =>
                      obtain ⟨h50, hfn, hwant⟩ := Hw.out rfl
                      have hwant' : want = takesV ns (at_.map (pick d)) := hwant
                      subst hwant'
                      rw [hml] at hfn
                      have Hfn := Lib.hid hfn
                      have Hlen := Lib.hid (show ns.length ≤ 1000000 by omega)
                      clear h50 hfn hwant Hw
                      have Hcall10 := Lib.hid (plainlyC_ok d A0 c0 w9 (Kd.C_below H0.out HC9.out.toBelow) (by omega) (fun v hv => (HV.out v hv).1))
                      unfold tyF at Hcall10
                      go_wp2_with fail
                      refine Hcall10.out.mono ?_
                      rintro e w10 ⟨p10, c10, rfl, hc10, hK10, hC10⟩
                      have HC10 := Lib.hid (HC9.out.trans hC10)
                      have HK9' := Lib.hid (Kd.C_below HK9.out hC10.toBelow)
                      obtain ⟨W, -, hW1, hW2, -, -, -, bs, hdata, hbs, hbl, hne, hruns⟩ := Hfit.out (by trivial)
                      have hdata' : data = ints (W :: bs) := hdata
                      have hat' := Hat.out (by trivial)
                      have hcall11 := fun hKd hcd => readD_ok c10 c5 c3 W p10 A5 A3 ee eu d at_ bs ns w10 (HE.out.keep HC10.out (fun h => h) (fun h => h)) (Nat.lt_of_lt_of_le hg HC10.out.size) hK10 hc10 HP.out HV.out (by omega) hKd hcd hbs hbl (hne (fun h => by
                          rw [h] at hat'
                          have : at_ = [] := hat'
                          rw [this] at hz
                          exact hz rfl)) hW1 hW2 (by rw [hat']; exact hruns) Hin.out (fun h => by rw [h] at hz; exact hz rfl) (by omega) (Kd.C_below H3.out HC10.out.toBelow) Hlen.out Hfn.out
                      have hKd := Kd.C_below HK5'.out hC10.toBelow
                      rw [← hdata'] at hcall11
                      have Hcall11 := Lib.hid (hcall11 hKd hc5)
                      clear hcall11 hKd hdata hdata' hbs hbl hne hruns hat' hW1 hW2 hK10 hC10 Hcall10 HC9 HK9 HK5'
                      go_wp2_with fail
                      refine Hcall11.out.mono ?_
                      rintro e w11 ⟨p11, c11, rfl, hK11, hC11⟩
                      have HC11 := Lib.hid (HC10.out.trans hC11)
                      have htl := takesV_len ns (at_.map (pick d))
                      have Hcall12 := Lib.hid (sameValues_ok (takesV ns (at_.map (pick d))) p11 A9 c11 c9 w11 hK11 (Kd.C_below HK9'.out hC11.toBelow) (fun v hv => by
                          obtain ⟨x, hx, rfl⟩ := List.mem_map.1 (takesV_mem ns _ v hv)
                          exact HP.out _ (pick_mem d x (Hin.out x hx))) (by omega))
                      clear hK11 hC11 htl Hcall11 HC10 HK9'
                      go_wp2_with fail
                      refine Hcall12.out.mono ?_
                      rintro e w12 ⟨rfl, hb12⟩
                      have HC12 := Lib.hid (HC11.out.trans (Chg.ofBelow hb12))
                      clear hb12 Hcall12 HC11
                      go_wp2_with fail
                      go_ret
                      exact ⟨rfl, HC12.out⟩
end Go.Proofs.YtmcjpnijldhelaaGreatDoor
