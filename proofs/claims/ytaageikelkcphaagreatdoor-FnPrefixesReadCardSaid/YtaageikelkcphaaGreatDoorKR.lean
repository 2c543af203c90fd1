/- Part 18 of the proof: the texts AQ, LR, LS, joined. What each proves stands ahead of it. -/
import Derived.Test.YtaageikelkcphaaGreatDoorKD
import Derived.Test.YtaageikelkcphaaGreatDoorKM
import Derived.Test.YtaageikelkcphaaGreatDoorKH
import Derived.Shelf.Abstract
import Derived.Test.YtaageikelkcphaaGreatDoorKQ
import Derived.Defers
import Derived.Recover
set_option linter.unusedVariables false
set_option linter.unusedSimpArgs false
/- Appends to a row of one's own: where the row lies behind it. From AO. Over any program. -/
namespace Go.Proofs.YtaageikelkcphaaGreatDoor
open Go Go.RowKit
section
variable {P : Program}
/-- The row lies where it lay, or in a new block. -/
def Stays (w : World) (v v' : Value) : Prop := ∀ k, v'.ownBlock = some k → v.ownBlock = some k ∨ w.heap.size ≤ k
theorem stays_new (w : World) (v : Value) (g n c : Nat) (h : w.heap.size ≤ g) : Stays w v (.slice (some ⟨g, 0, none⟩) n c) := by
  intro k hk
  simp only [Value.ownBlock] at hk
  injection hk with hk
  subst hk
  exact .inr h
theorem run_append_own (w : World) (base : Nat) (t ty e : TypeId) (i : TypeInfo) (z : Value) (bytes : Nat) (ht : P.underlying t = some (.slice e)) (hi : P.info? e = some i) (hz : i.zero = some z)
    (hsize : i.size = 1) (hby : i.bytes = bytes) (hzs : z.cells.size = 1)
    (v : Value) (xs : List Value) (hown : Own1 w base e v xs)
    (x : Value) (news : List Value) (hx : Reads w x news) (h1 : ∀ u ∈ news, u.oneCell' = true)
    (h63 : xs.length + news.length ≤ maxLen) (hbytes : (xs.length + news.length) * bytes ≤ 140737488355328) (hbase : base ≤ w.heap.size) :
    ∃ v' w', (Builtin.append_ #[t, t] ty #[v, x]).run P w = .ok v' w' ∧ Own1 w' base e v' (xs ++ news) ∧ Chg (fun k _ => v.ownBlock = some k) w w' ∧ Stays w v v' := by
  obtain ⟨p, c, rfl, hp⟩ := hx
  by_cases hnil : news = []
  · subst hnil
    rw [List.append_nil]
    refine ⟨v, w, ?_, hown, Chg.refl _ _, fun k hk => .inl hk⟩
    rcases hown.2 with ⟨rfl, hn⟩ | ⟨g, cap, cur, rfl, hbg, hg, hnc, hcm, hcs, htake⟩
    · simp [Builtin.append_, run_underlying ht, sizeOf, typeInfo, hi, Builtin.lenOf, Builtin.firstCells, loadCells, loadCellsFrom]
      cases p <;> simp [loadCells, loadCellsFrom]
    · simp [Builtin.append_, run_underlying ht, sizeOf, typeInfo, hi, Builtin.lenOf, Builtin.firstCells, loadCells, loadCellsFrom, hnc]
      cases p <;> simp [loadCells, loadCellsFrom, storeCells]
  obtain ⟨ag, ao, rfl, hcell⟩ := hp.resolve_left hnil
  have hnews : ∀ j u, news[j]? = some u → w.cell? ((⟨ag, ao, none⟩ : Addr).add j) = some u := fun j u hu => by rw [addr_add]; exact hcell j u hu
  have hm0 : 0 < news.length := List.length_pos_iff.2 hnil
  subst hby
  have hl : news.length = news.length * i.size := by rw [hsize, Nat.mul_one]
  have hsmall : xs.length + news.length ≤ 9223372036854775807 := by simp only [maxLen] at h63; omega
  have hlen : (xs ++ news).length = (xs.length + news.length) * 1 := by rw [List.length_append, Nat.mul_one]
  have hlen1 : (xs ++ news).length = xs.length + news.length := List.length_append
  have hxl : xs.length = xs.length * i.size := by rw [hsize, Nat.mul_one]
  have grown : ∀ (old : Nat), old < xs.length + news.length →
      Own1 (w.drew.alloc (.cells (xs.toArray ++ news.toArray ++ Builtin.zeroCells z.cells (grownCap w (xs.length + news.length) old e - (xs.length + news.length))) e)) base e
        (.slice (some ⟨w.heap.size, 0, none⟩) (xs.length + news.length) (grownCap w (xs.length + news.length) old e)) (xs ++ news) := by
    intro old ho
    have hge := grownCap_ge w (xs.length + news.length) old e
    have hcm : grownCap w (xs.length + news.length) old e ≤ maxLen := grownCap_le_maxLen w _ old e h63
    unfold Own1
    rw [hlen1]
    refine ⟨hlen, .inr ⟨w.heap.size, _, _, rfl, hbase, heap_alloc_new w.drew _, hge, hcm, ?_, ?_⟩⟩
    · simp only [Array.size_append, List.size_toArray, size_zeroCells, hzs]
      omega
    · simp only [Array.toList_append, List.append_assoc]
      rw [← List.append_assoc, ← hlen]
      exact List.take_left
  rcases hown.2 with ⟨rfl, hn⟩ | ⟨g, cap, cur, rfl, hbg, hg, hnc, hcm, hcs, htake⟩
  · have hxn : xs = [] := List.eq_nil_of_length_eq_zero hn
    subst hxn
    have hr := run_append_nil (P := P) w t ty e i z ht hi hz ⟨ag, ao, none⟩ news.length c news hl hnews (by omega) (by have := hsmall; simp at this; omega) (by have hb := hbytes; simpa using Nat.le_trans hb (by decide))
    have hgr := grown 0 (by simp; omega)
    simp only [List.length_nil, Nat.zero_add, List.nil_append, Array.empty_append] at hgr ⊢
    exact ⟨_, _, hr, hgr, ((Chg.refl _ _).drew).alloc _, stays_new _ _ _ _ _ (Nat.le_refl _)⟩
  · by_cases hroom : xs.length + news.length ≤ cap
    · have hfit : xs.length * i.size + news.length ≤ cur.size := by rw [hsize, hcs]; omega
      have hr := run_append_room (P := P) w t ty e i ht hi g xs.length cap cur hg ⟨ag, ao, none⟩ news.length c news hl hnews h1 hroom hfit
      rw [hsize, Nat.mul_one] at hr
      rw [Nat.mul_one] at htake
      refine ⟨_, _, hr, ?_, (chg_setRow _ hg).mono (fun k _ _ hk => by rw [hk]; rfl), fun k hk => .inl hk⟩
      unfold Own1
      rw [hlen1]
      refine ⟨hlen, .inr ⟨g, cap, _, rfl, hbg, setRow_heap w g cur _ e _ hg, hroom, hcm, ?_, ?_⟩⟩
      · simp only [List.size_toArray, List.length_append, List.length_take, List.length_drop, Array.length_toList]
        omega
      · rw [htake, Nat.mul_one, ← hlen1]
        exact List.take_left
    · have holds : ∀ j u, xs[j]? = some u → w.cell? ((⟨g, 0, none⟩ : Addr).add j) = some u := World.ownsRow.cells hown (g := g) rfl
      have hr := run_append_grow (P := P) w t ty e i z ht hi hz ⟨g, 0, none⟩ xs.length cap xs hxl holds ⟨ag, ao, none⟩ news.length c news hl hnews (by omega) (by omega) (growslice_fits (by omega) hbytes)
      exact ⟨_, _, hr, grown cap (by omega), ((Chg.refl _ _).drew).alloc _, stays_new _ _ _ _ _ (Nat.le_refl _)⟩
theorem wp_append_own (w : World) {o : Oper} {a : Act} {K : Act → World → Prop} {Q : Exit → Act → World → Prop} (s x : Operand) (t : TypeId)
    (ho : o.op = .call { callee := .builtin .append, args := #[s, x], argTypes := #[t, t] })
    (base : Nat) (e : TypeId) (i : TypeInfo) (z : Value) (bytes : Nat) (ht : P.underlying t = some (.slice e)) (hi : P.info? e = some i) (hz : i.zero = some z)
    (hsize : i.size = 1) (hby : i.bytes = bytes) (hzs : z.cells.size = 1)
    (v : Value) (xs : List Value) (hs : a.eval s = v) (hown : Own1 w base e v xs)
    (y : Value) (news : List Value) (hx : a.eval x = y) (hy : Reads w y news) (h1 : ∀ u ∈ news, u.oneCell' = true)
    (h63 : xs.length + news.length ≤ maxLen) (hbytes : (xs.length + news.length) * bytes ≤ 140737488355328) (hbase : base ≤ w.heap.size)
    (h : ∀ v' w', Own1 w' base e v' (xs ++ news) → Chg (fun k _ => v.ownBlock = some k) w w' → Stays w v v' → K (a.put o.dst v') w') : o.wp P a w K Q := by
  obtain ⟨v', w', hr, h2, h3, h4⟩ := run_append_own (P := P) w base t o.type e i z bytes ht hi hz hsize hby hzs v xs hown y news hy h1 h63 hbytes hbase
  unfold Oper.wp execOp
  simp only [ho, resolve, invoke, builtin, Sem.run_bind, Sem.run_pure, Result.andThen_ok, List.map_toArray, List.map_cons, List.map_nil, hs, hx, hr]
  exact h v' w' h2 h3 h4
theorem wpList_append_own {w : World} {ops : Array Oper} {rest : List Oper} {o : Oper} {a : Act} {Q : Exit → Act → World → Prop} (hgd : o.guard = none) (s x : Operand) (t : TypeId)
    (ho : o.op = .call { callee := .builtin .append, args := #[s, x], argTypes := #[t, t] })
    (base : Nat) (e : TypeId) (i : TypeInfo) (z : Value) (bytes : Nat) (ht : P.underlying t = some (.slice e)) (hi : P.info? e = some i) (hz : i.zero = some z)
    (hsize : i.size = 1) (hby : i.bytes = bytes) (hzs : z.cells.size = 1)
    (v : Value) (xs : List Value) (hs : a.eval s = v) (hown : Own1 w base e v xs)
    (y : Value) (news : List Value) (hx : a.eval x = y) (hy : Reads w y news) (h1 : ∀ u ∈ news, u.oneCell' = true)
    (h63 : xs.length + news.length ≤ maxLen) (hbytes : (xs.length + news.length) * bytes ≤ 140737488355328) (hbase : base ≤ w.heap.size)
    (h : ∀ v' w', Own1 w' base e v' (xs ++ news) → Chg (fun k _ => v.ownBlock = some k) w w' → Stays w v v' → wpList P ops Q rest (a.put o.dst v') w') : wpList P ops Q (o :: rest) a w :=
  wpList_plain hgd fun _ hK => wp_append_own w s x t ho base e i z bytes ht hi hz hsize hby hzs v xs hs hown y news hx hy h1 h63 hbytes hbase fun v' w' h2 h3 h4 => hK _ _ (h v' w' h2 h3 h4)
end
end Go.Proofs.YtaageikelkcphaaGreatDoor
/- impl.decoded of byte arrays, over whatever decoder. -/
namespace Go.Proofs.YtaageikelkcphaaGreatDoor
open Go Go.RowKit
/-- What batches take. -/
def takesV {α : Type} : List Int → List α → List α
  | [], _ => []
  | n :: ns, vs => (if n < 0 then [] else vs.take n.natAbs) ++ takesV ns (vs.drop n.natAbs)
theorem takesV_nil {α : Type} : ∀ (ns : List Int), takesV ns ([] : List α) = []
  | [] => rfl
  | n :: ns => by simp [takesV, takesV_nil ns]
/-- Byte arrays that stand in memory, in the blocks V. -/
def BAs (V : Nat → Prop) (w : World) (us : List Value) (ls : List (List Nat)) : Prop :=
  us.length = ls.length ∧ ∀ (j : Nat) (u : Value) (l : List Nat), us[j]? = some u → ls[j]? = some l → BA (fun g _ => V g) w u l
theorem BAs.keep {V : Nat → Prop} {w w' : World} {us : List Value} {ls : List (List Nat)} (h : BAs V w us ls) {S : Nat → Nat → Prop} (hc : Chg S w w') (hS : ∀ a x, S a x → ¬ V a) : BAs V w' us ls :=
  ⟨h.1, fun j u l h1 h2 => (h.2 j u l h1 h2).keep hc hS⟩
theorem BAs.mono {V V' : Nat → Prop} {w : World} {us : List Value} {ls : List (List Nat)} (h : BAs V w us ls) (hV : ∀ a, V a → V' a) : BAs V' w us ls :=
  ⟨h.1, fun j u l h1 h2 => (h.2 j u l h1 h2).mono (fun a _ _ ha => hV a ha)⟩
theorem BAs.app {V : Nat → Prop} {w : World} {us us' : List Value} {ls ls' : List (List Nat)} (h : BAs V w us ls) (h' : BAs V w us' ls') : BAs V w (us ++ us') (ls ++ ls') := by
  refine ⟨by rw [List.length_append, List.length_append, h.1, h'.1], fun j u l h1 h2 => ?_⟩
  by_cases hj : j < us.length
  · rw [List.getElem?_append_left hj] at h1
    rw [List.getElem?_append_left (by rw [← h.1]; exact hj)] at h2
    exact h.2 j u l h1 h2
  · rw [List.getElem?_append_right (by omega)] at h1
    rw [List.getElem?_append_right (by rw [← h.1]; omega), ← h.1] at h2
    exact h'.2 _ u l h1 h2
theorem BAs.nil (V : Nat → Prop) (w : World) : BAs V w [] [] := ⟨rfl, fun j u l h _ => by simp at h⟩
theorem BA.one {K : Nat → Nat → Prop} {w : World} {v : Value} {bs : List Nat} (h : BA K w v bs) : v.oneCell' = true := by
  obtain ⟨g, o, c, rfl, -⟩ := h; rfl
/-- What a decoder of the texts ls owes: St V p w: it stands behind p texts in w, texts that were read lie in the blocks V; O: its own blocks. -/
structure DecT (O : Nat → Prop) (St : (Nat → Prop) → Nat → World → Prop) (ls : List (List Nat)) (fR fD d : Nat) : Prop where
  lt : ∀ V p w, St V p w → (∀ a, O a → a < w.heap.size) ∧ ∀ a, V a → a < w.heap.size ∧ ¬ O a
  keep : ∀ V p w w' S, St V p w → Chg S w w' → (∀ a x, S a x → ¬ O a ∧ ¬ V a) → St V p w'
  ds : ∀ V p w n m, St V p w → m = min n (ls.length - p) → 1 ≤ n → n ≤ 5000 → Calls Tryz.prog fD #[.pointer (some ⟨d, 0, none⟩), .int .i64 n] w fun e w' => e = .returned (.tuple #[.int .i64 m, .nilIface]) ∧ Chg (fun a _ => O a) w w' ∧ ∃ V', Grow V w V' ∧ (∀ a, V a → V' a) ∧ St V' (p + m) w'
  rd : ∀ V p w n m ob, St V p w → m = min n (ls.length - p) → 1 ≤ n → n ≤ 5000 → ¬ O ob → ¬ V ob → ob < w.heap.size → (∀ j, j < n → w.cell? ⟨ob, j, none⟩ = some (.slice none 0 0)) → (∀ j, w.frozen? ⟨ob, j, none⟩ = false) → Calls Tryz.prog fR #[.pointer (some ⟨d, 0, none⟩), .slice (some ⟨ob, 0, none⟩) n n] w fun e w' =>
    e = .returned (.tuple #[.int .i64 m, .nilIface]) ∧ Chg (fun a x => O a ∨ (a = ob ∧ x < n)) w w' ∧ ∃ V', Grow V w V' ∧ (∀ a, V a → V' a) ∧ ¬ V' ob ∧ St V' (p + m) w' ∧ ∀ j, j < m → ∃ v l, ls[p + j]? = some l ∧ w'.cell? ⟨ob, j, none⟩ = some v ∧ BA (fun g _ => V' g) w' v l
/-- What holds at the head of the loop. -/
structure RFT (O : Nat → Prop) (St : (Nat → Prop) → Nat → World → Prop) (ns : List Int) (ls : List (List Nat)) (w wx : World) (k : Nat) (v : Value) (p : Nat) (done : List Value) (got : List (List Nat)) (V : Nat → Prop) : Prop where
  own : Own1 wx w.heap.size 51 v done
  bas : BAs V wx done got
  st : St V p wx
  ov : ∀ g, v.ownBlock = some g → ¬ O g ∧ ¬ V g
  pl : p ≤ ls.length
  sum : got ++ takesV (ns.drop k) (ls.drop p) = takesV ns ls
  len : done.length ≤ p
  chg : Chg (fun a _ => O a) w wx
theorem infoBA : (Tryz.prog.info? 51).map (fun i => (i.zero, i.size, i.bytes)) = some (some (.slice none 0 0), 1, 24) := by kernel_rfl
theorem make_BA (n : Nat) (h2 : n ≤ 1000000) : ∀ W : World, (Instr.makeSlice 48 (.int .i64 (n : Int)) (.int .i64 (n : Int))).run Tryz.prog W = .ok (.slice (some ⟨W.heap.size, 0, none⟩) n n) (W.alloc (.cells (madeCells #[.slice none 0 0] n) 51)) :=
  fun W => run_make_row' (P := Tryz.prog) 48 51 (.slice none 0 0) 24 (by kernel_rfl) (by kernel_rfl) rfl .i64 .i64 n (by omega) (by omega) W
theorem RowBA.cells {w : World} {ob n c m : Nat} {V : Nat → Prop} {ls : List (List Nat)} {p : Nat} (hp : p + m ≤ ls.length) (h : ∀ j, j < m → ∃ v l, ls[p + j]? = some l ∧ w.cell? ⟨ob, j, none⟩ = some v ∧ BA (fun g _ => V g) w v l) :
    ∃ us, us.length = m ∧ Reads w (.slice (some ⟨ob, 0, none⟩) m c) us ∧ BAs V w us ((ls.drop p).take m) ∧ ∀ u ∈ us, u.oneCell' = true := by
  have hl : ((ls.drop p).take m).length = m := by rw [List.length_take, List.length_drop]; omega
  refine ⟨(List.range m).map fun j => (w.cell? ⟨ob, j, none⟩).getD .nilIface, by simp, ?_, ⟨by simp [hl], fun j u l h1 h2 => ?_⟩, fun u hu => ?_⟩
  · refine ⟨_, c, by simp, .inr ⟨ob, 0, rfl, fun j u hu => ?_⟩⟩
    have hj : j < m := by have := (List.getElem?_eq_some_iff.1 hu).1; simpa using this
    obtain ⟨v, l, -, h2, -⟩ := h j hj
    simp only [List.getElem?_map, List.getElem?_range hj, Option.map_some, h2, Option.getD_some, Option.some.injEq] at hu
    rw [Nat.zero_add, h2, hu]
  · have hj : j < m := by have := (List.getElem?_eq_some_iff.1 h1).1; simpa using this
    obtain ⟨v, l', e1, e2, e3⟩ := h j hj
    simp only [List.getElem?_map, List.getElem?_range hj, Option.map_some, e2, Option.getD_some, Option.some.injEq] at h1
    rw [List.getElem?_take_of_lt hj, List.getElem?_drop, e1] at h2
    injection h2 with h2
    subst h1; subst h2
    exact e3
  · obtain ⟨j, hj, rfl⟩ := List.mem_map.1 hu
    obtain ⟨v, l, -, e2, e3⟩ := h j (List.mem_range.1 hj)
    simp only [e2, Option.getD_some]
    exact e3.one
/-- append to a row of byte arrays of one's own. -/
theorem wpList_append_BA {w : World} {ops : Array Oper} {rest : List Oper} {o : Oper} {a : Act} {Q : Exit → Act → World → Prop} (hgd : o.guard = none) (s x : Operand)
    (ho : o.op = .call { callee := .builtin .append, args := #[s, x], argTypes := #[48, 48] })
    (base : Nat) (v : Value) (xs : List Value) (hs : a.eval s = v) (hown : Own1 w base 51 v xs)
    (y : Value) (news : List Value) (hx : a.eval x = y) (hy : Reads w y news) (h1 : ∀ u ∈ news, u.oneCell' = true)
    (hb : xs.length + news.length ≤ 1000000000) (hbase : base ≤ w.heap.size)
    (h : ∀ v' w', Own1 w' base 51 v' (xs ++ news) → Chg (fun k _ => v.ownBlock = some k) w w' → Stays w v v' → wpList Tryz.prog ops Q rest (a.put o.dst v') w') : wpList Tryz.prog ops Q (o :: rest) a w := by
  obtain ⟨i, hi, hz⟩ := Option.map_eq_some_iff.1 infoBA
  injection hz with hz1 hz2
  injection hz2 with hz2 hz3
  exact wpList_append_own hgd s x 48 ho base 51 i (.slice none 0 0) 24 Tryz.underlying48 hi hz1 hz2 hz3 rfl v xs hs hown y news hx hy h1 (by unfold maxLen; omega) (by omega) hbase h
theorem dropconsI (ns : List Int) (k : Nat) (h : k < ns.length) : ns.drop k = ns[k] :: ns.drop (k + 1) := List.drop_eq_getElem_cons h
set_option maxRecDepth 100000 in
set_option maxHeartbeats 1000000 in
theorem decodedT_ok (O : Nat → Prop) (St : (Nat → Prop) → Nat → World → Prop) (ls : List (List Nat)) (fR fD d bc : Nat) (bp : Option Addr) (ns : List Int) (V0 : Nat → Prop) (w : World) (h0 : St V0 0 w) (hD : DecT O St ls fR fD d) (hv : ls.length ≤ 1000000)
    (heR : ∀ (args : Array Value) (w : World), (callFunc fR args).run Tryz.prog w = .ok (.enter fR args) w) (heD : ∀ (args : Array Value) (w : World), (callFunc fD args).run Tryz.prog w = .ok (.enter fD args) w)
    (hns : ∀ j (hj : j < ns.length), ∃ g o, bp = some ⟨g, o, none⟩ ∧ w.cell? ⟨g, o + j, none⟩ = some (.int .i64 ns[j]) ∧ ¬ O g) (hnc : ns.length ≤ 1000000) (hf : ∀ n ∈ ns, n ≠ 0 ∧ -5000 ≤ n ∧ n ≤ 5000) :
    Calls Tryz.prog 17 #[.slice bp ns.length bc, .func (.func fR) #[.pointer (some ⟨d, 0, none⟩)] #[], .func (.func fD) #[.pointer (some ⟨d, 0, none⟩)] #[]] w fun e w' =>
      ∃ v us V, e = .returned (.tuple #[v, .bool true]) ∧ Own1 w' w.heap.size 51 v us ∧ BAs V w' us (takesV ns ls) ∧ Chg (fun a _ => O a) w w' := by
  have hb0 : RFT O St ns ls w w 0 (.slice none 0 0) 0 [] [] V0 := ⟨Own1.nil _ _ _, BAs.nil _ _, h0, fun g hg => by simp [Value.ownBlock] at hg, Nat.zero_le _, rfl, by simp, Chg.refl _ _⟩
  have Hb0 := Lib.hid hb0
  have HD := Lib.hid hD
  have Hns := Lib.hid hns
  have Hf := Lib.hid hf
  clear hb0 h0 hD hns hf
  go_enter Tryz.func17, Tryz.ntmps17
  go_wp2_with fail
  go_loopw [6, 17] (fun v i wx => ∃ k p done got v6 V, k ≤ ns.length ∧ i = .int .i64 (k : Nat) ∧ v6 = v ∧ RFT O St ns ls w wx k v6 p done got V) (fun _ i _ => ns.length - (intOf i).toNat)
  case atStart => exact ⟨0, 0, [], [], _, _, Nat.zero_le _, rfl, rfl, Hb0.out⟩
  case round =>
    obtain ⟨k, p, done, got, v6, V, hk, rfl, rfl, hG⟩ := hrel
    clear Hb0
    by_cases hlt : k < ns.length
    · obtain ⟨g, go, rfl, hcell, hgo⟩ := Hns.out k hlt
      have hcell2 := hG.chg.keep hcell hgo
      obtain ⟨n, hn⟩ : ∃ n, n = ns[k] := ⟨_, rfl⟩
      rw [← hn] at hcell2
      obtain ⟨g1, g2, g3⟩ := Hf.out n (by rw [hn]; exact List.getElem_mem hlt)
      have hsum := hG.sum
      rw [dropconsI ns k hlt, ← hn] at hsum
      have hpl := hG.pl
      by_cases hneg : n < 0
      · obtain ⟨m, rfl⟩ : ∃ m : Nat, n = -(m : Int) := ⟨n.natAbs, by omega⟩
        rw [takesV, if_pos hneg, List.nil_append, Int.natAbs_neg, Int.natAbs_natCast, List.drop_drop] at hsum
        have hm0 : 1 ≤ m := by omega
        obtain ⟨q, hq⟩ : ∃ q, q = min m (ls.length - p) := ⟨_, rfl⟩
        have Hcall := Lib.hid (HD.out.ds V p wr m q hG.st hq hm0 (by omega))
        have hq1 : q ≤ m := by omega
        have hq2 : p + q ≤ ls.length := by omega
        have Hq := Lib.hid hq
        clear hq
        have hlt' : (-(m : Int)) < 0 := by omega
        have hww : IntKind.i64.wrap (m : Int) = m := IntWalk.i64_in _ (by omega)
        have HG := Lib.hid hG
        have Hsum := Lib.hid hsum
        clear hG hn hcell hsum
        go_wp2_with fail
        refine Hcall.out.mono ?_
        rintro e w3 ⟨rfl, h3, V', hgr, hVV, hs3⟩
        have hlt3 := HD.out.lt _ _ _ hs3
        have hltr := HD.out.lt _ _ _ HG.out.st
        have hown3 : Own1 w3 w.heap.size 51 v6 done := HG.out.own.keepAt h3 (fun g hg o hh => (HG.out.ov g hg).1 hh)
        have hbas3 : BAs V' w3 done got := (HG.out.bas.keep h3 (fun a x ha hv => (hltr.2 a hv).2 ha)).mono hVV
        have hchg3 : Chg (fun a _ => O a) w w3 := HG.out.chg.trans h3
        have hov3 : ∀ g, v6.ownBlock = some g → ¬ O g ∧ ¬ V' g := fun g hg => ⟨(HG.out.ov g hg).1, fun hh => (hgr g hh).elim (HG.out.ov g hg).2 (fun h6 => by have := (HG.out.own.lt g hg).2; omega)⟩
        have hq := Hq.out
        clear Hq
        by_cases hqm : q = m
        · have hst : RFT O St ns ls w w3 (k + 1) v6 (p + m) done got V' := ⟨hown3, hbas3, hqm ▸ hs3, hov3, by omega, Hsum.out, by have := HG.out.len; omega, hchg3⟩
          have Hst := Lib.hid hst
          clear hst h3 hs3 hgr hown3 hbas3 hchg3 hov3 hlt3 hltr
          have hqI : ¬ (q : Int) ≠ m := by omega
          have hqI' : (q : Int) = m := by omega
          clear hq
          go_wp2_with fail
          go_roundw
          case rel => exact ⟨k + 1, _, _, _, _, _, by omega, by go_num, rfl, Hst.out⟩
          case measure => simp [intOf]; omega
        · have hend : got = takesV ns ls := by
            have := Hsum.out
            rw [List.drop_of_length_le (i := p + m) (by omega), takesV_nil, List.append_nil] at this
            exact this
          have Hend := Lib.hid hend
          have Hown := Lib.hid hown3
          have Hbas := Lib.hid hbas3
          have Hchg := Lib.hid hchg3
          clear h3 hs3 hgr hown3 hbas3 hchg3 hov3 hlt3 hltr hend
          have hqI : (q : Int) ≠ m := by omega
          clear hq
          go_wp2_with fail
          go_ret2
          exact ⟨_, _, V', rfl, Hown.out, Hend.out ▸ Hbas.out, Hchg.out⟩
      · obtain ⟨m, rfl⟩ : ∃ m : Nat, n = (m : Int) := ⟨n.natAbs, by omega⟩
        rw [takesV, if_neg hneg, Int.natAbs_natCast, List.drop_drop, ← List.append_assoc] at hsum
        have hm0 : 1 ≤ m := by omega
        have hmk := make_BA m (by omega)
        obtain ⟨q, hq⟩ : ∃ q, q = min m (ls.length - p) := ⟨_, rfl⟩
        obtain ⟨X, hX⟩ : ∃ X, X = Obj.cells (madeCells #[.slice none 0 0] m) 51 := ⟨_, rfl⟩
        have hfr1 : ∀ j, j < m → (wr.alloc X).cell? ⟨wr.heap.size, j, none⟩ = some (.slice none 0 0) := fun j hj => by rw [hX]; exact made_cell wr _ m j _ hj
        have hfr2 : ∀ j, (wr.alloc X).frozen? ⟨wr.heap.size, j, none⟩ = false := fun j => by rw [hX]; exact fresh_frozenL rfl j
        rw [← hX] at hmk
        have hltr := HD.out.lt _ _ _ hG.st
        have hst1 : St V p (wr.alloc X) := HD.out.keep V p wr _ _ hG.st (Chg.new wr X) (fun _ _ h => h.elim)
        have hoO : ¬ O wr.heap.size := fun hh => by have := hltr.1 _ hh; omega
        have hoV : ¬ V wr.heap.size := fun hh => by have := (hltr.2 _ hh).1; omega
        have Hcall := Lib.hid (HD.out.rd V p (wr.alloc X) m q wr.heap.size hst1 hq hm0 (by omega) hoO hoV (by simp) hfr1 hfr2)
        have hq1 : q ≤ m := by omega
        have hq2 : p + q ≤ ls.length := by omega
        have Hq := Lib.hid hq
        clear hq
        have HG := Lib.hid hG
        have Hsum := Lib.hid hsum
        have Hltr := Lib.hid hltr
        have hlt' : ¬ (m : Int) < 0 := by omega
        clear hG hn hcell hsum hX hfr1 hfr2 hst1 hoO hoV hltr
        go_wp2_with fail
        refine Hcall.out.mono ?_
        rintro e w3 ⟨rfl, h3, V', hgr, hVV, hVob, hs3, hc3⟩
        have hlw := HG.out.chg.size
        have hlt3 := HD.out.lt _ _ _ hs3
        have hch : Chg (fun a _ => O a) w w3 := HG.out.chg.comp (h3.unalloc (T := fun a x => O a) (by
          rintro a x ha (hh | ⟨hh, -⟩)
          · exact hh
          · omega)) (fun _ _ _ h => h) (fun a x ha hh => hh)
        have hown : Own1 w3 w.heap.size 51 v6 done := (HG.out.own.keep (Chg.new wr X) (fun _ _ _ h => h.elim)).keepAt h3 (by
          rintro g hg o (hh | ⟨hh, -⟩)
          · exact (HG.out.ov g hg).1 hh
          · have := (HG.out.own.lt g hg).2
            omega)
        have hbas : BAs V' w3 done got := ((HG.out.bas.keep (Chg.new wr X) (fun _ _ h => h.elim)).keep h3 (by
          rintro a x (hh | ⟨hh, -⟩) hv
          · exact (Hltr.out.2 a hv).2 hh
          · have := (Hltr.out.2 a hv).1
            omega)).mono hVV
        have hov : ∀ g, v6.ownBlock = some g → ¬ O g ∧ ¬ V' g := fun g hg => ⟨(HG.out.ov g hg).1, fun hh => (hgr g hh).elim (HG.out.ov g hg).2 (fun h6 => by
          have := (HG.out.own.lt g hg).2
          simp at h6
          omega)⟩
        obtain ⟨us, hul, hrd3, hbu, hu1⟩ := RowBA.cells (c := m) (n := m) (by omega) hc3
        have Hown := Lib.hid hown
        have Hch := Lib.hid hch
        have Hrd3 := Lib.hid hrd3
        have Hs3 := Lib.hid hs3
        have Hov := Lib.hid hov
        have Hul := Lib.hid hul
        have Hbas := Lib.hid (hbas.app hbu)
        have Hu1 := Lib.hid hu1
        have Hlt3 := Lib.hid hlt3
        have i1 : (0 : Int) ≤ q := by omega
        have i2 : (q : Int).toNat = q := by omega
        have i3 : (q : Int) ≤ m := by omega
        clear h3 hc3 hs3 hch hown hrd3 hul Hcall hmk hgr hov hbas hbu hu1 hlt3
        go_wp2_with (at_builtin; go_loud (refine (wpList_append_BA rfl (.tmp 47) (.tmp 50) rfl w.heap.size _ done rfl Hown.out _ us rfl Hrd3.out Hu1.out (by rw [Hul.out]; have := HG.out.len; omega) Hch.out.size ?_)))
        intro v' w' hO' hC' hSt'
        have hov' : ∀ g, v'.ownBlock = some g → ¬ O g ∧ ¬ V' g := fun g hg => by
          rcases hSt' g hg with h6 | h6
          · exact Hov.out g h6
          · exact ⟨fun hh => by have := Hlt3.out.1 g hh; omega, fun hh => by have := (Hlt3.out.2 g hh).1; omega⟩
        have hbas' : BAs V' w' (done ++ us) (got ++ (ls.drop p).take q) := Hbas.out.keep hC' (fun a x ha hv => (Hov.out a ha).2 hv)
        have hst' : St V' (p + q) w' := HD.out.keep _ _ _ _ _ Hs3.out hC' (fun a x ha => Hov.out a ha)
        have hchg' : Chg (fun a _ => O a) w w' := Hch.out.comp hC' (fun _ _ _ h => h) (fun a x ha h => by have := (Hown.out.lt a h).1; omega)
        have hq := Hq.out
        clear Hq
        by_cases hqm : q = m
        · have hst : RFT O St ns ls w w' (k + 1) v' (p + m) (done ++ us) (got ++ (ls.drop p).take m) V' := by
            rw [hqm] at hbas' hst'
            exact ⟨hO', hbas', hst', hov', by omega, Hsum.out, by have := HG.out.len; have := Hul.out; rw [List.length_append]; omega, hchg'⟩
          have Hst := Lib.hid hst
          clear hst hO' hC' hSt' Hown Hch Hrd3 Hs3 hov' hbas' hst' hchg'
          have hqI : ¬ (q : Int) ≠ m := by omega
          have hqI' : (q : Int) = m := by omega
          clear hq
          go_wp2_with fail
          go_roundw
          case rel => exact ⟨k + 1, _, _, _, _, _, by omega, by go_num, rfl, Hst.out⟩
          case measure => simp [intOf]; omega
        · have hend : got ++ (ls.drop p).take q = takesV ns ls := by
            have := Hsum.out
            rw [List.drop_of_length_le (i := p + m) (by omega), takesV_nil, List.append_nil] at this
            rw [← this, List.take_of_length_le (i := q) (by rw [List.length_drop]; omega), List.take_of_length_le (i := m) (by rw [List.length_drop]; omega)]
          have Hend := Lib.hid hend
          have Hown' := Lib.hid hO'
          have Hbas' := Lib.hid hbas'
          have Hchg' := Lib.hid hchg'
          clear hO' hC' hSt' Hown Hch Hrd3 Hs3 hov' hbas' hst' hchg' hend
          have hqI : (q : Int) ≠ m := by omega
          clear hq
          go_wp2_with fail
          go_ret2
          exact ⟨_, _, V', rfl, Hown'.out, Hend.out ▸ Hbas'.out, Hchg'.out⟩
    · have hke : k = ns.length := by omega
      subst hke
      have hsum := hG.sum
      rw [List.drop_length] at hsum
      simp only [takesV, List.append_nil] at hsum
      have HG := Lib.hid hG
      have Hsum := Lib.hid hsum
      clear hG hsum
      go_wp2_with fail
      go_ret2
      refine ⟨_, _, V, rfl, HG.out.own, ?_, HG.out.chg⟩
      rw [← Hsum.out]
      exact HG.out.bas
end Go.Proofs.YtaageikelkcphaaGreatDoor
/- The decoder of prefixes as impl.decoded takes it; a new one. -/
namespace Go.Proofs.YtaageikelkcphaaGreatDoor
open Go Go.RowKit
set_option maxRecDepth 100000 in
set_option maxHeartbeats 1000000 in
theorem prefDiscard0 (w : World) (d d2 n : Nat) (pre last : Value) (data lens : Value) (h : Row w d (pl d2 pre last)) (h2 : Row w d2 (ll 0 data lens)) (hn : 1 ≤ n) :
    Calls Tryz.prog 19 #[.pointer (some ⟨d, 0, none⟩), .int .i64 n] w fun e w' => e = .returned (.tuple #[.int .i64 0, .nilIface]) ∧ w' = w := by
  have q0 := h.at 0 rfl
  have q3 := h2.at 0 rfl
  have hn0 : 0 < n := hn
  have hnI : (0 : Int) < n := by omega
  clear h h2
  go_enter Tryz.func19, Tryz.ntmps19
  go_wp2_with fail
  go_ret2
  exact ⟨rfl, rfl⟩
set_option maxRecDepth 100000 in
set_option maxHeartbeats 1000000 in
theorem prefDecode0 (w : World) (d d2 ob len : Nat) (pre last : Value) (data lens : Value) (h : Row w d (pl d2 pre last)) (h2 : Row w d2 (ll 0 data lens)) :
    Calls Tryz.prog 18 #[.pointer (some ⟨d, 0, none⟩), .slice (some ⟨ob, 0, none⟩) len len] w fun e w' => e = .returned (.tuple #[.int .i64 0, .nilIface]) ∧ w' = w := by
  have q0 := h.at 0 rfl
  have q3 := h2.at 0 rfl
  have hmi : min (len : Int) 0 = 0 := by omega
  have Hmi := Lib.hid hmi
  clear h h2 hmi
  go_enter Tryz.func18, Tryz.ntmps18
  go_wp2_with fail
  refine (min_ok _ _ _).mono ?_
  rintro e1 w0 ⟨rfl, rfl⟩
  rw [Hmi.out]
  go_wp2_with fail
  go_ret2
  exact ⟨rfl, rfl⟩
/-- Behind p texts. -/
def StT (d d2 b lb pb : Nat) (ns : List Nat) (rs ls : List (List Nat)) (V : Nat → Prop) (p : Nat) (w : World) : Prop :=
  p ≤ ls.length ∧ V b ∧ lb < w.heap.size ∧ pb < w.heap.size ∧ (∀ a, V a → a < w.heap.size ∧ a ≠ d ∧ a ≠ d2 ∧ a ≠ lb ∧ a ≠ pb) ∧
    ∃ last lastV k pc po R C lo lc, PS (fun g _ => V g) w d d2 b lb pb last lastV (ns.drop p) (rs.drop p) (ls.drop p) k pc po R C lo lc
def OwnPT (d d2 lb pb : Nat) : Nat → Prop := fun a => a = d ∨ a = d2 ∨ a = lb ∨ a = pb
theorem decT (d d2 b lb pb : Nat) (ns : List Nat) (rs ls : List (List Nat)) (hA : asz rs ls ≤ 1000000) : DecT (OwnPT d d2 lb pb) (StT d d2 b lb pb ns rs ls) ls 18 19 d := by
  refine ⟨fun V p w h => ?_, fun V p w w' S h hc hS => ?_, fun V p w n m h hm hn hn5 => ?_, fun V p w n m ob h hm hn hn5 hO hV hob hcel hfr => ?_⟩
  · obtain ⟨h1, h2, h3, h4, h5, last, lastV, k, pc, po, R, C, lo, lc, h6⟩ := h
    refine ⟨fun a ha => ?_, fun a ha => ?_⟩
    · rcases ha with e | e | e | e
      · rw [e]; exact h6.dlt
      · rw [e]; exact h6.st.dlt
      · omega
      · omega
    · obtain ⟨v1, v2, v3, v4, v5⟩ := h5 a ha
      exact ⟨v1, by rintro (e | e | e | e) <;> omega⟩
  · obtain ⟨h1, h2, h3, h4, h5, last, lastV, k, pc, po, R, C, lo, lc, h6⟩ := h
    refine ⟨h1, h2, hc.lt h3, hc.lt h4, fun a ha => ⟨hc.lt (h5 a ha).1, (h5 a ha).2⟩, last, lastV, k, pc, po, R, C, lo, lc, h6.keep hc (fun a x hs => ?_)⟩
    obtain ⟨s1, s2⟩ := hS a x hs
    exact ⟨fun e => s1 (.inl e), fun e => s1 (.inr (.inl e)), fun e => s2 (e ▸ h2), fun e => s1 (.inr (.inr (.inl e))), fun e => s1 (.inr (.inr (.inr e))), s2⟩
  · obtain ⟨h1, h2, h3, h4, h5, last, lastV, k, pc, po, R, C, lo, lc, h6⟩ := h
    by_cases hm0 : m = 0
    · subst hm0
      have hp : ls.drop p = [] := List.drop_of_length_le (by omega)
      have hr : rs.drop p = [] := List.eq_nil_of_length_eq_zero (by rw [h6.prefs.len.2, hp]; rfl)
      have hst := h6.st.row
      rw [hr] at hst
      refine (prefDiscard0 w d d2 n _ _ _ _ h6.row hst hn).mono ?_
      rintro e w' ⟨rfl, rfl⟩
      exact ⟨rfl, Chg.refl _ _, V, Grow.refl _ _, fun a ha => ha, h1, h2, h3, h4, h5, last, lastV, k, pc, po, R, C, lo, lc, h6⟩
    · refine (prefDiscard_ok V w d d2 b lb pb last lastV _ _ _ k pc po R C lo lc n m h6 (fun a ha => ⟨(h5 a ha).1, (h5 a ha).2.1, (h5 a ha).2.2.1⟩) h2 (h5 b h2).1 (by rw [List.length_drop]; exact hm) (by omega) hn5).mono ?_
      rintro e w' ⟨rfl, hc, V', last', lastV', k', pc', po', R', C', lo', lc', hG, hVV, hVl, hps⟩
      refine ⟨rfl, hc.mono (fun a x _ e => e.elim .inl (fun e => .inr (.inl e))), V', hG, hVV, by omega, hVV b h2, hc.lt h3, hc.lt h4, fun a ha => ?_, last', lastV', k', pc', po', R', C', lo', lc', by rw [List.drop_drop, List.drop_drop, List.drop_drop] at hps; exact hps⟩
      obtain ⟨v1, v2, v3⟩ := hVl a ha
      refine ⟨v1, v2, v3, ?_⟩
      rcases hG a ha with h | h
      · exact (h5 a h).2.2.2
      · exact ⟨by omega, by omega⟩
  · obtain ⟨h1, h2, h3, h4, h5, last, lastV, k, pc, po, R, C, lo, lc, h6⟩ := h
    by_cases hm0 : m = 0
    · subst hm0
      have hp : ls.drop p = [] := List.drop_of_length_le (by omega)
      have hr : rs.drop p = [] := List.eq_nil_of_length_eq_zero (by rw [h6.prefs.len.2, hp]; rfl)
      have hst := h6.st.row
      rw [hr] at hst
      refine (prefDecode0 w d d2 ob n _ _ _ _ h6.row hst).mono ?_
      rintro e w' ⟨rfl, rfl⟩
      exact ⟨rfl, Chg.refl _ _, V, Grow.refl _ _, fun a ha => ha, hV, ⟨h1, h2, h3, h4, h5, last, lastV, k, pc, po, R, C, lo, lc, h6⟩, fun j hj => by omega⟩
    · have hA' : asz (rs.drop p) (ls.drop p) ≤ 1000000 := Nat.le_trans (asz_drop p rs ls) hA
      refine (prefDecode_ok V w d d2 b lb pb last lastV _ _ _ k pc po R C lo lc ob n m h6 (fun a ha => ⟨(h5 a ha).1, (h5 a ha).2.1, (h5 a ha).2.2.1, fun e => hV (e ▸ ha)⟩) h2 (by rw [List.length_drop]; exact hm) (by omega) hn5 hA' (fun e => hO (.inl e)) (fun e => hO (.inr (.inl e))) (fun e => hV (e ▸ h2)) (fun e => hO (.inr (.inr (.inl e)))) (fun e => hO (.inr (.inr (.inr e.symm)))) hob hcel hfr).mono ?_
      rintro e w' ⟨rfl, hc, V', last', lastV', k', pc', po', R', C', lo', lc', hG, hVV, hVl, hps, hout⟩
      refine ⟨rfl, hc.mono (fun a x _ e => by rcases e with e | e | ⟨e, e2⟩; exact .inl (.inl e); exact .inl (.inr (.inl e)); exact .inr ⟨e, by omega⟩), V', hG, hVV, fun e => (hVl ob e).2.2.2 rfl, ⟨by omega, hVV b h2, hc.lt h3, hc.lt h4, fun a ha => ?_, last', lastV', k', pc', po', R', C', lo', lc', by rw [List.drop_drop, List.drop_drop, List.drop_drop] at hps; exact hps⟩, fun j hj => ?_⟩
      · obtain ⟨v1, v2, v3, v4⟩ := hVl a ha
        refine ⟨v1, v2, v3, ?_⟩
        rcases hG a ha with h | h
        · exact (h5 a h).2.2.2
        · exact ⟨by omega, by omega⟩
      · obtain ⟨v, l, h1, h2, h3⟩ := hout j hj
        rw [List.getElem?_drop] at h1
        exact ⟨v, l, h1, h2, h3⟩
theorem Row.allocs' {w : World} {cs : Array Value} {L : List Value} {t : TypeId} {n : Nat} (hn : n = w.heap.size) (h : cs.toList = L) : Row (w.alloc (.cells cs t)) n L := by
  subst h
  subst hn
  exact Row.allocs (w := w) (t := t) (L := cs.toList) (by simp)
set_option maxRecDepth 100000 in
set_option maxHeartbeats 1000000 in
theorem newLengths_ok (w : World) : Calls Tryz.prog 22 #[.iface 42 (.agg #[])] w fun e w' => ∃ d2, e = .returned (.pointer (some ⟨d2, 0, none⟩)) ∧ w.heap.size ≤ d2 ∧ d2 < w'.heap.size ∧ Chg Nix w w' ∧ Row w' d2 (ll 0 (.slice none 0 0) (.slice none 0 0)) := by
  have Hcall := Lib.hid (dec_base_ok w)
  go_enter Tryz.func22, Tryz.ntmps22
  go_wp2_with fail
  refine Hcall.out.mono ?_
  rintro e w1 ⟨rfl, rfl⟩
  go_wp2_with fail
  go_ret
  exact ⟨_, rfl, by simp, by simp, ((Chg.refl _ _).alloc _).alloc _, Row.allocs' (by simp) rfl⟩
/-- A new decoder of prefixes. -/
theorem newPrefixes_ok (w : World) : Calls Tryz.prog 13 #[.iface 42 (.agg #[])] w fun e w' => ∃ d d2, e = .returned (.pointer (some ⟨d, 0, none⟩)) ∧ w.heap.size ≤ d ∧ d < w'.heap.size ∧ w.heap.size ≤ d2 ∧ d2 < w'.heap.size ∧ d ≠ d2 ∧ Chg Nix w w' ∧ Row w' d (pl d2 (.slice none 0 0) (.slice none 0 0)) ∧ Row w' d2 (ll 0 (.slice none 0 0) (.slice none 0 0)) := by
  have Hcall := Lib.hid (newLengths_ok w)
  go_enter Tryz.func13, Tryz.ntmps13
  go_wp2_with fail
  refine Hcall.out.mono ?_
  rintro e w1 ⟨d2, rfl, h1, h2, h3, h4⟩
  have H4 := Lib.hid h4
  have H3 := Lib.hid h3
  clear h3 h4
  go_wp2_with fail
  go_ret
  have hs := H3.out.size
  exact ⟨w1.heap.size, d2, rfl, by omega, by simp, h1, by simp; omega, by omega, H3.out.alloc _, Row.allocs' (by simp) rfl, H4.out.keep h2 (Chg.new _ _) (fun _ e => e)⟩
theorem noStrings_idle (p q : Addr) (w : World) :
    CallsD Tryz.prog 12 #[.pointer (some p), .pointer (some q)] .returning w fun e u' w' => e = .returned (.tuple #[]) ∧ u' = .returning ∧ w' = w := by
  refine callsD_of_wpS Tryz.func12 rfl fun c₀ cs hu => ?_
  apply wpS_seq
  apply wpS_region
  simp [wpOpsS, go_sem, recoverD, hu, Tryz.ntmps12, Exit.thenS]
  refine wpS_cond (t := false) (by simp [Act.eval, Array.replicate]) ?_
  simp only [Bool.false_eq_true, if_false]
  refine wpS_of_wp (wp_skip ?_)
  cases c₀
  simp_all [bodyPostS, results, Tryz.results12]
end Go.Proofs.YtaageikelkcphaaGreatDoor
