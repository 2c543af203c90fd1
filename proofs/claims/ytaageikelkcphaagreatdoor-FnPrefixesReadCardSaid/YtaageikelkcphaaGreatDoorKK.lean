/- Part 11 of the proof: the texts RH, L2A, joined. What each proves stands ahead of it. -/
import Derived.Test.YtaageikelkcphaaGreatDoorKB
import Derived.Test.YtaageikelkcphaaGreatDoorKJ
set_option linter.unusedVariables false
set_option linter.unusedSimpArgs false
/- A region whose order is open, walked in the text's order: loads of cells that an invariant of the worlds tells may pass calls and allocations that keep it. Over any program. -/
namespace Go.Proofs.YtaageikelkcphaaGreatDoor
open Go Go.RowKit
namespace HR
inductive Cls where
  | pure | held | effect | store
  deriving DecidableEq
/-- Which kind an operation is of, by its form: 'pure' reads no memory, 'held' loads what the invariant tells, 'effect' may do anything that keeps the invariant, 'store' anything. -/
def cls (o : Oper) : Cls :=
  match o.op with
  | .move _ | .assign _ | .pick .. | .extract .. | .nilCheck _ | .binOp .. | .unOp .. | .convert .. | .fieldAddr .. | .field .. | .indexAddr .. | .index .. | .slice .. | .makeInterface .. | .makeFunc .. | .sliceToArrayPointer .. | .build .. => .pure
  | .load .. => .held
  | .call { callee := .builtin .len, .. } | .call { callee := .builtin .cap, .. } | .call { callee := .builtin .min, .. } | .call { callee := .builtin .max, .. } => .pure
  | .store .. => .store
  | _ => .effect
section
variable {P : Program} {ops : Array Oper} {Inv : World → Prop}
/-- v is what o gives at a, wherever the invariant holds, and nothing turns. -/
def Good (P : Program) (Inv : World → Prop) (ops : Array Oper) (o : Oper) (v : Value) (a : Act) : Prop :=
  if Region.wanted o (yielded ops a.tmps) then
    ∀ w', (cls o = .held → Inv w') → (execOp a.eval o).run P w' = .ok (.value v) w'
  else v = undef
def tOp (P : Program) (Inv : World → Prop) (ops : Array Oper) (o : Oper) (K : Act → World → Prop) (a : Act) (w : World) : Prop :=
  if Region.wanted o (yielded ops a.tmps) = true ∧ cls o = .effect then Inv w ∧ o.wp P a w (fun a' w' => Inv w' ∧ K a' w') FQ
  else if Region.wanted o (yielded ops a.tmps) = true ∧ cls o = .store then o.wp P a w K FQ
  else (cls o = .held → Inv w) ∧ ∃ v, Good P Inv ops o v a ∧ K (a.put o.dst v) w
def tList (P : Program) (Inv : World → Prop) (ops : Array Oper) (K : Act → World → Prop) : List Nat → Act → World → Prop
  | [] => K
  | i :: l => match ops[i]? with
    | some o => tOp P Inv ops o (tList P Inv ops K l)
    | none => tList P Inv ops K l
theorem good_put {o : Oper} {v u : Value} {a : Act} {dst : Option Tmp} (hs : ∀ cs b, o.op ≠ .select cs b) (h : ∀ d, dst = some d → d ∉ o.looksAt ops) :
    Good P Inv ops o v (a.put dst u) ↔ Good P Inv ops o v a := by
  unfold Good
  rw [wanted_put o a dst u h, execOp_put o hs a dst u h]
theorem good_defers {o : Oper} {v : Value} {a : Act} (ds : List Deferred) : Good P Inv ops o v { a with defers := ds } ↔ Good P Inv ops o v a := Iff.rfl
theorem good_det {o : Oper} {v v' : Value} {a : Act} {w : World} (hi : cls o = .held → Inv w) (h : Good P Inv ops o v a) (h' : Good P Inv ops o v' a) : v = v' := by
  unfold Good at *
  split at h
  · rename_i hw
    rw [if_pos hw] at h'
    have e := (h w hi).symm.trans (h' w hi)
    injection e with e1 e2
    injection e1
  · rename_i hw
    rw [if_neg hw] at h'
    rw [h, h']
theorem tOp_mono {o : Oper} {K K' : Act → World → Prop} {a : Act} {w : World} (hk : ∀ a w, K a w → K' a w) (h : tOp P Inv ops o K a w) : tOp P Inv ops o K' a w := by
  unfold tOp at *
  split
  · rename_i hc; rw [if_pos hc] at h; exact ⟨h.1, Oper.wp_mono (fun a w h => ⟨h.1, hk _ _ h.2⟩) h.2⟩
  · rename_i hc
    rw [if_neg hc] at h
    split
    · rename_i hc2; rw [if_pos hc2] at h; exact Oper.wp_mono hk h
    · rename_i hc2; rw [if_neg hc2] at h; obtain ⟨hi, v, h1, h2⟩ := h; exact ⟨hi, v, h1, hk _ _ h2⟩
theorem good_of_out {o o' : Oper} {v : Value} {a a' : Act} (hs : ∀ cs b, o.op ≠ .select cs b) (h : ∀ d, o'.dst = some d → d ∉ o.looksAt ops) (ho : Out a a' o') : Good P Inv ops o v a' ↔ Good P Inv ops o v a := by
  obtain ⟨ds, u, rfl⟩ := ho
  rw [good_put hs h]
  exact good_defers ds
def mayPass (ops : Array Oper) (x y : Oper) : Bool :=
  x.apart ops y && (match cls x, cls y with
    | .pure, _ => true
    | _, .pure => true
    | .held, .held => true
    | .held, .effect => true
    | .effect, .held => true
    | _, _ => false)
/-- Two operations that may pass: the later one may come first. -/
theorem tOp_swap {x y : Oper} (hsx : ∀ cs b, x.op ≠ .select cs b) (hsy : ∀ cs b, y.op ≠ .select cs b) (hp : mayPass ops x y = true) {K : Act → World → Prop} {a : Act} {w : World}
    (h : tOp P Inv ops x (tOp P Inv ops y K) a w) : tOp P Inv ops y (tOp P Inv ops x K) a w := by
  simp only [mayPass, Bool.and_eq_true] at hp
  obtain ⟨hap, hcl⟩ := hp
  obtain ⟨h1, h2, h3⟩ := Oper.apart_spec hap
  have h2' : ∀ d, y.dst = some d → x.dst ≠ some d := fun d hd hx => h2 d hx hd
  -- y quiet
  have quiet : ∀ (b : Act) (u : World), (cls y = .pure ∨ cls y = .held) → tOp P Inv ops y K b u → (cls y = .held → Inv u) ∧ ∃ v, Good P Inv ops y v b ∧ K (b.put y.dst v) u := by
    intro b u hy hh
    unfold tOp at hh
    rw [if_neg (by rcases hy with hy | hy <;> rw [hy] <;> simp), if_neg (by rcases hy with hy | hy <;> rw [hy] <;> simp)] at hh
    exact hh
  unfold tOp at h
  split at h
  · rename_i hx
    have hy : cls y = .pure ∨ cls y = .held := by
      rw [hx.2] at hcl
      revert hcl
      cases cls y <;> simp
    obtain ⟨hI, h⟩ := h
    have h' := wp_out h
    obtain ⟨a1, w1, hout1, hI1, hk1⟩ := wp_some h'
    obtain ⟨-, u, hu, -⟩ := quiet _ _ hy hk1
    have hu0 : Good P Inv ops y u a := (good_of_out hsy h1 hout1).1 hu
    unfold tOp
    rw [if_neg (by rcases hy with hy | hy <;> rw [hy] <;> simp), if_neg (by rcases hy with hy | hy <;> rw [hy] <;> simp)]
    refine ⟨fun _ => hI, u, hu0, ?_⟩
    rw [wanted_put x a y.dst u h3, if_pos hx]
    refine ⟨hI, ?_⟩
    rw [wp_put hsx u h3 h2']
    refine Oper.wp_mono (fun a' w' hh => ⟨hh.1, ?_⟩) h'
    obtain ⟨ho, hI', hh⟩ := hh
    obtain ⟨hi', u', hu', hK⟩ := quiet _ _ hy hh
    have e : u' = u := good_det (w := w') (fun _ => hI') ((good_of_out hsy h1 ho).1 hu') hu0
    subst e
    exact ⟨hI', hK⟩
  · rename_i hx
    split at h
    · rename_i hx2
      have hy : cls y = .pure := by
        rw [hx2.2] at hcl
        revert hcl
        cases cls y <;> simp
      have h' := wp_out h
      obtain ⟨a1, w1, hout1, hk1⟩ := wp_some h'
      obtain ⟨-, u, hu, -⟩ := quiet _ _ (.inl hy) hk1
      have hu0 : Good P Inv ops y u a := (good_of_out hsy h1 hout1).1 hu
      unfold tOp
      rw [if_neg (by rw [hy]; simp), if_neg (by rw [hy]; simp)]
      refine ⟨fun e => (by rw [hy] at e; cases e), u, hu0, ?_⟩
      rw [wanted_put x a y.dst u h3, if_neg hx, if_pos hx2, wp_put hsx u h3 h2']
      refine Oper.wp_mono (fun a' w' hh => ⟨hh.1, ?_⟩) h'
      obtain ⟨ho, hh⟩ := hh
      obtain ⟨hi', u', hu', hK⟩ := quiet _ _ (.inl hy) hh
      have e : u' = u := good_det (w := w') (fun e => (by rw [hy] at e; cases e)) ((good_of_out hsy h1 ho).1 hu') hu0
      subst e
      exact hK
    · rename_i hx2
      obtain ⟨hxi, v, hv, h⟩ := h
      rw [wanted_put y a x.dst v h1] at h
      unfold tOp
      have hwx : ∀ a', Out a a' y → Region.wanted x (yielded ops a'.tmps) = Region.wanted x (yielded ops a.tmps) := by
        rintro a' ⟨ds, u, rfl⟩
        exact wanted_put x { a with defers := ds } y.dst u h3
      split
      · rename_i hy
        rw [if_pos hy] at h
        obtain ⟨hI, h⟩ := h
        rw [wp_put hsy v h1 h2] at h
        refine ⟨hI, Oper.wp_mono (fun a' w' hh => ?_) h⟩
        obtain ⟨ho, hI', hK⟩ := hh
        refine ⟨hI', ?_⟩
        rw [hwx a' ho, if_neg hx, if_neg hx2]
        exact ⟨fun _ => hI', v, (good_of_out hsx h3 ho).2 hv, hK⟩
      · rename_i hy
        rw [if_neg hy] at h
        split
        · rename_i hy2
          rw [if_pos hy2] at h
          rw [wp_put hsy v h1 h2] at h
          have hpx : cls x = .pure := by
            rw [hy2.2] at hcl
            revert hcl
            cases hcx : cls x <;> simp
          refine Oper.wp_mono (fun a' w' hh => ?_) h
          obtain ⟨ho, hK⟩ := hh
          rw [hwx a' ho, if_neg hx, if_neg hx2]
          exact ⟨fun e => (by rw [hpx] at e; cases e), v, (good_of_out hsx h3 ho).2 hv, hK⟩
        · rename_i hy2
          rw [if_neg hy2] at h
          obtain ⟨hyi, u, hu, hK⟩ := h
          refine ⟨hyi, u, (good_put hsy h1).1 hu, ?_⟩
          rw [wanted_put x a y.dst u h3, if_neg hx, if_neg hx2]
          exact ⟨hxi, v, (good_put hsx h3).2 hv, by rw [← Act.put_comm a v u h2]; exact hK⟩
theorem tOp_run {o : Oper} {K : Act → World → Prop} {Q : Exit → Act → World → Prop} {a : Act} {w : World} (h : tOp P Inv ops o K a w) :
    if Region.wanted o (yielded ops a.tmps) then o.wp P a w K Q else K (a.put o.dst undef) w := by
  unfold tOp at h
  split
  · rename_i hw
    split at h
    · exact wp_FQ (Oper.wp_mono (fun a w h => h.2) h.2)
    · split at h
      · exact wp_FQ h
      · obtain ⟨hi, v, hv, hK⟩ := h
        unfold Good at hv
        rw [if_pos hw] at hv
        unfold Oper.wp
        rw [hv w hi]; exact hK
  · rename_i hw
    rw [if_neg (fun hc => hw hc.1), if_neg (fun hc => hw hc.1)] at h
    obtain ⟨hi, v, hv, hK⟩ := h
    unfold Good at hv
    rw [if_neg hw] at hv
    subst hv
    exact hK
theorem tOp_wpOp {i : Nat} {o : Oper} (hi : ops[i]? = some o) {K : Act → World → Prop} {Q : Exit → Act → World → Prop} {a : Act} {w : World} (h : tOp P Inv ops o K a w) : wpOp P ops Q i K a w := by
  have h' := tOp_run (Q := Q) h
  unfold wpOp
  simp only [hi]
  split
  · rename_i hw
    rw [if_pos hw] at h'
    exact .inl h'
  · rename_i hw
    rw [if_neg hw] at h'
    exact h'
def textB (ops : Array Oper) : Bool :=
  Region.noSelect ops && (List.range ops.size).all fun i => match ops[i]? with
    | none => true
    | some y => (y.after.all fun e => !Region.binds .any e || decide (e.on < i)) &&
      (let S := pass ops i (dmask y)
       (List.range i).all fun j => S.testBit j || match ops[j]? with | some x => mayPass ops x y | none => true)
theorem tList_front (hsel : Region.noSelect ops = true) {i : Nat} {y : Oper} (hi : ops[i]? = some y) {K : Act → World → Prop} : ∀ (l1 l2 : List Nat), (∀ j ∈ l1, ∀ x, ops[j]? = some x → mayPass ops x y = true) →
    ∀ a w, tList P Inv ops K (l1 ++ i :: l2) a w → tOp P Inv ops y (tList P Inv ops K (l1 ++ l2)) a w
  | [], l2, _, a, w, h => by simpa [tList, hi] using h
  | j :: l1, l2, hm, a, w, h => by
    simp only [List.cons_append, tList] at h ⊢
    have ih := tList_front hsel hi l1 l2 (K := K) (fun k hk => hm k (by simp [hk]))
    cases hj : ops[j]? with
    | none => simp only [hj] at h ⊢; exact ih a w h
    | some x =>
      simp only [hj] at h ⊢
      exact tOp_swap (fun cs b => Region.noSelect_spec hsel j x cs b hj) (fun cs b => Region.noSelect_spec hsel i y cs b hi) (hm j (by simp) x hj) (tOp_mono (fun a w h => ih a w h) h)
theorem tList_any (hB : textB ops = true) {K : Act → World → Prop} {Q : Exit → Act → World → Prop} (hK : ∀ a w, K a w → Q .normal a w) :
    ∀ (fuel : Nat) (listed : Array Bool) (a : Act) (w : World), listed.size = ops.size → ClosedL ops listed → (rem ops.size listed).length = fuel → tList P Inv ops K (rem ops.size listed) a w → wpAny P .any ops Q fuel listed a w := by
  simp only [textB, Bool.and_eq_true] at hB
  obtain ⟨hsel, hall⟩ := hB
  have hpair : ∀ i y, ops[i]? = some y → (∀ e ∈ y.after, Region.binds .any e = true → e.on < i) ∧ ∀ j, j < i → (pass ops i (dmask y)).testBit j = true ∨ ∀ x, ops[j]? = some x → mayPass ops x y = true := by
    intro i y hi
    have hlt : i < ops.size := (Array.getElem?_eq_some_iff.1 hi).1
    have h := List.all_eq_true.1 hall i (List.mem_range.2 hlt)
    simp only [hi, Bool.and_eq_true] at h
    refine ⟨fun e he hb => ?_, fun j hj => ?_⟩
    · have := Array.all_eq_true_iff_forall_mem.1 h.1 e he
      simpa [hb] using this
    · have := List.all_eq_true.1 h.2 j (List.mem_range.2 hj)
      rw [Bool.or_eq_true] at this
      refine this.imp id fun h' x hx => by simpa [hx] using h'
  intro fuel
  induction fuel with
  | zero =>
    intro listed a w hsz hcl hlen h
    have hnil : rem ops.size listed = [] := List.eq_nil_of_length_eq_zero hlen
    refine ⟨?_, ?_⟩
    · refine List.eq_nil_iff_forall_not_mem.2 fun i hi => ?_
      obtain ⟨hu, o, ho, _⟩ := mem_ready.1 hi
      have : i ∈ rem ops.size listed := mem_rem.2 ⟨(Array.getElem?_eq_some_iff.1 ho).1, hu⟩
      rw [hnil] at this
      cases this
    · rw [hnil] at h; exact hK _ _ h
  | succ fuel ih =>
    intro listed a w hsz hcl hlen h
    refine ⟨fun hr => ?_, fun i hi => ?_⟩
    · exfalso
      cases hrem : rem ops.size listed with
      | nil => rw [hrem] at hlen; cases hlen
      | cons m l =>
        have hm : m ∈ rem ops.size listed := by rw [hrem]; simp
        obtain ⟨hmn, hmu⟩ := mem_rem.1 hm
        have : m ∈ Region.ready .any ops listed := by
          refine mem_ready.2 ⟨hmu, ops[m], Array.getElem?_eq_getElem hmn, fun e he hb => ?_⟩
          have hlt := (hpair m ops[m] (Array.getElem?_eq_getElem hmn)).1 e he hb
          cases hl : listed.getD e.on true with
          | false =>
            have hmem : e.on ∈ rem ops.size listed := mem_rem.2 ⟨by omega, hl⟩
            rw [hrem] at hmem
            have hs := rem_sorted ops.size listed
            rw [hrem, List.pairwise_cons] at hs
            rcases List.mem_cons.1 hmem with h' | h'
            · omega
            · have := hs.1 _ h'; omega
          | true =>
            have hin : e.on < listed.size := by rw [hsz]; omega
            simp [hin] at hl ⊢
            exact hl
        rw [hr] at this
        cases this
    · obtain ⟨hu, o, ho, hdeps⟩ := mem_ready.1 hi
      have hin : i < ops.size := (Array.getElem?_eq_some_iff.1 ho).1
      have hmem : i ∈ rem ops.size listed := mem_rem.2 ⟨hin, hu⟩
      obtain ⟨l1, l2, hrem, hl1, hf⟩ := split_sorted (rem_sorted ops.size listed) hmem
      have hrs := rem_set (i := i) hsz
      rw [hf] at hrs
      rw [hrem] at h
      have hfront := tList_front hsel ho l1 l2 (fun j hj x hx => by
        have hjm : j ∈ rem ops.size listed := by rw [hrem]; simp [hj]
        obtain ⟨_, hju⟩ := mem_rem.1 hjm
        rcases (hpair i o ho).2 j (hl1 j hj) with hb | hb
        · have := pass_spec hcl i (dmask o) (fun k hk => by
            obtain ⟨e, he, hbd, rfl⟩ := dmask_spec hk
            exact hdeps e he hbd) j hb
          rw [getD_both hju] at this
          cases this
        · exact hb x hx) a w h
      refine tOp_wpOp ho (tOp_mono (fun a' w' h' => ?_) hfront)
      refine ih (listed.setIfInBounds i true) a' w' (by simpa using hsz) ?_ ?_ (by rw [hrs]; exact h')
      · intro k o' ho' hk e he hb
        by_cases hki : i = k
        · subst hki
          have : o' = o := Option.some.inj (ho'.symm.trans ho)
          subst this
          exact getD_set_true (hdeps e he hb)
        · rw [getD_set_ne false hki] at hk
          exact getD_set_true (hcl k o' ho' hk e he hb)
      · have e1 : (rem ops.size listed).length = (l1 ++ i :: l2).length := by rw [hrem]
        rw [hrs]
        simp only [List.length_append, List.length_cons] at e1 ⊢
        omega

/-- The operations one by one, in the text's order. -/
def wpTxt (P : Program) (Inv : World → Prop) (ops : Array Oper) (K : Act → World → Prop) : List Oper → Act → World → Prop
  | [], a, w => K a w
  | o :: l, a, w => tOp P Inv ops o (wpTxt P Inv ops K l) a w
theorem wpTxt_tList {K : Act → World → Prop} : ∀ (l : List Oper) (k : Nat), (∀ j, l[j]? = ops[k + j]?) → ∀ a w, wpTxt P Inv ops K l a w → tList P Inv ops K (List.range' k l.length) a w
  | [], k, _, a, w, h => h
  | o :: l, k, hl, a, w, h => by
    have h0 : ops[k]? = some o := by simpa using (hl 0).symm
    have ih := wpTxt_tList (K := K) l (k + 1) (fun j => by have := hl (j + 1); simpa [Nat.add_assoc, Nat.add_comm 1 j] using this)
    simp only [List.length_cons, List.range'_succ, tList, h0]
    exact tOp_mono (fun a w h => ih a w h) h
theorem region (Inv : World → Prop) {id : Nat} {Q : Exit → Act → World → Prop} {a : Act} {w : World} {l : List Oper} (hm : P.follows .mixedOrders = true) (hB : textB l.toArray = true)
    (h : wpTxt P Inv l.toArray (Q .normal) l a w.drew) : (Code.region id l.toArray true).wp P Q a w := by
  refine wp_region_any hm ?_
  have hr : rem l.toArray.size (Array.replicate l.toArray.size false) = List.range' 0 l.length := by
    unfold rem
    rw [List.filter_eq_self.2, List.range_eq_range']
    · simp
    · intro k hk
      have := List.mem_range.1 hk
      simp at this
      simp [this]
  refine tList_any hB (fun _ _ h => h) l.toArray.size _ a _ (by simp) ?_ (by rw [hr]; simp) (by rw [hr]; exact wpTxt_tList l 0 (by simp) a _ h)
  intro i o _ hk
  rw [getD_replicate_false] at hk
  cases hk
theorem nil {K : Act → World → Prop} {a : Act} {w : World} (h : K a w) : wpTxt P Inv ops K [] a w := h
/-- An operation without a guard that reads no memory. -/
theorem pure {K : Act → World → Prop} {o : Oper} {l : List Oper} {a : Act} {w : World} (hg : o.guard = none) (hc : cls o = .pure)
    (h : ∀ K' : Act → Prop, (∀ a, wpTxt P Inv ops K l a w → K' a) → ∃ v, (∀ w', (execOp a.eval o).run P w' = .ok (.value v) w') ∧ K' (a.put o.dst v)) : wpTxt P Inv ops K (o :: l) a w := by
  obtain ⟨v, h1, h2⟩ := h _ fun _ h => h
  show tOp P Inv ops o _ a w
  unfold tOp
  rw [if_neg (by rw [hc]; simp), if_neg (by rw [hc]; simp)]
  refine ⟨fun e => (by rw [hc] at e; cases e), v, ?_, h2⟩
  unfold Good
  rw [if_pos (by simp [Region.wanted, hg])]
  exact fun w' _ => h1 w'
/-- A load of a cell that the invariant tells. -/
theorem load {K : Act → World → Prop} {o : Oper} {l : List Oper} {a : Act} {w : World} (hg : o.guard = none) (hc : cls o = .held) (hI : Inv w)
    (h : ∀ K' : Act → Prop, (∀ a, wpTxt P Inv ops K l a w → K' a) → ∃ v, (∀ w', Inv w' → (execOp a.eval o).run P w' = .ok (.value v) w') ∧ K' (a.put o.dst v)) : wpTxt P Inv ops K (o :: l) a w := by
  obtain ⟨v, h1, h2⟩ := h _ fun _ h => h
  show tOp P Inv ops o _ a w
  unfold tOp
  rw [if_neg (by rw [hc]; simp), if_neg (by rw [hc]; simp)]
  refine ⟨fun _ => hI, v, ?_, h2⟩
  unfold Good
  rw [if_pos (by simp [Region.wanted, hg])]
  exact fun w' hi => h1 w' (hi hc)
/-- One that may do anything that keeps the invariant. -/
theorem effect {K : Act → World → Prop} {o : Oper} {l : List Oper} {a : Act} {w : World} (hg : o.guard = none) (hc : cls o = .effect) (hI : Inv w)
    (h : ∀ K' : Act → World → Prop, (∀ a w, Inv w → wpTxt P Inv ops K l a w → K' a w) → o.wp P a w K' FQ) : wpTxt P Inv ops K (o :: l) a w := by
  show tOp P Inv ops o _ a w
  unfold tOp
  rw [if_pos ⟨by simp [Region.wanted, hg], hc⟩]
  exact ⟨hI, h _ fun _ _ hI h => ⟨hI, h⟩⟩
/-- A store. -/
theorem store {K : Act → World → Prop} {o : Oper} {l : List Oper} {a : Act} {w : World} (hg : o.guard = none) (hc : cls o = .store)
    (h : ∀ K' : Act → World → Prop, (∀ a w, wpTxt P Inv ops K l a w → K' a w) → o.wp P a w K' FQ) : wpTxt P Inv ops K (o :: l) a w := by
  show tOp P Inv ops o _ a w
  unfold tOp
  rw [if_neg (by rw [hc]; simp), if_pos ⟨by simp [Region.wanted, hg], hc⟩]
  exact h _ fun _ _ h => h
/-- Cells that hold what is listed. -/
def InvL (L : List (Addr × Value)) (w : World) : Prop := ∀ p ∈ L, w.cell? p.1 = some p.2
theorem InvL.nil (w : World) : InvL [] w := fun p hp => by cases hp
theorem InvL.cons {L : List (Addr × Value)} {w : World} {ad : Addr} {v : Value} (h : w.cell? ad = some v) (hL : InvL L w) : InvL ((ad, v) :: L) w := fun p hp => by
  rcases List.mem_cons.1 hp with rfl | hp
  · exact h
  · exact hL p hp
theorem InvL.get {L : List (Addr × Value)} {w : World} (h : InvL L w) (i : Nat) {ad : Addr} {v : Value} (hi : L[i]? = some (ad, v)) : w.cell? ad = some v := h (ad, v) (List.mem_of_getElem? hi)
/-- A load of a cell that is listed. -/
theorem loadI {L : List (Addr × Value)} {K : Act → World → Prop} {o : Oper} {l : List Oper} {a : Act} {w : World} (HI : InvL L w) (i : Nat) {ad : Addr} {v : Value} (hi : L[i]? = some (ad, v)) (hg : o.guard = none) (hc : cls o = .held)
    (hrun : ∀ w', w'.cell? ad = some v → (execOp a.eval o).run P w' = .ok (.value v) w') (h : wpTxt P (InvL L) ops K l (a.put o.dst v) w) : wpTxt P (InvL L) ops K (o :: l) a w :=
  load hg hc HI fun _ hK => ⟨v, fun w' h' => hrun w' (h'.get i hi), hK _ h⟩
theorem back {I : World → Prop} {T K : Act → World → Prop} {a : Act} {w : World} (hK : ∀ a w, I w → T a w → K a w) (hi : I w) (h : I w → T a w) : K a w := hK _ _ hi (h hi)
end
end HR
end Go.Proofs.YtaageikelkcphaaGreatDoor
/- The decoder of deltas: the next mini block, walked (width 0). -/
namespace Go.Proofs.YtaageikelkcphaaGreatDoor
open Go Go.RowKit
set_option maxRecDepth 100000 in
set_option maxHeartbeats 4000000 in
theorem unpackMini0_ok (O : Nat → Prop) (c : RC) (w : World) (d mb b o f q i W n S M : Nat) (nv : Int) (data : Value) (cbv cmb md w8 tot last : Int) (mbv dbuf : Value)
    (h : DX c w d mb o f (dl nv data true (.pointer (some ⟨c.B, 0, none⟩)) S cbv M n cmb md i (.pointer (some ⟨mb, 0, none⟩)) w8 tot last mbv dbuf) M 64 (.slice (some ⟨b, 0, none⟩) 64 64))
    (hs : Scr O c w d mb (.slice (some ⟨b, 0, none⟩) 64 64) mbv dbuf n)
    (hof : 8 * o + f = 8 * q) (hi : i < M) (hM : M < 64) (hw : w.cell? ⟨b, i, none⟩ = some (.int .u8 W)) (hW : W ≤ 32) (hn : n % 32 = 0) (hn1 : 0 < n) (hn2 : n ≤ 1024) (hq : q + n * W / 8 ≤ c.L) (hL : 0 < c.L) (hmd : RowKit.wrap64 md = md) (hW0 : W = 0) :
    Calls Tryz.prog 48 #[.pointer (some ⟨d, 0, none⟩)] w fun e w' => e = .returned .nilIface ∧
      UE O c w w' d mb b q W n M md last (fun mbv dbuf => dl nv data true (.pointer (some ⟨c.B, 0, none⟩)) S cbv M n n md (i + 1) (.pointer (some ⟨mb, 0, none⟩)) W tot (miniX c.D q W md last n) mbv dbuf) := by
  replace hW0 := Lib.hid hW0
  have p17 := h.row.at 17 rfl
  have p17f := h.row.fr 17
  have p9 := h.row.at 9 rfl
  have hdl := h.dlt
  have H := Lib.hid h; clear h
  have Hs := Lib.hid hs; clear hs
  have hmk := make_i32 n (by omega)
  have hnl := i32s_nil
  have hnn := i32s_not_nil
  obtain ⟨z, hz, hg⟩ : ∃ z : Bool, (∀ W, (binOp .eql 61 mbv (.slice none 0 0)).run Tryz.prog W = .ok (.bool z) W) ∧ ∀ W x y, (eqGuard .eql 61 x y mbv (.slice none 0 0)).run Tryz.prog W = .ok () W := by
    rcases Hs.out.mv with rfl | ⟨vb, len, hov, hv⟩
    · exact ⟨true, i32s_nil, fun W x y => by kernel_rfl⟩
    · have := hv.v
      subst this
      exact ⟨false, fun W => i32s_not_nil _ _ _ W, fun W x y => by kernel_rfl⟩
  have Hw := Lib.hid hw; clear hw
  go_enter Tryz.func48, Tryz.ntmps48
  go_upto_if 19 with fail
  go_cut [2] (fun v wx => v = .nilIface ∧ ∃ vb, (O vb ∨ w.heap.size ≤ vb) ∧ (∀ x l k, dbuf = .slice (some ⟨x, 0, none⟩) l k → vb ≠ x) ∧ Chg (Own d) w wx ∧ OwnV c wx d mb (.slice (some ⟨b, 0, none⟩) 64 64) (.slice (some ⟨vb, 0, none⟩) 0 n) 0 n vb ∧ DX c wx d mb o f (dl nv data true (.pointer (some ⟨c.B, 0, none⟩)) S cbv M n cmb md i (.pointer (some ⟨mb, 0, none⟩)) w8 tot last (.slice (some ⟨vb, 0, none⟩) 0 n) dbuf) M 64 (.slice (some ⟨b, 0, none⟩) 64 64))
  case first =>
    rcases Hs.out.mv with rfl | ⟨vb, len, hov, hv⟩
    · obtain rfl : z = true := by
        have h1 := (hz w).symm.trans (i32s_nil w)
        injection h1 with h1; injection h1
      clear hz hg
      go_wp2_with fail
      go_meet
      have hx := H.out
      refine ⟨rfl, w.heap.size, .inr (Nat.le_refl _), (fun x l k e => ?_), ((Chg.refl (Own d) w).own 17 _).alloc _, ?_, (hx.put 17 _).new (Chg.new _ _)⟩
      · rcases Hs.out.dv with e2 | ⟨gb, -, hgb⟩
        · rw [e] at e2; cases e2
        · have e3 := hgb.v
          rw [e] at e3
          injection e3 with e3; injection e3 with e3; injection e3 with e3
          have := hgb.lt
          omega
      · exact OwnV.made (.int .i32 0) 21 (hx.put 17 (.slice (some ⟨w.heap.size, 0, none⟩) 0 n)) hL rfl 0 (Nat.zero_le n) (by simp)
    · have hvv := hv.v
      subst hvv
      obtain rfl : z = false := by
        have h1 := (hz w).symm.trans (i32s_not_nil _ _ _ w)
        injection h1 with h1; injection h1
      clear hz hg
      go_wp2_with fail
      go_meet
      have hx := H.out
      have hc : Chg (Own d) w (w.setCell ⟨d, 17, none⟩ (.slice (some ⟨vb, 0, none⟩) 0 n)) := (Chg.refl (Own d) w).own 17 _
      exact ⟨rfl, vb, .inl hov, (fun x l k e => Hs.out.ne _ _ _ _ _ _ rfl e), hc, (hv.len 0 (Nat.zero_le _)).keep hc (fun _ e => hv.nd e), hx.put 17 _⟩
  case rest =>
    obtain ⟨rfl, vb, hvO, hvd, hC, hO, hX⟩ := hcut
    clear hz hg p17 p17f p9
    have p11 := hX.row.at 11 rfl
    have p13 := hX.row.at 13 rfl
    have p12 := hX.row.at 12 rfl
    have p14 := hX.row.at 14 rfl
    have p14f := hX.row.fr 14
    have hbd := (hX.bvn b rfl).1
    have hwb := hC.keep Hw.out (fun e => hbd e)
    have HX := Lib.hid hX
    have HO := Lib.hid hO
    have HC := Lib.hid hC
    clear hX hO hC
    have hiM : (i : Int) < M := by omega
    have hin : (i : Int).toNat = i := by omega
    have hiw : IntKind.i64.wrap (i : Int) = i := IntWalk.i64_in _ (by omega)
    go_upto_region 4 with fail
    go_cut [2] (fun v wx => v = .nilIface ∧ Chg (Own d) w wx ∧ OwnV c wx d mb (.slice (some ⟨b, 0, none⟩) 64 64) (.slice (some ⟨vb, 0, none⟩) 0 n) 0 n vb ∧ DX c wx d mb o f (dl nv data true (.pointer (some ⟨c.B, 0, none⟩)) S cbv M n cmb md i (.pointer (some ⟨mb, 0, none⟩)) W tot last (.slice (some ⟨vb, 0, none⟩) 0 n) dbuf) M 64 (.slice (some ⟨b, 0, none⟩) 64 64))
    case first =>
      have HI : HR.InvL [(⟨d, 13, none⟩, .pointer (some ⟨mb, 0, none⟩)), (⟨d, 12, none⟩, .int .u64 i), (⟨b, i, none⟩, .int .u8 W)] wc.drew := .cons p13 (.cons p12 (.cons hwb (.nil _)))
      refine HR.region (HR.InvL [(⟨d, 13, none⟩, .pointer (some ⟨mb, 0, none⟩)), (⟨d, 12, none⟩, .int .u64 i), (⟨b, i, none⟩, .int .u8 W)]) (by kernel_rfl) (by kernel_rfl) ?_
      repeat (first | (refine HR.pure rfl rfl (fun K hK => ?_); go_simp; refine hK _ ?_; clear hK K) | (refine HR.loadI HI 0 rfl rfl rfl ?_ ?_; (focus (intro w' hc; go_simp; done)); go_simp) | (refine HR.loadI HI 1 rfl rfl rfl ?_ ?_; (focus (intro w' hc; go_simp; done)); go_simp) | (refine HR.loadI HI 2 rfl rfl rfl ?_ ?_; (focus (intro w' hc; go_simp; done)); go_simp) | (refine HR.loadI HI 3 rfl rfl rfl ?_ ?_; (focus (intro w' hc; go_simp; done)); go_simp))
      (refine HR.effect rfl rfl HI (fun K hK => ?_); go_simp)
      refine (bufBytes_ok _ mb M b (by exact HX.out.drew.wb) (by omega) hM).mono ?_
      rintro e w6 ⟨rfl, rfl⟩
      dsimp only
      refine HR.back hK ?_ (fun HI2 => ?_)
      · exact HI
      clear hK K HI
      have HI := HI2
      repeat (first | (refine HR.pure rfl rfl (fun K hK => ?_); go_simp; refine hK _ ?_; clear hK K) | (refine HR.loadI HI 0 rfl rfl rfl ?_ ?_; (focus (intro w' hc; go_simp; done)); go_simp) | (refine HR.loadI HI 1 rfl rfl rfl ?_ ?_; (focus (intro w' hc; go_simp; done)); go_simp) | (refine HR.loadI HI 2 rfl rfl rfl ?_ ?_; (focus (intro w' hc; go_simp; done)); go_simp) | (refine HR.loadI HI 3 rfl rfl rfl ?_ ?_; (focus (intro w' hc; go_simp; done)); go_simp))
      (refine HR.store rfl rfl (fun K hK => ?_); go_simp; refine hK _ _ ?_; clear hK K)
      refine HR.nil ?_
      go_wp2_with fail
      go_meet
      exact ⟨rfl, (HC.out.own 14 _).drew.drew, HO.out.keep ((Chg.refl (Own d) wc).own 14 _).drew.drew (fun _ e => HO.out.nd e), (HX.out.put 14 _).drew.drew⟩
    case rest =>
      obtain ⟨rfl, hC, hO, hX⟩ := hcut
      have hbl := H.out.lts hL |>.2.2.1
      clear p11 p13 p12 p14 p14f hwb HX HO HC
      have p14 := hX.row.at 14 rfl
      have p9 := hX.row.at 9 rfl
      have p10 := hX.row.at 10 rfl
      have p10f := hX.row.fr 10
      have HX := Lib.hid hX
      have HO := Lib.hid hO
      have HC := Lib.hid hC
      clear hX hO hC
      have hW' : ¬ (32 : Int) < W := by omega
      have hnw : IntKind.i64.wrap (n : Int) = n := IntWalk.i64_in _ (by omega)
      go_wp2_with fail
      refine (isInt32_ok _).mono ?_
      rintro e w3 ⟨rfl, rfl⟩
      go_upto_if 78 with fail
      have hX0 := HX.out.put 10 (.int .u32 n)
      have hc0 : Chg (Own d) w3 (w3.setCell ⟨d, 10, none⟩ (.int .u32 n)) := (Chg.refl _ _).own 10 _
      have hO0 := HO.out.keep hc0 (fun _ e => HO.out.nd e)
      have hC0 := HC.out.own 10 (.int .u32 n)
      generalize w3.setCell ⟨d, 10, none⟩ (.int .u32 n) = wA at hX0 hc0 hO0 hC0 ⊢
      have hU0 : ∀ T : Nat → Prop, T d → UM T c w wA d mb b (miniX c.D q W md last) vb n (LU nv data (.pointer (some ⟨c.B, 0, none⟩)) S cbv M n md i (.pointer (some ⟨mb, 0, none⟩)) W tot dbuf) M o f 0 := fun T hT => ⟨hC0.mono (fun a _ _ (e : a = d) => e ▸ hT), hX0, hO0, fun j hj => by omega⟩
      have HU0 := Lib.hid hU0
      clear hX0 hc0 hO0 hC0 hU0 HX HO HC p14 p9 p10 p10f
      go_cut [2] (fun v wx => v = .nilIface ∧ UE O c w wx d mb b q W n M md last (fun mbv dbuf => dl nv data true (.pointer (some ⟨c.B, 0, none⟩)) S cbv M n n md i (.pointer (some ⟨mb, 0, none⟩)) W tot (miniX c.D q W md last n) mbv dbuf))
      case first =>
        obtain ⟨X, hXX⟩ : ∃ X, X = miniX c.D q W md last := ⟨_, rfl⟩
        replace hW0 := hW0.out
        have hcb : ((W : Int) == 0) = true := by rw [hW0]; rfl
        have hXs : ∀ k, RowKit.wrap64 (X k + md) = X (k + 1) := by
          intro k
          rw [hXX, hW0]
          show _ = RowKit.wrap64 (_ + RowKit.wrap64 ((bitsV _ _ 0 : Nat) + md))
          rw [show ((bitsV c.D (8 * q + k * 0) 0 : Nat) : Int) + md = md by simp [bitsV], hmd]
        rw [← hXX] at HU0
        have HXX := Lib.hid hXX; clear hXX
        have HW0 := Lib.hid hW0; clear hW0
        go_wp2_with fail
        rw [hcb]
        go_loopw [6] (fun j wr => ∃ k : Nat, k ≤ n ∧ j = .int .i64 k ∧ UM (fun a => a = d ∨ a = vb) c w wr d mb b X vb n (LU nv data (.pointer (some ⟨c.B, 0, none⟩)) S cbv M n md i (.pointer (some ⟨mb, 0, none⟩)) W tot dbuf) M o f k) (fun j _ => n - (intOf j).toNat)
        case atStart => exact ⟨0, Nat.zero_le _, rfl, HU0.out _ (.inl rfl)⟩
        case round =>
          obtain ⟨k, hk, rfl, hU⟩ := hrel
          clear HU0
          by_cases hlt : k < n
          · have p16 := hU.dx.row.at 16 rfl
            have p16f := hU.dx.row.fr 16
            have p11 := hU.dx.row.at 11 rfl
            have p17 := hU.dx.row.at 17 rfl
            have p17f := hU.dx.row.fr 17
            have hs1 : IntKind.i64.wrap (X k + md) = X (k + 1) := by have := hXs k; unfold RowKit.wrap64 at this; rw [IntKind.wrap_i64]; exact this
            have hst := hU.step hlt (.inl rfl) (.inr rfl) ((wr.setCell ⟨d, 16, none⟩ (.int .i64 (X (k + 1)))).drew) (.inr rfl)
            obtain ⟨q16, q17, q17f, qd, qdl, qvl, ⟨u, qc⟩, qf, hst⟩ := hst
            have Hst := Lib.hid hst
            clear hU hst
            go_wp2_with fail
            (refine wp_region_txt [] (by kernel_rfl) (by kernel_rfl) ?_; repeat (first | (refine wpTxt_pure rfl rfl (fun K hK => ?_); go_simp; refine hK _ ?_; clear hK K) | (refine wpTxt_still rfl rfl (fun K hK => ?_); go_simp; refine hK _ ?_; clear hK K)))
            (refine wpTxt_effect rfl rfl (fun K hK => ?_); go_simp; refine hK _ _ ?_; clear hK K)
            refine wpTxt_nil ?_
            generalize (wr.setCell ⟨d, 16, none⟩ (.int .i64 (X (k + 1)))).drew = w1 at q16 q17 q17f qdl qvl qc qf Hst ⊢
            clear p16 p16f p11 p17 p17f
            have hlt1 : k + 1 ≤ n := hlt
            go_wp2_with fail
            have HI : HR.InvL [(⟨d, 16, none⟩, .int .i64 (X (k + 1))), (⟨d, 17, none⟩, .slice (some ⟨vb, 0, none⟩) k n)] w1.drew := .cons q16 (.cons q17 (.nil _))
            refine HR.region (HR.InvL [(⟨d, 16, none⟩, .int .i64 (X (k + 1))), (⟨d, 17, none⟩, .slice (some ⟨vb, 0, none⟩) k n)]) (by kernel_rfl) (by kernel_rfl) ?_
            repeat (first | (refine HR.pure rfl rfl (fun K hK => ?_); go_simp; refine hK _ ?_; clear hK K) | (refine HR.loadI HI 0 rfl rfl rfl ?_ ?_; (focus (intro w' hc; go_simp; done)); go_simp) | (refine HR.loadI HI 1 rfl rfl rfl ?_ ?_; (focus (intro w' hc; go_simp; done)); go_simp) | (refine HR.loadI HI 2 rfl rfl rfl ?_ ?_; (focus (intro w' hc; go_simp; done)); go_simp) | (refine HR.loadI HI 3 rfl rfl rfl ?_ ?_; (focus (intro w' hc; go_simp; done)); go_simp))
            (refine HR.effect rfl rfl HI (fun K hK => ?_); go_simp)
            refine HR.back hK ?_ (fun HI2 => ?_)
            · exact .cons (cell_alloc _ q16) (.cons (cell_alloc _ q17) (.nil _))
            clear hK K HI
            have HI := HI2
            repeat (first | (refine HR.pure rfl rfl (fun K hK => ?_); go_simp; refine hK _ ?_; clear hK K) | (refine HR.loadI HI 0 rfl rfl rfl ?_ ?_; (focus (intro w' hc; go_simp; done)); go_simp) | (refine HR.loadI HI 1 rfl rfl rfl ?_ ?_; (focus (intro w' hc; go_simp; done)); go_simp) | (refine HR.loadI HI 2 rfl rfl rfl ?_ ?_; (focus (intro w' hc; go_simp; done)); go_simp) | (refine HR.loadI HI 3 rfl rfl rfl ?_ ?_; (focus (intro w' hc; go_simp; done)); go_simp))
            (refine HR.effect rfl rfl HI (fun K hK => ?_); go_simp)
            refine HR.back hK ?_ (fun HI3 => ?_)
            · exact .cons (cell_alloc _ (cell_ne _ q16 (fun e => qd e.1))) (.cons (cell_alloc _ (cell_ne _ q17 (fun e => qd e.1))) (.nil _))
            clear hK K HI HI2
            have HI := HI3
            repeat (first | (refine HR.pure rfl rfl (fun K hK => ?_); go_simp; refine hK _ ?_; clear hK K) | (refine HR.loadI HI 0 rfl rfl rfl ?_ ?_; (focus (intro w' hc; go_simp; done)); go_simp) | (refine HR.loadI HI 1 rfl rfl rfl ?_ ?_; (focus (intro w' hc; go_simp; done)); go_simp) | (refine HR.loadI HI 2 rfl rfl rfl ?_ ?_; (focus (intro w' hc; go_simp; done)); go_simp) | (refine HR.loadI HI 3 rfl rfl rfl ?_ ?_; (focus (intro w' hc; go_simp; done)); go_simp))
            (refine HR.store rfl rfl (fun K hK => ?_); go_simp; refine hK _ _ ?_; clear hK K)
            refine HR.nil ?_
            go_wp2_with fail
            go_roundw
            case rel => exact ⟨k + 1, by omega, by go_num, (Hst.out _).1⟩
            case measure => simp [intOf]; omega
          · have hke : k = n := by omega
            subst hke
            have hs : UE O c w wr d mb b q W k M md last (fun mbv dbuf => dl nv data true (.pointer (some ⟨c.B, 0, none⟩)) S cbv M k k md i (.pointer (some ⟨mb, 0, none⟩)) W tot (miniX c.D q W md last k) mbv dbuf) := by
              have hX := HXX.out
              subst hX
              refine UM.fin (fun a ha hl => ha.elim (fun e => e ▸ Hs.out.od) (fun e => hvO.elim (fun q => e ▸ q) (fun q => absurd hl (by omega)))) hvO (fun e => e.elim hbd (fun e => hU.own.nw b rfl e.symm)) hU Hs.out ?_ hL hbl (by rw [HW0.out]; simpa using hof)
              rcases Hs.out.dv with e | ⟨gb, hgb, ho⟩
              · exact .inl e
              · exact .inr ⟨gb, .inl hgb, (hvd _ _ _ ho.v).symm, ho.keep hU.chg (fun x e => e.elim ho.nd (hvd _ _ _ ho.v).symm)⟩
            go_wp2_with fail
            go_meet
            exact ⟨rfl, hs⟩
      case rest =>
        obtain ⟨rfl, ⟨O', vb', dbuf', o', f', h1, h2, h3, h4, h5, h6, h7, h8⟩⟩ := hcut
        clear HU0
        have p12 := h5.row.at 12 rfl
        have p12f := h5.row.fr 12
        have hiw2 : IntKind.u64.wrap ((i : Int) + 1) = (i : Int) + 1 := wrap64 _ (by omega) (by show (i : Int) + 1 < 18446744073709551616; omega)
        have H5 := Lib.hid h5
        have H6 := Lib.hid h6
        have H7 := Lib.hid h7
        have H4 := Lib.hid h4
        have H1 := Lib.hid h1
        have H2 := Lib.hid h2
        have H8 := Lib.hid h8
        clear h1 h2 h4 h5 h6 h7 h8
        go_wp2_with fail
        go_ret
        have hc : Chg (Own d) wc (wc.setCell ⟨d, 12, none⟩ (.int .u64 ((i : Int) + 1))) := (Chg.refl _ _).own 12 _
        exact ⟨rfl, ⟨O', vb', dbuf', o', f', H1.out, H2.out, h3, H4.out.setCell _ _ (fun _ => Hs.out.od) _, H5.out.put 12 _, H6.out.own hc, fun j hj => hc.keep (H7.out j hj) (fun e => H6.out.vd e), fun x u hu => hc.keep (H8.out x u hu) (fun e => hbd e)⟩⟩
end Go.Proofs.YtaageikelkcphaaGreatDoor
