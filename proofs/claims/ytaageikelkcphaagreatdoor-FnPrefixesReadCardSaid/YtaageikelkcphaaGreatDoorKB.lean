/- Part 2 of the proof: the texts R, M, joined. What each proves stands ahead of it. -/
import Derived.Test.YtaageikelkcphaaGreatDoorKA
import Derived.Orders
import Derived.Still
import Derived.StillTail
import Derived.Tactics
set_option linter.unusedVariables false
set_option linter.unusedSimpArgs false
/- A region whose order is open, walked in the text's order: the operations commute where no edge orders them. Over any program. -/
namespace Go.Proofs.YtaageikelkcphaaGreatDoor
open Go Go.RowKit

inductive Cls where
  | pure | still | effect
  deriving DecidableEq
/-- Which kind an operation is of, by its form: 'pure' reads no memory, 'still' may read, 'effect' may do anything. 'calm': functions whose calls turn nothing. -/
def cls (calm : List Nat) (o : Oper) : Cls :=
  match o.op with
  | .move _ | .assign _ | .pick .. | .extract .. | .nilCheck _ | .binOp .. | .unOp .. | .convert .. | .fieldAddr .. | .field .. | .indexAddr .. | .index .. | .slice .. | .makeInterface .. | .makeFunc .. | .sliceToArrayPointer .. => .pure
  | .load .. => .still
  | .call { callee := .builtin .len, .. } | .call { callee := .builtin .cap, .. } | .call { callee := .builtin .min, .. } | .call { callee := .builtin .max, .. } => .pure
  | .call { callee := .value (.func f), .. } => if calm.contains f then .still else .effect
  | _ => .effect
def FQ : Exit → Act → World → Prop := fun _ _ _ => False

section
variable {P : Program} {ops : Array Oper} {calm : List Nat}
/-- v is what o gives at a in w, and nothing turns. -/
def Good (P : Program) (calm : List Nat) (ops : Array Oper) (o : Oper) (v : Value) (a : Act) (w : World) : Prop :=
  if Region.wanted o (yielded ops a.tmps) then
    match cls calm o with
    | .pure => ∀ w', (execOp a.eval o).run P w' = .ok (.value v) w'
    | _ => (execOp a.eval o).run P w = .ok (.value v) w ∨ ((execOp a.eval o).run P w = .ok .skip w ∧ v = undef) ∨ ∃ f args, (execOp a.eval o).run P w = .ok (.enter f args) w ∧ Calls P f args w (fun e w'' => e = .returned v ∧ w'' = w)
  else v = undef
def tOp (P : Program) (calm : List Nat) (ops : Array Oper) (o : Oper) (K : Act → World → Prop) (a : Act) (w : World) : Prop :=
  if Region.wanted o (yielded ops a.tmps) = true ∧ cls calm o = .effect then o.wp P a w K FQ
  else ∃ v, Good P calm ops o v a w ∧ K (a.put o.dst v) w
def tList (P : Program) (calm : List Nat) (ops : Array Oper) (K : Act → World → Prop) : List Nat → Act → World → Prop
  | [] => K
  | i :: l => match ops[i]? with
    | some o => tOp P calm ops o (tList P calm ops K l)
    | none => tList P calm ops K l

theorem good_put {o : Oper} {v u : Value} {a : Act} {w : World} {dst : Option Tmp} (hs : ∀ cs b, o.op ≠ .select cs b) (h : ∀ d, dst = some d → d ∉ o.looksAt ops) :
    Good P calm ops o v (a.put dst u) w ↔ Good P calm ops o v a w := by
  unfold Good
  rw [wanted_put o a dst u h, execOp_put o hs a dst u h]
theorem good_defers {o : Oper} {v : Value} {a : Act} {w : World} (ds : List Deferred) : Good P calm ops o v { a with defers := ds } w ↔ Good P calm ops o v a w := Iff.rfl
theorem good_world {o : Oper} {v : Value} {a : Act} {w w' : World} (hp : cls calm o = .pure ∨ Region.wanted o (yielded ops a.tmps) = false) (h : Good P calm ops o v a w) : Good P calm ops o v a w' := by
  unfold Good at h ⊢
  rcases hp with hp | hp
  · simp only [hp] at h ⊢; exact h
  · rw [hp] at h ⊢; exact h
theorem good_det {o : Oper} {v v' : Value} {a : Act} {w w' : World} (hp : cls calm o = .pure ∨ Region.wanted o (yielded ops a.tmps) = false) (h : Good P calm ops o v a w) (h' : Good P calm ops o v' a w') : v = v' := by
  unfold Good at *
  rcases hp with hp | hp
  · simp only [hp] at h h'
    split at h
    · rename_i hw
      rw [if_pos hw] at h'
      have e := (h w).symm.trans (h' w)
      injection e with e1 e2
      injection e1
    · rename_i hw
      rw [if_neg hw] at h'
      rw [h, h']
  · simp only [hp] at h h'
    rw [if_neg (by simp)] at h h'
    rw [h, h']

/-- What stays of the frame when o runs. -/
def Out (a a' : Act) (o : Oper) : Prop := ∃ ds u, a' = ({ a with defers := ds } : Act).put o.dst u
theorem wp_put {o : Oper} (hs : ∀ cs b, o.op ≠ .select cs b) {dst : Option Tmp} (u : Value) (h1 : ∀ d, dst = some d → d ∉ o.looksAt ops) (h2 : ∀ d, dst = some d → o.dst ≠ some d) {a : Act} {w : World} {K : Act → World → Prop} :
    o.wp P (a.put dst u) w K FQ ↔ o.wp P a w (fun a' w' => Out a a' o ∧ K (a'.put dst u) w') FQ := by
  unfold Oper.wp
  rw [execOp_put o hs a dst u h1]
  have hout : ∀ v, Out a (a.put o.dst v) o := fun v => ⟨a.defers, v, rfl⟩
  generalize (execOp a.eval o).run P w = r
  cases r with
  | ok n w' =>
    cases n <;> simp only [Oper.upon]
    case value x => rw [Act.put_comm a u x h2]; exact ⟨fun h => ⟨hout _, h⟩, fun h => h.2⟩
    case skip => rw [Act.put_comm a u undef h2]; exact ⟨fun h => ⟨hout _, h⟩, fun h => h.2⟩
    case defer d =>
      rw [Act.put_defers, Act.put_comm _ u undef h2]
      exact ⟨fun h => ⟨⟨_, _, rfl⟩, h⟩, fun h => h.2⟩
    case enter f args =>
      constructor
      · intro h
        refine Calls.mono h fun e w'' he => ?_
        cases e with
        | returned x => exact ⟨hout _, by rw [← Act.put_comm a u x h2]; exact he⟩
        | panicked c => exact he
        | outgrown => exact he
      · intro h
        refine Calls.mono h fun e w'' he => ?_
        cases e with
        | returned x => show K ((a.put dst u).put o.dst x) w''; rw [Act.put_comm a u x h2]; exact he.2
        | panicked c => exact he
        | outgrown => exact he
    case row row args =>
      constructor
      · intro h
        exact Rows.mono h fun x w'' he => ⟨hout _, by rw [← Act.put_comm a u x h2]; exact he⟩
      · intro h
        exact Rows.mono h fun x w'' he => by rw [Act.put_comm a u x h2]; exact he.2
  | halt x w' =>
    cases x <;> simp only [Oper.upon]
    case panic => exact ⟨fun h => h, fun h => h⟩
theorem wp_out {o : Oper} {a : Act} {w : World} {K : Act → World → Prop} (h : o.wp P a w K FQ) : o.wp P a w (fun a' w' => Out a a' o ∧ K a' w') FQ := by
  unfold Oper.wp at *
  have hout : ∀ v, Out a (a.put o.dst v) o := fun v => ⟨a.defers, v, rfl⟩
  generalize (execOp a.eval o).run P w = r at *
  cases r with
  | ok n w' =>
    cases n <;> simp only [Oper.upon] at h ⊢
    case value x => exact ⟨hout _, h⟩
    case skip => exact ⟨hout _, h⟩
    case defer d => exact ⟨⟨_, _, rfl⟩, h⟩
    case enter f args =>
      refine Calls.mono h fun e w'' he => ?_
      cases e with
      | returned x => exact ⟨hout _, he⟩
      | panicked c => exact he
      | outgrown => exact he
    case row row args => exact Rows.mono h fun x w'' he => ⟨hout _, he⟩
  | halt x w' =>
    cases x <;> simp only [Oper.upon] at h ⊢
    case panic => exact h
theorem wp_some {o : Oper} {a : Act} {w : World} {K : Act → World → Prop} (h : o.wp P a w K FQ) : ∃ a' w', K a' w' := by
  unfold Oper.wp at h
  generalize (execOp a.eval o).run P w = r at *
  cases r with
  | ok n w' =>
    cases n <;> simp only [Oper.upon] at h
    case value x => exact ⟨_, _, h⟩
    case skip => exact ⟨_, _, h⟩
    case defer d => exact ⟨_, _, h⟩
    case enter f args =>
      obtain ⟨e, w'', fr, hr, _⟩ := h []
      cases e with
      | returned x => exact ⟨_, _, hr⟩
      | panicked c => exact hr.elim
      | outgrown => obtain ⟨_, _, hf⟩ := hr; exact hf.elim
    case row row args =>
      obtain ⟨x, w'', hr, _⟩ := h default []
      exact ⟨_, _, hr⟩
  | halt x w' =>
    cases x <;> simp only [Oper.upon] at h
    case panic => exact h.elim
theorem wp_FQ {o : Oper} {a : Act} {w : World} {K : Act → World → Prop} {Q : Exit → Act → World → Prop} (h : o.wp P a w K FQ) : o.wp P a w K Q := by
  unfold Oper.wp at *
  generalize (execOp a.eval o).run P w = r at *
  cases r with
  | ok n w' =>
    cases n <;> simp only [Oper.upon] at h ⊢
    case value x => exact h
    case skip => exact h
    case defer d => exact h
    case enter f args =>
      refine Calls.mono h fun e w'' he => ?_
      cases e with
      | returned x => exact he
      | panicked c => exact he.elim
      | outgrown => obtain ⟨_, _, hf⟩ := he; exact hf.elim
    case row row args => exact h
  | halt x w' =>
    cases x <;> simp only [Oper.upon] at h ⊢
    case panic => exact h.elim
theorem tOp_mono {o : Oper} {K K' : Act → World → Prop} {a : Act} {w : World} (hk : ∀ a w, K a w → K' a w) (h : tOp P calm ops o K a w) : tOp P calm ops o K' a w := by
  unfold tOp at *
  split
  · rename_i hc; rw [if_pos hc] at h; exact Oper.wp_mono hk h
  · rename_i hc; rw [if_neg hc] at h; obtain ⟨v, h1, h2⟩ := h; exact ⟨v, h1, hk _ _ h2⟩
theorem good_of_out {o o' : Oper} {v : Value} {a a' : Act} {w : World} (hs : ∀ cs b, o.op ≠ .select cs b) (h : ∀ d, o'.dst = some d → d ∉ o.looksAt ops) (ho : Out a a' o') : Good P calm ops o v a' w ↔ Good P calm ops o v a w := by
  obtain ⟨ds, u, rfl⟩ := ho
  rw [good_put hs h]
  exact good_defers ds

def mayPass (calm : List Nat) (ops : Array Oper) (x y : Oper) : Bool :=
  x.apart ops y && (match cls calm x, cls calm y with
    | .pure, _ => true
    | _, .pure => true
    | .still, .still => true
    | _, _ => false)
/-- Two operations that may pass: the later one may come first. -/
theorem tOp_swap {x y : Oper} (hsx : ∀ cs b, x.op ≠ .select cs b) (hsy : ∀ cs b, y.op ≠ .select cs b) (hp : mayPass calm ops x y = true) {K : Act → World → Prop} {a : Act} {w : World}
    (h : tOp P calm ops x (tOp P calm ops y K) a w) : tOp P calm ops y (tOp P calm ops x K) a w := by
  simp only [mayPass, Bool.and_eq_true] at hp
  obtain ⟨hap, hcl⟩ := hp
  obtain ⟨h1, h2, h3⟩ := Oper.apart_spec hap
  have h2' : ∀ d, y.dst = some d → x.dst ≠ some d := fun d hd hx => h2 d hx hd
  unfold tOp at h
  split at h
  · rename_i hx
    -- x has an effect; so y is pure
    have hy : cls calm y = .pure := by
      rw [hx.2] at hcl
      revert hcl
      cases cls calm y <;> simp
    have h' := wp_out h
    obtain ⟨a1, w1, hout1, hk1⟩ := wp_some h'
    rw [if_neg (by rw [hy]; simp)] at hk1
    obtain ⟨u, hu, _⟩ := hk1
    have hu0 : Good P calm ops y u a w := good_world (.inl hy) ((good_of_out hsy h1 hout1).1 hu)
    unfold tOp
    rw [if_neg (by rw [hy]; simp)]
    refine ⟨u, hu0, ?_⟩
    rw [wanted_put x a y.dst u h3, if_pos hx]
    rw [wp_put hsx u h3 h2']
    refine Oper.wp_mono (fun a' w' hh => ⟨hh.1, ?_⟩) h'
    obtain ⟨ho, hh⟩ := hh
    rw [if_neg (by rw [hy]; simp)] at hh
    obtain ⟨u', hu', hK⟩ := hh
    have e : u' = u := good_det (.inl hy) ((good_of_out hsy h1 ho).1 hu') hu0
    subst e
    exact hK
  · rename_i hx
    obtain ⟨v, hv, h⟩ := h
    rw [wanted_put y a x.dst v h1] at h
    unfold tOp
    split
    · rename_i hy
      rw [if_pos hy] at h
      rw [wp_put hsy v h1 h2] at h
      have hpx : cls calm x = .pure ∨ Region.wanted x (yielded ops a.tmps) = false := by
        rw [hy.2] at hcl
        revert hcl
        cases hcx : cls calm x <;> simp
      refine Oper.wp_mono (fun a' w' hh => ?_) h
      obtain ⟨ho, hK⟩ := hh
      have hwx : Region.wanted x (yielded ops a'.tmps) = Region.wanted x (yielded ops a.tmps) := by
        obtain ⟨ds, u, rfl⟩ := ho
        exact wanted_put x { a with defers := ds } y.dst u h3
      rw [hwx, if_neg hx]
      exact ⟨v, (good_of_out hsx h3 ho).2 (good_world hpx hv), hK⟩
    · rename_i hy
      rw [if_neg hy] at h
      obtain ⟨u, hu, hK⟩ := h
      refine ⟨u, (good_put hsy h1).1 hu, ?_⟩
      rw [wanted_put x a y.dst u h3, if_neg hx]
      exact ⟨v, (good_put hsx h3).2 hv, by rw [← Act.put_comm a v u h2]; exact hK⟩
theorem tOp_wpOp {i : Nat} {o : Oper} (hi : ops[i]? = some o) {K : Act → World → Prop} {Q : Exit → Act → World → Prop} {a : Act} {w : World} (h : tOp P calm ops o K a w) : wpOp P ops Q i K a w := by
  unfold wpOp
  simp only [hi]
  unfold tOp at h
  split
  · rename_i hw
    refine .inl ?_
    split at h
    · exact wp_FQ h
    · rename_i hc
      obtain ⟨v, hv, hK⟩ := h
      have hce : cls calm o ≠ .effect := fun e => hc ⟨hw, e⟩
      unfold Good at hv
      rw [if_pos hw] at hv
      unfold Oper.wp
      cases hcl : cls calm o with
      | pure => rw [hcl] at hv; simp only [] at hv; rw [hv w]; exact hK
      | effect => exact absurd hcl hce
      | still =>
        rw [hcl] at hv
        simp only [] at hv
        rcases hv with hv | ⟨hv, rfl⟩ | ⟨f, args, hv, hcall⟩
        · rw [hv]; exact hK
        · rw [hv]; exact hK
        · rw [hv]
          simp only [Oper.upon]
          refine Calls.mono hcall fun e w'' ⟨he, hw''⟩ => ?_
          subst he; subst hw''
          exact hK
  · rename_i hw
    rw [if_neg (fun hc => hw hc.1)] at h
    obtain ⟨v, hv, hK⟩ := h
    unfold Good at hv
    rw [if_neg hw] at hv
    subst hv
    exact hK

def dmask (o : Oper) : Nat := o.after.toList.foldl (fun s e => if Region.binds .any e then s ||| (1 <<< e.on) else s) 0
def pass (ops : Array Oper) : Nat → Nat → Nat
  | 0, S => S
  | m + 1, S => pass ops m (if S.testBit m then S ||| (match ops[m]? with | some o => dmask o | none => 0) else S)
def textB (calm : List Nat) (ops : Array Oper) : Bool :=
  Region.noSelect ops && (List.range ops.size).all fun i => match ops[i]? with
    | none => true
    | some y => (y.after.all fun e => !Region.binds .any e || decide (e.on < i)) &&
      (let S := pass ops i (dmask y)
       (List.range i).all fun j => S.testBit j || match ops[j]? with | some x => mayPass calm ops x y | none => true)

theorem foldl_mask {l : List Edge} {j : Nat} : ∀ (s : Nat), (l.foldl (fun s e => if Region.binds .any e then s ||| (1 <<< e.on) else s) s).testBit j = true → s.testBit j = true ∨ ∃ e ∈ l, Region.binds .any e = true ∧ e.on = j := by
  induction l with
  | nil => intro s h; exact .inl h
  | cons e l ih =>
    intro s h
    rcases ih _ h with h | ⟨e', he', hb, ho⟩
    · dsimp only at h
      split at h
      · rename_i hb
        rw [Nat.testBit_or, Bool.or_eq_true] at h
        rcases h with h | h
        · exact .inl h
        · refine .inr ⟨e, by simp, hb, ?_⟩
          rw [Nat.one_shiftLeft, Nat.testBit_two_pow] at h
          exact of_decide_eq_true h
      · exact .inl h
    · exact .inr ⟨e', by simp [he'], hb, ho⟩
theorem dmask_spec {o : Oper} {j : Nat} (h : (dmask o).testBit j = true) : ∃ e ∈ o.after, Region.binds .any e = true ∧ e.on = j := by
  rcases foldl_mask (l := o.after.toList) 0 h with h | ⟨e, he, hb, ho⟩
  · simp at h
  · exact ⟨e, by simpa using he, hb, ho⟩
def ClosedL (ops : Array Oper) (listed : Array Bool) : Prop := ∀ i o, ops[i]? = some o → listed.getD i false = true → ∀ e ∈ o.after, Region.binds .any e = true → listed.getD e.on false = true
theorem pass_spec {listed : Array Bool} (hcl : ClosedL ops listed) : ∀ (m S : Nat), (∀ j, S.testBit j = true → listed.getD j false = true) → ∀ j, (pass ops m S).testBit j = true → listed.getD j false = true
  | 0, S, h => h
  | m + 1, S, h => by
    refine pass_spec hcl m _ ?_
    intro j hj
    split at hj
    · rename_i hm
      rw [Nat.testBit_or, Bool.or_eq_true] at hj
      rcases hj with hj | hj
      · exact h j hj
      · split at hj
        · rename_i o ho
          obtain ⟨e, he, hb, rfl⟩ := dmask_spec hj
          exact hcl m o ho (h m hm) e he hb
        · simp at hj
    · exact h j hj
def rem (n : Nat) (listed : Array Bool) : List Nat := (List.range n).filter fun i => !listed.getD i true
theorem mem_rem {n i : Nat} {listed : Array Bool} : i ∈ rem n listed ↔ i < n ∧ listed.getD i true = false := by
  simp [rem, List.mem_filter]
theorem rem_sorted (n : Nat) (listed : Array Bool) : (rem n listed).Pairwise (· < ·) := List.Pairwise.filter _ List.pairwise_lt_range
theorem rem_set {n i : Nat} {listed : Array Bool} (hn : listed.size = n) : rem n (listed.setIfInBounds i true) = (rem n listed).filter (fun k => k != i) := by
  unfold rem
  rw [List.filter_filter]
  refine List.filter_congr fun k hk => ?_
  have hk' : k < listed.size := by rw [hn]; exact List.mem_range.1 hk
  by_cases h : k = i
  · subst h; simp [hk']
  · have e : (listed.setIfInBounds i true).getD k true = listed.getD k true := getD_set_ne true (fun e => h e.symm)
    rw [e]
    simp [h]
theorem tList_front (hsel : Region.noSelect ops = true) {i : Nat} {y : Oper} (hi : ops[i]? = some y) {K : Act → World → Prop} : ∀ (l1 l2 : List Nat), (∀ j ∈ l1, ∀ x, ops[j]? = some x → mayPass calm ops x y = true) →
    ∀ a w, tList P calm ops K (l1 ++ i :: l2) a w → tOp P calm ops y (tList P calm ops K (l1 ++ l2)) a w
  | [], l2, _, a, w, h => by simpa [tList, hi] using h
  | j :: l1, l2, hm, a, w, h => by
    simp only [List.cons_append, tList] at h ⊢
    have ih := tList_front hsel hi l1 l2 (K := K) (fun k hk => hm k (by simp [hk]))
    cases hj : ops[j]? with
    | none => simp only [hj] at h ⊢; exact ih a w h
    | some x =>
      simp only [hj] at h ⊢
      exact tOp_swap (fun cs b => Region.noSelect_spec hsel j x cs b hj) (fun cs b => Region.noSelect_spec hsel i y cs b hi) (hm j (by simp) x hj) (tOp_mono (fun a w h => ih a w h) h)
theorem split_sorted {i : Nat} : ∀ {l : List Nat}, l.Pairwise (· < ·) → i ∈ l → ∃ l1 l2, l = l1 ++ i :: l2 ∧ (∀ j ∈ l1, j < i) ∧ l.filter (fun k => k != i) = l1 ++ l2
  | [], _, h => by simp at h
  | k :: l, hs, h => by
    rw [List.pairwise_cons] at hs
    by_cases hk : k = i
    · subst hk
      refine ⟨[], l, rfl, by simp, ?_⟩
      rw [List.filter_cons]
      simp only [bne_self_eq_false, Bool.false_eq_true, if_false, List.nil_append]
      refine List.filter_eq_self.2 fun x hx => ?_
      have := hs.1 x hx
      simp; omega
    · have hil : i ∈ l := by
        rcases List.mem_cons.1 h with h | h
        · exact absurd h.symm hk
        · exact h
      obtain ⟨l1, l2, he, hl, hf⟩ := split_sorted hs.2 hil
      refine ⟨k :: l1, l2, by rw [he]; rfl, ?_, ?_⟩
      · intro j hj
        rcases List.mem_cons.1 hj with rfl | hj
        · exact hs.1 i hil
        · exact hl j hj
      · rw [List.filter_cons]
        simp [hk, hf]
theorem tList_any (hB : textB calm ops = true) {K : Act → World → Prop} {Q : Exit → Act → World → Prop} (hK : ∀ a w, K a w → Q .normal a w) :
    ∀ (fuel : Nat) (listed : Array Bool) (a : Act) (w : World), listed.size = ops.size → ClosedL ops listed → (rem ops.size listed).length = fuel → tList P calm ops K (rem ops.size listed) a w → wpAny P .any ops Q fuel listed a w := by
  simp only [textB, Bool.and_eq_true] at hB
  obtain ⟨hsel, hall⟩ := hB
  have hpair : ∀ i y, ops[i]? = some y → (∀ e ∈ y.after, Region.binds .any e = true → e.on < i) ∧ ∀ j, j < i → (pass ops i (dmask y)).testBit j = true ∨ ∀ x, ops[j]? = some x → mayPass calm ops x y = true := by
    intro i y hi
    have hlt : i < ops.size := (Array.getElem?_eq_some_iff.1 hi).1
    have h := List.all_eq_true.1 hall i (List.mem_range.2 hlt)
    simp only [hi, Bool.and_eq_true] at h
    refine ⟨fun e he hb => ?_, fun j hj => ?_⟩
    · have := Array.all_eq_true_iff_forall_mem.1 h.1 e he
      simpa [hb] using this
    · have := List.all_eq_true.1 h.2 j (List.mem_range.2 hj)
      rw [Bool.or_eq_true] at this
      refine this.imp id fun h' x hx => by simpa [hx] using h'
  intro fuel
  induction fuel with
  | zero =>
    intro listed a w hsz hcl hlen h
    have hnil : rem ops.size listed = [] := List.eq_nil_of_length_eq_zero hlen
    refine ⟨?_, ?_⟩
    · refine List.eq_nil_iff_forall_not_mem.2 fun i hi => ?_
      obtain ⟨hu, o, ho, _⟩ := mem_ready.1 hi
      have : i ∈ rem ops.size listed := mem_rem.2 ⟨(Array.getElem?_eq_some_iff.1 ho).1, hu⟩
      rw [hnil] at this
      cases this
    · rw [hnil] at h; exact hK _ _ h
  | succ fuel ih =>
    intro listed a w hsz hcl hlen h
    refine ⟨fun hr => ?_, fun i hi => ?_⟩
    · exfalso
      cases hrem : rem ops.size listed with
      | nil => rw [hrem] at hlen; cases hlen
      | cons m l =>
        have hm : m ∈ rem ops.size listed := by rw [hrem]; simp
        obtain ⟨hmn, hmu⟩ := mem_rem.1 hm
        have : m ∈ Region.ready .any ops listed := by
          refine mem_ready.2 ⟨hmu, ops[m], Array.getElem?_eq_getElem hmn, fun e he hb => ?_⟩
          have hlt := (hpair m ops[m] (Array.getElem?_eq_getElem hmn)).1 e he hb
          cases hl : listed.getD e.on true with
          | false =>
            have hmem : e.on ∈ rem ops.size listed := mem_rem.2 ⟨by omega, hl⟩
            rw [hrem] at hmem
            have hs := rem_sorted ops.size listed
            rw [hrem, List.pairwise_cons] at hs
            rcases List.mem_cons.1 hmem with h' | h'
            · omega
            · have := hs.1 _ h'; omega
          | true =>
            have hin : e.on < listed.size := by rw [hsz]; omega
            simp [hin] at hl ⊢
            exact hl
        rw [hr] at this
        cases this
    · obtain ⟨hu, o, ho, hdeps⟩ := mem_ready.1 hi
      have hin : i < ops.size := (Array.getElem?_eq_some_iff.1 ho).1
      have hmem : i ∈ rem ops.size listed := mem_rem.2 ⟨hin, hu⟩
      obtain ⟨l1, l2, hrem, hl1, hf⟩ := split_sorted (rem_sorted ops.size listed) hmem
      have hrs := rem_set (i := i) hsz
      rw [hf] at hrs
      rw [hrem] at h
      have hfront := tList_front hsel ho l1 l2 (fun j hj x hx => by
        have hjm : j ∈ rem ops.size listed := by rw [hrem]; simp [hj]
        obtain ⟨_, hju⟩ := mem_rem.1 hjm
        rcases (hpair i o ho).2 j (hl1 j hj) with hb | hb
        · have := pass_spec hcl i (dmask o) (fun k hk => by
            obtain ⟨e, he, hbd, rfl⟩ := dmask_spec hk
            exact hdeps e he hbd) j hb
          rw [getD_both hju] at this
          cases this
        · exact hb x hx) a w h
      refine tOp_wpOp ho (tOp_mono (fun a' w' h' => ?_) hfront)
      refine ih (listed.setIfInBounds i true) a' w' (by simpa using hsz) ?_ ?_ (by rw [hrs]; exact h')
      · intro k o' ho' hk e he hb
        by_cases hki : i = k
        · subst hki
          have : o' = o := Option.some.inj (ho'.symm.trans ho)
          subst this
          exact getD_set_true (hdeps e he hb)
        · rw [getD_set_ne false hki] at hk
          exact getD_set_true (hcl k o' ho' hk e he hb)
      · have e1 : (rem ops.size listed).length = (l1 ++ i :: l2).length := by rw [hrem]
        rw [hrs]
        simp only [List.length_append, List.length_cons] at e1 ⊢
        omega

theorem tOp_if {o : Oper} {K : Act → World → Prop} {Q : Exit → Act → World → Prop} {a : Act} {w : World} (h : tOp P calm ops o K a w) :
    if Region.wanted o (yielded ops a.tmps) then o.wp P a w K Q ∨ (o.asks P a w ∧ LetsOut Q) else K (a.put o.dst undef) w := by
  unfold tOp at h
  split
  · rename_i hw
    refine .inl ?_
    split at h
    · exact wp_FQ h
    · rename_i hc
      obtain ⟨v, hv, hK⟩ := h
      have hce : cls calm o ≠ .effect := fun e => hc ⟨hw, e⟩
      unfold Good at hv
      rw [if_pos hw] at hv
      unfold Oper.wp
      cases hcl : cls calm o with
      | pure => rw [hcl] at hv; simp only [] at hv; rw [hv w]; exact hK
      | effect => exact absurd hcl hce
      | still =>
        rw [hcl] at hv
        simp only [] at hv
        rcases hv with hv | ⟨hv, rfl⟩ | ⟨f, args, hv, hcall⟩
        · rw [hv]; exact hK
        · rw [hv]; exact hK
        · rw [hv]
          simp only [Oper.upon]
          refine Calls.mono hcall fun e w'' ⟨he, hw''⟩ => ?_
          subst he; subst hw''
          exact hK
  · rename_i hw
    rw [if_neg (fun hc => hw hc.1)] at h
    obtain ⟨v, hv, hK⟩ := h
    unfold Good at hv
    rw [if_neg hw] at hv
    subst hv
    exact hK
/-- The operations one by one, in the text's order. -/
def wpTxt (P : Program) (calm : List Nat) (ops : Array Oper) (K : Act → World → Prop) : List Oper → Act → World → Prop
  | [], a, w => K a w
  | o :: l, a, w => tOp P calm ops o (wpTxt P calm ops K l) a w
theorem wpTxt_tList {K : Act → World → Prop} : ∀ (l : List Oper) (k : Nat), (∀ j, l[j]? = ops[k + j]?) → ∀ a w, wpTxt P calm ops K l a w → tList P calm ops K (List.range' k l.length) a w
  | [], k, _, a, w, h => h
  | o :: l, k, hl, a, w, h => by
    have h0 : ops[k]? = some o := by simpa using (hl 0).symm
    have ih := wpTxt_tList (K := K) l (k + 1) (fun j => by have := hl (j + 1); simpa [Nat.add_assoc, Nat.add_comm 1 j] using this)
    simp only [List.length_cons, List.range'_succ, tList, h0]
    exact tOp_mono (fun a w h => ih a w h) h
theorem wpTxt_list {Q : Exit → Act → World → Prop} : ∀ (l : List Oper) (a : Act) (w : World), wpTxt P calm ops (Q .normal) l a w → wpList P ops Q l a w
  | [], a, w, h => h
  | o :: l, a, w, h => tOp_if (tOp_mono (fun a w h => wpTxt_list l a w h) h)
theorem wp_region_txt (calm : List Nat) {id : Nat} {Q : Exit → Act → World → Prop} {a : Act} {w : World} {l : List Oper} (hm : P.follows .mixedOrders = true) (hB : textB calm l.toArray = true)
    (h : wpTxt P calm l.toArray (Q .normal) l a w.drew) : (Code.region id l.toArray true).wp P Q a w := by
  refine wp_region_any hm ?_
  have hr : rem l.toArray.size (Array.replicate l.toArray.size false) = List.range' 0 l.length := by
    unfold rem
    rw [List.filter_eq_self.2, List.range_eq_range']
    · simp
    · intro k hk
      have := List.mem_range.1 hk
      simp at this
      simp [this]
  refine tList_any hB (fun _ _ h => h) l.toArray.size _ a _ (by simp) ?_ (by rw [hr]; simp) (by rw [hr]; exact wpTxt_tList l 0 (by simp) a _ h)
  intro i o _ hk
  rw [getD_replicate_false] at hk
  cases hk
theorem wpTxt_nil {K : Act → World → Prop} {a : Act} {w : World} (h : K a w) : wpTxt P calm ops K [] a w := h
/-- An operation without a guard that reads no memory. -/
theorem wpTxt_pure {K : Act → World → Prop} {o : Oper} {l : List Oper} {a : Act} {w : World} (hg : o.guard = none) (hc : cls calm o = .pure)
    (h : ∀ K' : Act → Prop, (∀ a, wpTxt P calm ops K l a w → K' a) → ∃ v, (∀ w', (execOp a.eval o).run P w' = .ok (.value v) w') ∧ K' (a.put o.dst v)) : wpTxt P calm ops K (o :: l) a w := by
  obtain ⟨v, h1, h2⟩ := h _ fun _ h => h
  show tOp P calm ops o _ a w
  unfold tOp
  rw [if_neg (by rw [hc]; simp)]
  refine ⟨v, ?_, h2⟩
  unfold Good
  rw [if_pos (by simp [Region.wanted, hg]), hc]
  exact h1
/-- One that reads, and turns nothing. -/
theorem wpTxt_still {K : Act → World → Prop} {o : Oper} {l : List Oper} {a : Act} {w : World} (hg : o.guard = none) (hc : cls calm o = .still)
    (h : ∀ K' : Act → Prop, (∀ a, wpTxt P calm ops K l a w → K' a) → o.still P a w K') : wpTxt P calm ops K (o :: l) a w := by
  have h' := h _ fun _ h => h
  show tOp P calm ops o _ a w
  unfold tOp
  rw [if_neg (by rw [hc]; simp)]
  unfold Good
  rw [hc]
  simp only [Region.wanted, hg, if_true]
  unfold Oper.still at h'
  generalize (execOp a.eval o).run P w = r at *
  cases r with
  | ok n w' =>
    cases n <;> simp only [Oper.stillUpon] at h'
    case value v => obtain ⟨rfl, h2⟩ := h'; exact ⟨v, .inl rfl, h2⟩
    case skip => obtain ⟨rfl, h2⟩ := h'; exact ⟨undef, .inr (.inl ⟨rfl, rfl⟩), h2⟩
    case enter f args => obtain ⟨rfl, v, hc, h2⟩ := h'; exact ⟨v, .inr (.inr ⟨f, args, rfl, hc⟩), h2⟩
  | halt x w' => simp only [Oper.stillUpon] at h'
/-- One that may do anything. -/
theorem wpTxt_effect {K : Act → World → Prop} {o : Oper} {l : List Oper} {a : Act} {w : World} (hg : o.guard = none) (hc : cls calm o = .effect)
    (h : ∀ K' : Act → World → Prop, (∀ a w, wpTxt P calm ops K l a w → K' a w) → o.wp P a w K' FQ) : wpTxt P calm ops K (o :: l) a w := by
  show tOp P calm ops o _ a w
  unfold tOp
  rw [if_pos ⟨by simp [Region.wanted, hg], hc⟩]
  exact h _ fun _ _ h => h
theorem wpTxt_copy_chg {w : World} {K : Act → World → Prop} {rest : List Oper} {o : Oper} {a : Act} (hgd : o.guard = none) (d s : Operand) (dT sT : TypeId)
    (ho : o.op = .call { callee := .builtin .copy, args := #[d, s], argTypes := #[dT, sT] }) (elem : TypeId) (hu : P.underlying dT = some (.slice elem)) (hsz : (P.info? elem).map (·.size) = some 1)
    (dp sp : Option Addr) (dLen dCap sLen sCap : Nat) (hd : a.eval d = .slice dp dLen dCap) (hs : a.eval s = .slice sp sLen sCap)
    (m : Nat) (hm : Nat.min sLen dLen = m) (g off sg soff : Nat) (V : Nat → Value) (hpos : 0 < m → dp = some ⟨g, off, none⟩ ∧ sp = some ⟨sg, soff, none⟩)
    (hsrc : ∀ j, j < m → w.cell? ⟨sg, soff + j, none⟩ = some (V j)) (hdst : ∀ j, j < m → ∃ u, w.cell? ⟨g, off + j, none⟩ = some u) (hfr : ∀ j, j < m → w.frozen? ⟨g, off + j, none⟩ = false)
    (h1 : ∀ j, j < m → (V j).oneCell' = true)
    (h : ∀ w', Chg (fun k x => k = g ∧ off ≤ x ∧ x < off + m) w w' → (∀ j, j < m → w'.cell? ⟨g, off + j, none⟩ = some (V j)) → wpTxt P calm ops K rest (a.put o.dst (.int .i64 m)) w') :
    wpTxt P calm ops K (o :: rest) a w :=
  wpTxt_effect hgd (by simp [cls, ho]) fun _ hK => wp_copy_chg d s dT sT ho elem hu hsz dp sp dLen dCap sLen sCap hd hs m hm g off sg soff V hpos hsrc hdst hfr h1 fun w' h2 h3 => hK _ _ (h w' h2 h3)
end
end Go.Proofs.YtaageikelkcphaaGreatDoor
/- Bits and bytes: plain facts. -/
namespace Go.Proofs.YtaageikelkcphaaGreatDoor
theorem bitB_le (D : Nat → Nat) (i : Nat) : bitB D i < 2 := Nat.mod_lt _ (by omega)
theorem bitsV_lt (D : Nat → Nat) : ∀ (w p : Nat), bitsV D p w < 2 ^ w
  | 0, p => by simp [bitsV]
  | w + 1, p => by
    have h1 := bitsV_lt D w (p + 1)
    have h2 := bitB_le D p
    rw [bitsV, Nat.pow_succ]; omega
theorem bitsV_add (D : Nat → Nat) : ∀ (a p b : Nat), bitsV D p (a + b) = bitsV D p a + 2 ^ a * bitsV D (p + a) b
  | 0, p, b => by simp [bitsV]
  | a + 1, p, b => by
    have ih := bitsV_add D a (p + 1) b
    rw [show a + 1 + b = (a + b) + 1 by omega, bitsV, ih, bitsV, show p + (a + 1) = p + 1 + a by omega, Nat.pow_succ, Nat.mul_add]
    rw [show 2 ^ a * 2 * bitsV D (p + 1 + a) b = 2 * (2 ^ a * bitsV D (p + 1 + a) b) by rw [Nat.mul_comm (2 ^ a) 2, Nat.mul_assoc]]
    omega
theorem bitsV_mod (D : Nat → Nat) (p a b : Nat) : bitsV D p (a + b) % 2 ^ a = bitsV D p a := by
  rw [bitsV_add, Nat.add_mul_mod_self_left, Nat.mod_eq_of_lt (bitsV_lt D a p)]
theorem bitsV_div (D : Nat → Nat) (p a b : Nat) : bitsV D p (a + b) / 2 ^ a = bitsV D (p + a) b := by
  rw [bitsV_add, Nat.add_mul_div_left _ _ (Nat.two_pow_pos a), Nat.div_eq_of_lt (bitsV_lt D a p), Nat.zero_add]
theorem bitsV_in (D : Nat → Nat) (j : Nat) : ∀ (n k : Nat), k + n ≤ 8 → bitsV D (8 * j + k) n = D j / 2 ^ k % 2 ^ n
  | 0, k, _ => by simp [bitsV, Nat.mod_one]
  | n + 1, k, h => by
    have ih := bitsV_in D j n (k + 1) (by omega)
    have e : bitB D (8 * j + k) = D j / 2 ^ k % 2 := by
      unfold bitB
      rw [show (8 * j + k) / 8 = j by omega, show (8 * j + k) % 8 = k by omega]
    rw [bitsV, e, show 8 * j + k + 1 = 8 * j + (k + 1) by omega, ih, Nat.pow_succ 2 k, ← Nat.div_div_eq_div_mul, Nat.pow_succ 2 n, Nat.mul_comm (2 ^ n) 2, Nat.mod_mul]
theorem bitsV_byte (D : Nat → Nat) (hD : ∀ j, D j < 256) (j : Nat) : bitsV D (8 * j) 8 = D j := by
  have := bitsV_in D j 8 0 (by omega)
  rw [Nat.add_zero] at this
  rw [this, Nat.pow_zero, Nat.div_one]
  exact Nat.mod_eq_of_lt (hD j)
theorem leV_bits (D : Nat → Nat) (hD : ∀ j, D j < 256) : ∀ (n o : Nat), leV D o n = bitsV D (8 * o) (8 * n)
  | 0, o => by simp [leV, bitsV]
  | n + 1, o => by
    rw [leV, leV_bits D hD n (o + 1), show 8 * (n + 1) = 8 + 8 * n by omega, bitsV_add, bitsV_byte D hD]
    rw [show 8 * o + 8 = 8 * (o + 1) by omega]
/-- The bits of a buffer of 8 bytes. -/
theorem buf_bits (D : Nat → Nat) (hD : ∀ j, D j < 256) (o f n : Nat) (h : f + n ≤ 64) : leV D o 8 % 2 ^ (f + n) / 2 ^ f = bitsV D (8 * o + f) n := by
  rw [leV_bits D hD, show 8 * 8 = (f + n) + (64 - (f + n)) by omega, bitsV_mod, bitsV_div]
theorem buf_top (D : Nat → Nat) (hD : ∀ j, D j < 256) (o f : Nat) (h : f ≤ 64) : leV D o 8 / 2 ^ f = bitsV D (8 * o + f) (64 - f) := by
  rw [leV_bits D hD, show 8 * 8 = f + (64 - f) by omega, bitsV_div]
theorem buf_low (D : Nat → Nat) (hD : ∀ j, D j < 256) (o n : Nat) (h : n ≤ 64) : leV D o 8 % 2 ^ n = bitsV D (8 * o) n := by
  rw [leV_bits D hD, show 8 * 8 = n + (64 - n) by omega, bitsV_mod]
theorem leV_lt (D : Nat → Nat) (hD : ∀ j, D j < 256) (o n : Nat) : leV D o n < 2 ^ (8 * n) := by
  rw [leV_bits D hD]; exact bitsV_lt _ _ _
theorem bitsV_congr {D E : Nat → Nat} : ∀ {w p : Nat}, (∀ i, p ≤ i → i < p + w → bitB D i = bitB E i) → bitsV D p w = bitsV E p w
  | 0, p, h => rfl
  | w + 1, p, h => by
    rw [bitsV, bitsV, h p (Nat.le_refl _) (by omega), bitsV_congr fun i h1 h2 => h i (by omega) (by omega)]
theorem leV_shift (D : Nat → Nat) (i : Nat) : ∀ (n p : Nat), leV (fun j => D (i + j)) p n = leV D (i + p) n
  | 0, p => rfl
  | n + 1, p => by rw [leV, leV, leV_shift D i n (p + 1), Nat.add_assoc]
end Go.Proofs.YtaageikelkcphaaGreatDoor
