/- Part 6 of the proof: the texts U, joined. What each proves stands ahead of it. -/
import Derived.Test.YtaageikelkcphaaGreatDoorKA
import Derived.Lib.EndianBits
import Derived.Test.YtaageikelkcphaaGreatDoorKB
import Derived.Test.YtaageikelkcphaaGreatDoorKE
set_option linter.unusedVariables false
set_option linter.unusedSimpArgs false
/- A runner for code that takes numbers of 32 bits apart by constants: what it stores, bit by bit; and that it is right. -/
namespace Go.Proofs.YtaageikelkcphaaGreatDoor
open Go Go.RowKit

inductive SV where
  | num (k : IntKind) (n : Int)
  | boo (b : Bool)
  | sym (l : SymV)
  | outW
  | outC
  | outP (i : Nat)
  | inlP
  | rd
/-- Where things lie. -/
structure Gam where
  B : Nat → Nat
  rb : Nat
  ro : Nat
  ob : Nat
  oo : Nat
  olen : Nat
  ocap : Nat
def SV.val (tR : Nat) (G : Gam) (ib : Nat) : SV → Value
  | .num k n => .int k n
  | .boo b => .bool b
  | .sym l => .int .u32 (den G.B l)
  | .outW => .slice (some ⟨G.ob, G.oo, none⟩) G.olen G.ocap
  | .outC => .slice (some ⟨G.ob, G.oo, none⟩) 32 G.ocap
  | .outP i => .pointer (some ⟨G.ob, G.oo + i, none⟩)
  | .inlP => .pointer (some ⟨ib, 0, none⟩)
  | .rd => .iface tR (.pointer (some ⟨G.rb, G.ro, none⟩))
/-- Numbers of types and of a function; how many slots, which are kept, how many words there are. -/
structure Cfg where
  tS : Nat
  tU : Nat
  tR : Nat
  fRL : Nat
  N : Nat
  K : Nat
  M : Nat
structure US where
  env : List (Nat × SV)
  inl : Option SymV
  outs : List (Nat × SymV)
  pos : Nat
def look (env : List (Nat × SV)) : Operand → Option SV
  | .tmp t => env.lookup t
  | .const (.int k n) => some (.num k n)
  | .const (.bool b) => some (.boo b)
  | _ => none
def putD (N : Nat) (s : US) (dst : Option Nat) (v : Option SV) : Option US :=
  match dst with
  | none => some s
  | some d => if d < N then some { s with env := (match v with | some v => [(d, v)] | none => []) ++ s.env.filter (fun p => p.1 != d) } else none
def binS (op : BinOp) (x y : SV) : Option SV :=
  match op, x, y with
  | .shr, .sym l, .num _ n => if 0 ≤ n ∧ n < 32 then some (.sym (l.drop n.toNat)) else none
  | .shl, .sym l, .num _ n => if 0 ≤ n ∧ n < 32 then some (.sym ((List.replicate n.toNat none ++ l).take 32)) else none
  | .rem, .sym l, .num .u32 m => if 0 < m ∧ m = 2 ^ m.toNat.log2 ∧ l.length ≤ 32 then some (.sym (l.take m.toNat.log2)) else none
  | .and, .sym l, .num .u32 m => if m = 1 ∧ l.length ≤ 32 then some (.sym (l.take 1)) else none
  | .or, .sym a, .sym b => if a.length ≤ 32 ∧ b.length ≤ 32 then (zipO a b).map .sym else none
  | .add, .num .i64 a, .num .i64 b => if 0 ≤ a ∧ 0 ≤ b ∧ a + b < 1000 then some (.num .i64 (a + b)) else none
  | .mul, .num .i64 a, .num .i64 b => if 0 ≤ a ∧ 0 ≤ b ∧ a * b < 1000 then some (.num .i64 (a * b)) else none
  | .quo, .num .i64 a, .num .i64 b => if 0 ≤ a ∧ 0 < b ∧ a < 1000 then some (.num .i64 (a / b)) else none
  | .lss, .num .i64 a, .num .i64 b => some (.boo (decide (a < b)))
  | _, _, _ => none
def pureS (c : Cfg) (env : List (Nat × SV)) : Op → Option SV
  | .move x | .assign x => look env x
  | .binOp op _ x y _ => match look env x, look env y with
    | some x, some y => binS op x y
    | _, _ => none
  | .indexAddr t x y => if t = c.tS then match look env x, look env y with
    | some .outW, some (.num .i64 i) => if 0 ≤ i ∧ i < 32 then some (.outP i.toNat) else none
    | some .outC, some (.num .i64 i) => if 0 ≤ i ∧ i < 32 then some (.outP i.toNat) else none
    | _, _ => none
    else none
  | .slice t x none (some y) none => if t = c.tS then match look env x, look env y with
    | some .outW, some (.num .i64 n) => if n = 32 then some .outC else none
    | _, _ => none
    else none
  | .call k => match k.callee, k.args.toList, k.argTypes.toList with
    | .builtin .len, [x], [t] => if t = c.tS then match look env x with
      | some .outC => some (.num .i64 32)
      | _ => none
      else none
    | _, _, _ => none
  | _ => none
def stepS (c : Cfg) (o : Oper) (s : US) : Option US :=
  if o.guard.isSome then none else
  match o.op with
  | .alloc t => if t = c.tU ∧ s.inl = none ∧ s.env.all (fun p => match p.2 with | .inlP => false | _ => true) then putD c.N { s with inl := some [] } o.dst (some .inlP) else none
  | .load t x => if t = c.tU then match look s.env x with
    | some .inlP => match s.inl with | some l => putD c.N s o.dst (some (.sym l)) | none => none
    | some (.outP i) => match s.outs.lookup i with | some l => putD c.N s o.dst (some (.sym l)) | none => none
    | _ => none
    else none
  | .store t x y => if t = c.tU then match look s.env x, look s.env y with
    | some (.outP i), some (.sym l) => if i < 32 then putD c.N { s with outs := (i, l) :: s.outs.filter (fun p => p.1 != i) } o.dst none else none
    | _, _ => none
    else none
  | .call k => match k.callee, k.args.toList with
    | .value (.func f), [x, y] => if f = c.fRL ∧ s.pos < c.M then match look s.env x, look s.env y with
      | some .rd, some .inlP => if s.inl.isSome then putD c.N { s with inl := some (symR (32 * s.pos) 32), pos := s.pos + 1 } o.dst none else none
      | some .rd, some (.outP i) => if i < 32 then putD c.N { s with outs := (i, symR (32 * s.pos) 32) :: s.outs.filter (fun p => p.1 != i), pos := s.pos + 1 } o.dst none else none
      | _, _ => none
      else none
    | _, _ => match pureS c s.env o.op with
      | some v => putD c.N s o.dst (some v)
      | none => none
  | op => match pureS c s.env op with
    | some v => putD c.N s o.dst (some v)
    | none => none
def stepsS (c : Cfg) : List Oper → US → Option US
  | [], s => some s
  | o :: l, s => match stepS c o s with
    | some s => stepsS c l s
    | none => none
inductive EX where
  | normal | exit (id : Nat) | ret
def iterS (f : US → Option (EX × US)) : Nat → US → Option (EX × US)
  | 0, _ => none
  | n + 1, s => match f s with
    | some (.normal, s) => iterS f n s
    | r => r
def keepS (K : Nat) (s : US) : US := { s with env := s.env.filter (fun p => decide (p.1 < K)) }
def execS (c : Cfg) : Code → US → Option (EX × US)
  | .skip, s => some (.normal, s)
  | .label _, s => some (.normal, s)
  | .ret, s => some (.ret, s)
  | .exit id, s => some (.exit id, s)
  | .region _ ops draw, s => if draw && !textB [] ops then none else (stepsS c ops.toList (keepS c.K s)).map fun s => (.normal, s)
  | .seq a b, s => match execS c a s with
    | some (.normal, s) => execS c b s
    | r => r
  | .cond x a b, s => match look s.env x with
    | some (.boo t) => if t then execS c a s else execS c b s
    | _ => none
  | .block id x, s => match execS c x s with
    | some (.exit i, s) => if i = id then some (.normal, s) else some (.exit i, s)
    | r => r
  | .loop x, s => iterS (fun s => execS c x s) 40 s
  | _, _ => none

section
variable {P : Program} {c : Cfg} {G : Gam}
/-- What the slots hold. -/
def EnvOK (c : Cfg) (G : Gam) (ib : Nat) (env : List (Nat × SV)) (a : Act) : Prop := ∀ t v, env.lookup t = some v → a.tmps.getD t undef = v.val c.tR G ib
theorem look_ok {ib : Nat} {env : List (Nat × SV)} {a : Act} (h : EnvOK c G ib env a) {x : Operand} {v : SV} (hl : look env x = some v) : a.eval x = v.val c.tR G ib := by
  cases x with
  | tmp t => exact h t v hl
  | const u => cases u <;> simp [look] at hl <;> subst hl <;> rfl
  | _ => simp [look] at hl
theorem lookup_filter {α : Type} (d t : Nat) (h : t ≠ d) : ∀ (l : List (Nat × α)), (l.filter (fun p => p.1 != d)).lookup t = l.lookup t
  | [] => rfl
  | (k, v) :: l => by
    by_cases hk : k = d
    · subst hk
      have : (t == k) = false := by simpa using h
      simp [List.filter_cons, List.lookup_cons, this, lookup_filter k t h l]
    · simp only [List.filter_cons, bne_iff_ne, ne_eq, hk, not_false_iff, if_true, List.lookup_cons, lookup_filter d t h l]
theorem lookup_filter_self {α : Type} (d : Nat) : ∀ (l : List (Nat × α)), (l.filter (fun p => p.1 != d)).lookup d = none
  | [] => rfl
  | (k, v) :: l => by
    by_cases hk : k = d
    · subst hk; simp [List.filter_cons, lookup_filter_self k l]
    · have : (d == k) = false := by simpa using fun e => hk e.symm
      simp [List.filter_cons, hk, List.lookup_cons, this, lookup_filter_self d l]
theorem lookup_keep {α : Type} (K t : Nat) {v : α} : ∀ (l : List (Nat × α)), (l.filter (fun p => decide (p.1 < K))).lookup t = some v → l.lookup t = some v
  | [], h => h
  | (k, u) :: l, h => by
    by_cases hk : k < K
    · simp only [List.filter_cons, hk, decide_true, if_true, List.lookup_cons] at h ⊢
      split
      · rename_i e; rw [e] at h; exact h
      · rename_i e; rw [e] at h; exact lookup_keep K t l h
    · have h' : (l.filter (fun p => decide (p.1 < K))).lookup t = some v := by simpa [List.filter_cons, hk] using h
      rw [List.lookup_cons]
      have hl := lookup_keep K t l h'
      split
      · rename_i e
        have e' : t = k := by simpa using e
        subst e'
        exfalso
        have : ∀ l : List (Nat × α), (l.filter (fun p => decide (p.1 < K))).lookup t = none := by
          intro l
          induction l with
          | nil => rfl
          | cons p l ih =>
            obtain ⟨p1, p2⟩ := p
            by_cases hp : p1 < K
            · have : (t == p1) = false := by simp; omega
              simp only [List.filter_cons, hp, decide_true, if_true, List.lookup_cons, this]; exact ih
            · simp only [List.filter_cons, hp, decide_false, Bool.false_eq_true, if_false]; exact ih
        rw [this l] at h'; cases h'
      · exact hl
theorem env_put {ib : Nat} {s s' : US} {a : Act} (hN : a.tmps.size = c.N) (h : EnvOK c G ib s.env a) {dst : Option Nat} {v : Option SV} (hp : putD c.N s dst v = some s') {u : Value} (hu : ∀ x, v = some x → u = x.val c.tR G ib) :
    EnvOK c G ib s'.env (a.put dst u) ∧ (a.put dst u).tmps.size = c.N ∧ s'.inl = s.inl ∧ s'.outs = s.outs ∧ s'.pos = s.pos := by
  cases dst with
  | none => simp [putD] at hp; subst hp; exact ⟨h, hN, rfl, rfl, rfl⟩
  | some d =>
    simp only [putD] at hp
    split at hp
    · rename_i hd
      injection hp with hp
      subst hp
      refine ⟨?_, by simpa [Act.put] using hN, rfl, rfl, rfl⟩
      intro t x hx
      by_cases ht : t = d
      · subst ht
        cases v with
        | none => simp only [List.nil_append, lookup_filter_self] at hx; cases hx
        | some y =>
          simp [List.lookup_cons] at hx
          subst hx
          have hd' : t < a.tmps.size := by rw [hN]; exact hd
          simp [Act.put, hd', hu y rfl]
      · have hx' : s.env.lookup t = some x := by
          cases v with
          | none => simpa [lookup_filter d t ht] using hx
          | some y =>
            have e : (t == d) = false := by simpa using ht
            simpa [List.lookup_cons, e, lookup_filter d t ht] using hx
        have := h t x hx'
        have hne : d ≠ t := fun e => ht e.symm
        simpa [Act.put, Array.getElem?_setIfInBounds_ne hne] using this
    · cases hp

theorem ediv_cast (n k : Nat) : ((n : Int) / 2 ^ k) = ((n / 2 ^ k : Nat) : Int) := by
  rw [Int.natCast_ediv]; simp
theorem emod_cast (n k : Nat) : ((n : Int) % 2 ^ k) = ((n % 2 ^ k : Nat) : Int) := by
  rw [Int.natCast_emod]; simp
theorem mul_cast (n k : Nat) : ((n : Int) * 2 ^ k) = ((n * 2 ^ k : Nat) : Int) := by
  rw [Int.natCast_mul]; simp
theorem binS_ok (hB : ∀ i, G.B i < 2) {ib : Nat} {op : BinOp} {x y v : SV} (h : binS op x y = some v) (t : TypeId) (w : World) :
    (binOp op t (x.val c.tR G ib) (y.val c.tR G ib)).run P w = .ok (v.val c.tR G ib) w := by
  unfold binS at h
  split at h
  · rename_i l k n
    split at h
    · rename_i hn
      injection h with h; subst h
      simp only [SV.val, binOp]
      rw [shift_shr .u32 k _ n hn.1 (by show n ≤ 32; omega), ediv_cast, den_drop hB]
      rfl
    · cases h
  · rename_i l k n
    split at h
    · rename_i hn
      injection h with h; subst h
      simp only [SV.val, binOp]
      rw [shift_shl .u32 k _ n hn.1 (by show n ≤ 32; omega), mul_cast, ← den_shl, IntKind.wrap_u32, show (4294967296 : Int) = 2 ^ 32 by rfl, emod_cast, ← den_take hB]
      rfl
    · cases h
  · rename_i l m
    split at h
    · rename_i hn
      injection h with h; subst h
      obtain ⟨h0, h1, h2⟩ := hn
      have hne : m ≠ 0 := by omega
      simp only [SV.val, binOp, Op.intDiv, hne, if_false]
      have e : (Int.tmod (den G.B l : Int) m) = (den G.B (l.take m.toNat.log2) : Int) := by
        generalize m.toNat.log2 = k at h1
        rw [Int.tmod_eq_emod_of_nonneg (by omega), h1, emod_cast, den_take hB]
      simp [e]
    · cases h
  · rename_i l m
    split at h
    · rename_i hn
      injection h with h; subst h
      obtain ⟨rfl, hl⟩ := hn
      have hlt : den G.B l < 2 ^ 32 := Nat.lt_of_lt_of_le (den_lt hB l) (Nat.pow_le_pow_right (by omega) hl)
      have e := (bits_nat .u32 32 (by decide) wraps_u32 (den G.B l) 1 hlt (by decide)).1
      simp only [SV.val, binOp, ne_eq, not_true, if_false, intBits_and]
      rw [show ((1 : Int)) = ((1 : Nat) : Int) by rfl, e, Nat.and_one_is_mod, show (2 : Nat) = 2 ^ 1 by rfl, ← den_take hB]
      rfl
    · cases h
  · rename_i a b
    split at h
    · rename_i hn
      obtain ⟨z, hz, rfl⟩ := Option.map_eq_some_iff.1 h
      have ha : den G.B a < 2 ^ 32 := Nat.lt_of_lt_of_le (den_lt hB a) (Nat.pow_le_pow_right (by omega) hn.1)
      have hb : den G.B b < 2 ^ 32 := Nat.lt_of_lt_of_le (den_lt hB b) (Nat.pow_le_pow_right (by omega) hn.2)
      have e := (bits_nat .u32 32 (by decide) wraps_u32 (den G.B a) (den G.B b) ha hb).2
      simp only [SV.val, binOp, ne_eq, not_true, if_false, intBits_or]
      rw [e, den_or hB a b z hz]
      rfl
    · cases h
  · rename_i a b
    split at h
    · rename_i hn
      injection h with h; subst h
      simp only [SV.val, binOp, ne_eq, not_true, if_false, Op.intArith]
      rw [IntWalk.i64_in (a + b) (by omega)]
      rfl
    · cases h
  · rename_i a b
    split at h
    · rename_i hn
      injection h with h; subst h
      have hm0 : 0 ≤ a * b := Int.mul_nonneg hn.1 hn.2.1
      simp only [SV.val, binOp, ne_eq, not_true, if_false, Op.intArith]
      rw [IntWalk.i64_in (a * b) (by omega)]
      rfl
    · cases h
  · rename_i a b
    split at h
    · rename_i hn
      injection h with h; subst h
      have hne : b ≠ 0 := by omega
      have hd : a / b ≤ a := Int.ediv_le_self _ hn.1
      have hd0 : 0 ≤ a / b := Int.ediv_nonneg hn.1 (by omega)
      simp only [SV.val, binOp, ne_eq, not_true, if_false, Op.intDiv, hne]
      rw [Int.tdiv_eq_ediv_of_nonneg hn.1, IntWalk.i64_in (a / b) (by omega)]
      rfl
    · cases h
  · rename_i a b
    injection h with h; subst h
    simp only [SV.val, binOp, ne_eq, not_true, if_false, Op.intCmp]
    rfl
  · cases h

/-- What is asked of the program's tables. -/
structure TabOK (P : Program) (c : Cfg) : Prop where
  hS : P.underlying c.tS = some (.slice c.tU)
  hU : P.underlying c.tU = some (.int .u32)
  hz : ∃ i, P.info? c.tU = some i ∧ i.size = 1 ∧ i.zero = some (.int .u32 0)
  hf : ∃ fn, P.funcs[c.fRL]? = some fn ∧ (fn.name == "runtime.NumGoroutine") = false ∧ fn.body.isNone = false
theorem binS_op {op : BinOp} {x y v : SV} (h : binS op x y = some v) : op ≠ .eql ∧ op ≠ .neq := by
  unfold binS at h
  constructor <;> (intro e; subst e; simp at h)
theorem pureS_ok (hB : ∀ i, G.B i < 2) (hT : TabOK P c) (hol : 32 ≤ G.olen) (hoc : G.olen ≤ G.ocap) {ib : Nat} {env : List (Nat × SV)} {a : Act} (he : EnvOK c G ib env a) {o : Oper} {v : SV} (h : pureS c env o.op = some v) (w : World) :
    (execOp a.eval o).run P w = .ok (.value (v.val c.tR G ib)) w := by
  obtain ⟨dst, op, type, pos, after, guard⟩ := o
  simp only at h
  obtain ⟨i, hi, hi1, hi0⟩ := hT.hz
  have hEl : P.elem c.tS = c.tU := by simp [Program.elem, hT.hS]
  have hE : P.underlying c.tS = some (.slice (P.elem c.tS)) := by rw [hEl]; exact hT.hS
  unfold pureS at h
  split at h
  · have := look_ok he h; simp [execOp, this]
  · have := look_ok he h; simp [execOp, this]
  · rename_i bop t x y t'
    split at h
    · rename_i vx vy hx hy
      obtain ⟨h1, h2⟩ := binS_op h
      have hr := binS_ok (P := P) (c := c) (ib := ib) hB h t w
      have hg : (eqGuard bop t x y (vx.val c.tR G ib) (vy.val c.tR G ib)).run P w = .ok () w := by
        unfold eqGuard
        cases bop <;> first | rfl | exact absurd rfl h1 | exact absurd rfl h2
      simp [execOp, look_ok he hx, look_ok he hy, hr, hg]
    · cases h
  · rename_i t x y
    split at h
    · rename_i ht
      subst ht
      have key : ∀ (vx : SV) (len : Nat) (k : Int), 32 ≤ len → vx.val c.tR G ib = .slice (some ⟨G.ob, G.oo, none⟩) len G.ocap → look env x = some vx → look env y = some (.num .i64 k) → 0 ≤ k ∧ k < 32 →
          (execOp a.eval { dst := dst, op := .indexAddr c.tS x y, type := type, pos := pos, after := after, guard := guard }).run P w = .ok (.value (.pointer (some ⟨G.ob, G.oo + k.toNat, none⟩))) w := by
        intro vx len k hlen hv hx hy hk
        have hb : 0 ≤ k ∧ k < (len : Int) := ⟨hk.1, by omega⟩
        have ex : a.eval x = _ := (look_ok he hx).trans hv
        have ey : a.eval y = .int .i64 k := look_ok he hy
        simp [execOp, ex, ey, run_indexAt_slice (P := P) w c.tS _ _ _ _ _ hE, hb.1, hb.2, sizeOf, typeInfo, hEl, hi, hi1, addr_add]
      split at h
      · rename_i k hx hy
        split at h
        · rename_i hk
          injection h with h; subst h
          exact key _ _ _ hol rfl hx hy hk
        · cases h
      · rename_i k hx hy
        split at h
        · rename_i hk
          injection h with h; subst h
          exact key _ _ _ (Nat.le_refl _) rfl hx hy hk
        · cases h
      · cases h
    · cases h
  · rename_i t x y
    split at h
    · rename_i ht
      subst ht
      split at h
      · rename_i n hx hy
        split at h
        · rename_i hn
          injection h with h; subst h; subst hn
          have hsl := run_slice_h (P := P) w c.tS (some ⟨G.ob, G.oo, none⟩) G.olen G.ocap hE .i64 32 (by omega) (by omega)
          simp [execOp, look_ok he hx, look_ok he hy, SV.val, run_sliceAt_slice (P := P) w c.tS _ _ _ _ hE, hsl, sliced, sizeOf, typeInfo, hEl, hi, addr_add]
        · cases h
      · cases h
    · cases h
  · rename_i k
    split at h
    · rename_i x t hc ha hat
      split at h
      · rename_i ht
        subst ht
        split at h
        · rename_i hx
          injection h with h; subst h
          obtain ⟨callee, args, argTypes⟩ := k
          simp only at hc ha hat
          obtain rfl : args = #[x] := by rw [← Array.toArray_toList (xs := args), ha]
          obtain rfl : argTypes = #[c.tS] := by rw [← Array.toArray_toList (xs := argTypes), hat]
          subst hc
          simp [execOp, look_ok he hx, SV.val, resolve, invoke, builtin, run_len_slice (P := P) w c.tS _ _ _ _ hE, goInt]
        · cases h
      · cases h
    · cases h
  · cases h

def SS (G : Gam) (k x : Nat) : Prop := (k = G.rb ∧ G.ro ≤ x ∧ x < G.ro + 3) ∨ (k = G.ob ∧ G.oo ≤ x ∧ x < G.oo + 32)
/-- What reading four bytes does: a contract that is handed in. -/
def RLOK (P : Program) (c : Cfg) (G : Gam) (b bo L C : Nat) (D : Nat → Nat) : Prop :=
  ∀ (w : World) (pb po pos : Nat) (pr : Int) (u : Value), Rdr w G.rb G.ro b bo L C (4 * pos : Nat) pr → Bytes w b bo L D → 4 * pos + 4 ≤ L → w.cell? ⟨pb, po, none⟩ = some u → w.frozen? ⟨pb, po, none⟩ = false → pb ≠ G.rb →
    Calls P c.fRL #[.iface c.tR (.pointer (some ⟨G.rb, G.ro, none⟩)), .pointer (some ⟨pb, po, none⟩)] w fun e w' => e = .returned (.tuple #[]) ∧ Chg (fun k x => (k = G.rb ∧ G.ro ≤ x ∧ x < G.ro + 3) ∨ (k = pb ∧ x = po)) w w' ∧
      (∃ pr', Rdr w' G.rb G.ro b bo L C (4 * (pos + 1) : Nat) pr') ∧ w'.cell? ⟨pb, po, none⟩ = some (.int .u32 (leV D (4 * pos) 4))
structure Rel (c : Cfg) (G : Gam) (b bo L C : Nat) (D : Nat → Nat) (w0 : World) (s : US) (a : Act) (w : World) (ib : Nat) : Prop where
  size : a.tmps.size = c.N
  dfr : a.defers = []
  env : EnvOK c G ib s.env a
  chg : Chg (SS G) w0 w
  inl : ∀ l, s.inl = some l → w.cell? ⟨ib, 0, none⟩ = some (.int .u32 (den G.B l)) ∧ w.frozen? ⟨ib, 0, none⟩ = false ∧ w0.heap.size ≤ ib
  outs : ∀ i l, s.outs.lookup i = some l → w.cell? ⟨G.ob, G.oo + i, none⟩ = some (.int .u32 (den G.B l))
  outc : ∀ i, i < 32 → ∃ u, w.cell? ⟨G.ob, G.oo + i, none⟩ = some u
  outf : ∀ i, i < 32 → w.frozen? ⟨G.ob, G.oo + i, none⟩ = false
  rdr : ∃ pr, Rdr w G.rb G.ro b bo L C (4 * s.pos : Nat) pr
/-- What was there at the start. -/
structure Base (G : Gam) (b bo L : Nat) (D : Nat → Nat) (w0 : World) (M : Nat) : Prop where
  data : Data w0 b bo L D
  bits : G.B = bitB D
  brb : b ≠ G.rb
  bob : b ≠ G.ob
  rob : G.rb ≠ G.ob
  rlt : G.rb < w0.heap.size
  olt : G.ob < w0.heap.size
  blt : b < w0.heap.size
  hL : 4 * M ≤ L
  hol : 32 ≤ G.olen
  hoc : G.olen ≤ G.ocap
theorem Base.hB {b bo L M : Nat} {D : Nat → Nat} {w0 : World} (h : Base G b bo L D w0 M) : ∀ i, G.B i < 2 := by rw [h.bits]; exact bitB_le D
theorem Base.bytes {b bo L M : Nat} {D : Nat → Nat} {w0 w : World} (h : Base G b bo L D w0 M) (hc : Chg (SS G) w0 w) : Bytes w b bo L D :=
  h.data.bytes.keep hc (fun j _ hs => by rcases hs with hs | hs; exact h.brb hs.1; exact h.bob hs.1)
theorem word_den {b bo L M : Nat} {D : Nat → Nat} {w0 : World} (h : Base G b bo L D w0 M) (pos : Nat) : leV D (4 * pos) 4 = den G.B (symR (32 * pos) 32) := by
  have := den_symR D 0 32 (32 * pos)
  simp only [Nat.zero_add] at this
  rw [h.bits, leV_bits D h.data.lt, show 8 * (4 * pos) = 32 * pos by omega]
  exact this.symm
variable {b bo L C : Nat} {D : Nat → Nat} {w0 : World} {ops : Array Oper}
/-- A value is laid; nothing else turns. -/
theorem rel_put {s s' : US} {a : Act} {w : World} {ib : Nat} (hr : Rel c G b bo L C D w0 s a w ib) {dst : Option Nat} {v : Option SV} (hp : putD c.N s dst v = some s') {u : Value} (hu : ∀ x, v = some x → u = x.val c.tR G ib) : Rel c G b bo L C D w0 s' (a.put dst u) w ib := by
  obtain ⟨h1, h2, h3, h4, h5⟩ := env_put hr.size hr.env hp hu
  refine ⟨h2, ?_, h1, hr.chg, fun l hl => hr.inl l (by rw [← h3]; exact hl), fun i l hl => hr.outs i l (by rw [← h4]; exact hl), hr.outc, hr.outf, by rw [h5]; exact hr.rdr⟩
  cases dst <;> exact hr.dfr
theorem u32_noagg (hT : TabOK P c) (w : World) : (isAgg c.tU).run P w = .ok false w := by
  simp [isAgg, run_underlying hT.hU]
theorem load_u32 (hT : TabOK P c) {ad : Addr} {u : Value} {w : World} (hu : w.cell? ad = some u) : (Instr.loadAt c.tU (.pointer (some ad))).run P w = .ok u w := by
  simp [Instr.loadAt, Instr.sureAddr, loadVar, u32_noagg hT, run_load, hu]
theorem store_u32 (hT : TabOK P c) {ad : Addr} {u : Value} {n : Int} {w : World} (hu : w.cell? ad = some u) (hf : w.frozen? ad = false) : (Instr.storeAt c.tU (.pointer (some ad)) (.int .u32 n)).run P w = .ok () (w.setCell ad (.int .u32 n)) := by
  obtain ⟨i, hi, hi1, hi0⟩ := hT.hz
  have h0 : ad.add 0 = ad := by simp [Addr.add]
  simp [Instr.storeAt, Instr.sureAddr, storeVar, sizeOf, typeInfo, hi, hi1, Value.cells, storeCells, h0, run_store _ _ _ _ _ (show (Value.int .u32 n).oneCell' = true by rfl), hu, hf]
theorem alloc_u32 (hT : TabOK P c) {w : World} : (Instr.alloc c.tU true (.tuple #[])).run P w = .ok (.pointer (some ⟨w.heap.size, 0, none⟩)) (w.alloc (.cells #[.int .u32 0] c.tU)) := by
  obtain ⟨i, hi, hi1, hi0⟩ := hT.hz
  simp [Instr.alloc, zeroValue, newVar, newRow, typeInfo, hi, hi0, Value.cells]

theorem wanted_none {o : Oper} {a : Act} (hg : o.guard.isSome = false) : Region.wanted o (yielded ops a.tmps) = true := by
  have : o.guard = none := by simpa using hg
  simp [Region.wanted, this]
theorem lookup_set {α : Type} (i k : Nat) (l : α) (outs : List (Nat × α)) (x : α) (h : ((i, l) :: outs.filter (fun p => p.1 != i)).lookup k = some x) : (k = i ∧ x = l) ∨ (k ≠ i ∧ outs.lookup k = some x) := by
  by_cases hk : k = i
  · subst hk
    simp [List.lookup_cons] at h
    exact .inl ⟨rfl, h.symm⟩
  · have e : (k == i) = false := by simpa using hk
    simp only [List.lookup_cons, e, lookup_filter i k hk] at h
    exact .inr ⟨hk, h⟩
theorem stepS_ok (hT : TabOK P c) (hb : Base G b bo L D w0 c.M) (hRL : RLOK P c G b bo L C D) {o : Oper} {s s' : US} {a : Act} {w : World} {ib : Nat} (h : stepS c o s = some s') (hr : Rel c G b bo L C D w0 s a w ib)
    {K : Act → World → Prop} (hK : ∀ a w ib, Rel c G b bo L C D w0 s' a w ib → K a w) : tOp P [] ops o K a w := by
  have hB := hb.hB
  have hpure : ∀ v, cls [] o = .pure → o.guard.isSome = false → pureS c s.env o.op = some v → putD c.N s o.dst (some v) = some s' → tOp P [] ops o K a w := by
    intro v hc hg hv hp
    unfold tOp
    rw [if_neg (by rw [hc]; simp)]
    refine ⟨v.val c.tR G ib, ?_, hK _ _ ib (rel_put hr hp (fun x hx => by injection hx with hx; rw [hx]))⟩
    unfold Good
    rw [if_pos (wanted_none hg), hc]
    exact fun w' => pureS_ok hB hT hb.hol hb.hoc hr.env hv w'
  unfold stepS at h
  split at h
  · cases h
  · rename_i hg
    have hg' : o.guard.isSome = false := by simpa using hg
    obtain ⟨dst, op, type, pos, after, guard⟩ := o
    simp only at h hpure hg'
    split at h
    · -- alloc
      rename_i t
      split at h
      · rename_i ht
        obtain ⟨rfl, hi, hall⟩ := ht
        unfold tOp
        rw [if_pos ⟨wanted_none hg', rfl⟩]
        unfold Oper.wp
        have he : (execOp a.eval { dst := dst, op := .alloc c.tU, type := type, pos := pos, after := after, guard := guard }).run P w = .ok (.value (.pointer (some ⟨w.heap.size, 0, none⟩))) (w.alloc (.cells #[.int .u32 0] c.tU)) := by
          simp [execOp, alloc_u32 hT]
        rw [he]
        have henv : EnvOK c G w.heap.size s.env a := by
          intro t v hv
          rw [hr.env t v hv]
          cases v <;> first | rfl | skip
          exfalso
          have hm : (t, SV.inlP) ∈ s.env := by
            have : ∀ l : List (Nat × SV), l.lookup t = some .inlP → (t, SV.inlP) ∈ l := by
              intro l
              induction l with
              | nil => intro h; cases h
              | cons p l ih =>
                obtain ⟨p1, p2⟩ := p
                intro h
                rw [List.lookup_cons] at h
                split at h
                · rename_i e
                  injection h with h
                  have : t = p1 := by simpa using e
                  subst this; subst h; simp
                · exact List.mem_cons_of_mem _ (ih h)
            exact this _ hv
          have := List.all_eq_true.1 hall _ hm
          simp at this
        have hr' : Rel c G b bo L C D w0 { s with inl := some [] } a (w.alloc (.cells #[.int .u32 0] c.tU)) w.heap.size := by
          have hsz := hr.chg.size
          have hcell : ∀ k x, k < w.heap.size → (w.alloc (.cells #[.int .u32 0] c.tU)).cell? ⟨k, x, none⟩ = w.cell? ⟨k, x, none⟩ := fun k x hk => World.cell?_alloc_lt _ _ ⟨k, x, none⟩ hk
          have hob : G.ob < w.heap.size := Nat.lt_of_lt_of_le hb.olt hsz
          refine ⟨hr.size, hr.dfr, henv, hr.chg.alloc _, ?_, ?_, ?_, ?_, ?_⟩
          · intro l hl
            injection hl with hl
            subst hl
            exact ⟨by simp [den], by simp, hsz⟩
          · intro i l hl; rw [hcell _ _ hob]; exact hr.outs i l hl
          · intro i hi; rw [hcell _ _ hob]; exact hr.outc i hi
          · intro i hi; rw [World.frozen?_alloc_old _ _ ⟨G.ob, _, none⟩ (Nat.ne_of_lt hob)]; exact hr.outf i hi
          · obtain ⟨pr, hp⟩ := hr.rdr
            exact ⟨pr, hp.keep (((Chg.refl (fun _ _ => False) w).alloc _)) (fun _ _ h => h)⟩
        exact hK _ _ _ (rel_put hr' h (fun x hx => by injection hx with hx; rw [← hx]; rfl))
      · cases h
    · -- load
      rename_i t x
      split at h
      · rename_i ht
        subst ht
        have key : ∀ (ad : Addr) (l : SymV), a.eval x = .pointer (some ad) → w.cell? ad = some (.int .u32 (den G.B l)) → putD c.N s dst (some (.sym l)) = some s' → tOp P [] ops { dst := dst, op := .load c.tU x, type := type, pos := pos, after := after, guard := guard } K a w := by
          intro ad l hx hc hp
          unfold tOp
          rw [if_neg (by simp [cls])]
          refine ⟨.int .u32 (den G.B l), ?_, hK _ _ ib (rel_put hr hp (fun x hx => by injection hx with hx; rw [← hx]; rfl))⟩
          unfold Good
          rw [if_pos (wanted_none hg')]
          refine .inl ?_
          simp [execOp, hx, load_u32 hT hc]
        split at h
        · rename_i hx
          split at h
          · rename_i l hl
            exact key ⟨ib, 0, none⟩ l (look_ok hr.env hx) (hr.inl l hl).1 h
          · cases h
        · rename_i i hx
          split at h
          · rename_i l hl
            exact key ⟨G.ob, G.oo + i, none⟩ l (look_ok hr.env hx) (hr.outs i l hl) h
          · cases h
        · cases h
      · cases h
    · -- store
      rename_i t x y
      split at h
      · rename_i ht
        subst ht
        split at h
        · rename_i i l hx hy
          split at h
          · rename_i hi
            obtain ⟨u, hu⟩ := hr.outc i hi
            have hf := hr.outf i hi
            unfold tOp
            rw [if_pos ⟨wanted_none hg', rfl⟩]
            unfold Oper.wp
            have ex : a.eval x = .pointer (some ⟨G.ob, G.oo + i, none⟩) := look_ok hr.env hx
            have ey : a.eval y = .int .u32 (den G.B l) := look_ok hr.env hy
            have he : (execOp a.eval { dst := dst, op := .store c.tU x y, type := type, pos := pos, after := after, guard := guard }).run P w = .ok .skip (w.setCell ⟨G.ob, G.oo + i, none⟩ (.int .u32 (den G.B l))) := by
              simp [execOp, ex, ey, store_u32 hT hu hf]
            rw [he]
            have hob : G.ob < w.heap.size := Nat.lt_of_lt_of_le hb.olt hr.chg.size
            have hother : ∀ k x, ¬ (k = G.ob ∧ x = G.oo + i) → (w.setCell ⟨G.ob, G.oo + i, none⟩ (.int .u32 (den G.B l))).cell? ⟨k, x, none⟩ = w.cell? ⟨k, x, none⟩ :=
              fun k x hk => World.cell?_setCell_other _ ⟨G.ob, G.oo + i, none⟩ ⟨k, x, none⟩ _ (by intro e; injection e with e1 e2; exact hk ⟨e1.symm, e2.symm⟩)
            have hr' : Rel c G b bo L C D w0 { s with outs := (i, l) :: s.outs.filter (fun p => p.1 != i) } a (w.setCell ⟨G.ob, G.oo + i, none⟩ (.int .u32 (den G.B l))) ib := by
              refine ⟨hr.size, hr.dfr, hr.env, hr.chg.setCell _ _ (fun _ => .inr ⟨rfl, by omega, by omega⟩) _, ?_, ?_, ?_, ?_, ?_⟩
              · intro l' hl'
                obtain ⟨h1, h2, h3⟩ := hr.inl l' hl'
                refine ⟨?_, by rw [World.frozen?_setCell]; exact h2, h3⟩
                rw [hother _ _ (fun hk => by have := hb.olt; omega)]
                exact h1
              · intro k l' hl'
                rcases lookup_set i k l s.outs l' hl' with ⟨rfl, rfl⟩ | ⟨hk, hl''⟩
                · exact World.cell?_setCell_same w _ _ hu
                · rw [hother _ _ (fun h => hk (by omega))]; exact hr.outs k l' hl''
              · intro k hk
                by_cases e : k = i
                · subst e; exact ⟨_, World.cell?_setCell_same w _ _ hu⟩
                · rw [hother _ _ (fun h => e (by omega))]; exact hr.outc k hk
              · intro k hk; rw [World.frozen?_setCell]; exact hr.outf k hk
              · obtain ⟨pr, hp⟩ := hr.rdr
                exact ⟨pr, hp.keep ((Chg.refl (fun k x => k = G.ob) w).setCell _ _ (fun _ => rfl) _) (fun _ _ h => hb.rob h)⟩
            exact hK _ _ _ (rel_put hr' h (fun x hx => by cases hx))
          · cases h
        · cases h
      · cases h
    · -- a call
      rename_i k
      obtain ⟨callee, args, argTypes⟩ := k
      split at h
      · rename_i f x y hc ha
        simp only at hc ha
        obtain rfl : args = #[x, y] := by rw [← Array.toArray_toList (xs := args), ha]
        subst hc
        split at h
        · rename_i hf
          obtain ⟨rfl, hpos⟩ := hf
          obtain ⟨pr, hrd⟩ := hr.rdr
          have hL : 4 * s.pos + 4 ≤ L := by have := hb.hL; omega
          have key : ∀ (pb po : Nat) (u : Value), look s.env x = some .rd → a.eval y = .pointer (some ⟨pb, po, none⟩) → w.cell? ⟨pb, po, none⟩ = some u → w.frozen? ⟨pb, po, none⟩ = false → pb ≠ G.rb →
              (∀ w', Chg (fun k x => (k = G.rb ∧ G.ro ≤ x ∧ x < G.ro + 3) ∨ (k = pb ∧ x = po)) w w' → (∃ pr', Rdr w' G.rb G.ro b bo L C (4 * (s.pos + 1) : Nat) pr') → w'.cell? ⟨pb, po, none⟩ = some (.int .u32 (den G.B (symR (32 * s.pos) 32))) → K (a.put dst (.tuple #[])) w') →
              tOp P [] ops { dst := dst, op := .call { callee := .value (.func c.fRL), args := #[x, y], argTypes := argTypes }, type := type, pos := pos, after := after, guard := guard } K a w := by
            intro pb po u hx hy hc hf hne hk
            unfold tOp
            rw [if_pos ⟨wanted_none hg', rfl⟩]
            unfold Oper.wp
            have ex : a.eval x = .iface c.tR (.pointer (some ⟨G.rb, G.ro, none⟩)) := look_ok hr.env hx
            have he : (execOp a.eval { dst := dst, op := .call { callee := .value (.func c.fRL), args := #[x, y], argTypes := argTypes }, type := type, pos := pos, after := after, guard := guard }).run P w = .ok (.enter c.fRL #[.iface c.tR (.pointer (some ⟨G.rb, G.ro, none⟩)), .pointer (some ⟨pb, po, none⟩)]) w := by
              obtain ⟨fn, hfn, hn, hbd⟩ := hT.hf
              have ef : a.eval (.func c.fRL) = .func (.func c.fRL) #[] #[] := rfl
              simp only [execOp, resolve, invoke, ef, Deferred.ofValue, List.map_toArray, List.map_cons, List.map_nil, ex, hy]
              have hn' : ¬ fn.name = "runtime.NumGoroutine" := by simpa using hn
              have hbd' : ¬ fn.body = none := by intro e; rw [e] at hbd; cases hbd
              simp [callFunc, hfn, hn', hbd']
            rw [he]
            refine (hRL w pb po s.pos pr u hrd (hb.bytes hr.chg) hL hc hf hne).mono ?_
            rintro e w' ⟨rfl, hch, hrd', hcell⟩
            exact hk w' hch hrd' (by rw [hcell, word_den hb])
          split at h
          · rename_i hx hy
            split at h
            · rename_i hin
              obtain ⟨l0, hl0⟩ := Option.isSome_iff_exists.1 hin
              obtain ⟨h1, h2, h3⟩ := hr.inl l0 hl0
              refine key ib 0 _ hx (look_ok hr.env hy) h1 h2 (by have := hb.rlt; omega) fun w' hch hrd' hcell => ?_
              have hr' : Rel c G b bo L C D w0 { s with inl := some (symR (32 * s.pos) 32), pos := s.pos + 1 } a w' ib := by
                refine ⟨hr.size, hr.dfr, hr.env, hr.chg.comp hch (fun _ _ _ h => h) (fun k x hk h => by rcases h with h | h; exact .inl h; omega), ?_, ?_, ?_, ?_, hrd'⟩
                · intro l hl
                  injection hl with hl
                  subst hl
                  exact ⟨hcell, (hch.frozen _ _ (World.block_lt_of_cell? w _ h1)).trans h2, h3⟩
                · intro k l hl
                  exact hch.keep (hr.outs k l hl) (by rintro (h | h); exact hb.rob h.1.symm; have := hb.olt; omega)
                · intro k hk
                  obtain ⟨u, hu⟩ := hr.outc k hk
                  exact ⟨u, hch.keep hu (by rintro (h | h); exact hb.rob h.1.symm; have := hb.olt; omega)⟩
                · intro k hk
                  obtain ⟨u, hu⟩ := hr.outc k hk
                  exact (hch.frozen _ _ (World.block_lt_of_cell? w _ hu)).trans (hr.outf k hk)
              exact hK _ _ _ (rel_put hr' h (fun x hx => by cases hx))
            · cases h
          · rename_i i hx hy
            split at h
            · rename_i hi
              obtain ⟨u, hu⟩ := hr.outc i hi
              refine key G.ob (G.oo + i) u hx (look_ok hr.env hy) hu (hr.outf i hi) (fun e => hb.rob e.symm) fun w' hch hrd' hcell => ?_
              have hr' : Rel c G b bo L C D w0 { s with outs := (i, symR (32 * s.pos) 32) :: s.outs.filter (fun p => p.1 != i), pos := s.pos + 1 } a w' ib := by
                refine ⟨hr.size, hr.dfr, hr.env, hr.chg.comp hch (fun _ _ _ h => h) (fun k x hk h => by rcases h with h | h; exact .inl h; exact .inr ⟨h.1, by omega, by omega⟩), ?_, ?_, ?_, ?_, hrd'⟩
                · intro l hl
                  obtain ⟨h1, h2, h3⟩ := hr.inl l hl
                  exact ⟨hch.keep h1 (by rintro (h | h); have := hb.rlt; omega; have := hb.olt; omega), (hch.frozen _ _ (World.block_lt_of_cell? w _ h1)).trans h2, h3⟩
                · intro k l hl
                  rcases lookup_set i k _ s.outs l hl with ⟨rfl, rfl⟩ | ⟨hk, hl'⟩
                  · exact hcell
                  · exact hch.keep (hr.outs k l hl') (by rintro (h | h); exact hb.rob h.1.symm; exact hk (by omega))
                · intro k hk
                  by_cases e : k = i
                  · subst e; exact ⟨_, hcell⟩
                  · obtain ⟨u', hu'⟩ := hr.outc k hk
                    exact ⟨u', hch.keep hu' (by rintro (h | h); exact hb.rob h.1.symm; exact e (by omega))⟩
                · intro k hk
                  obtain ⟨u', hu'⟩ := hr.outc k hk
                  exact (hch.frozen _ _ (World.block_lt_of_cell? w _ hu')).trans (hr.outf k hk)
              exact hK _ _ _ (rel_put hr' h (fun x hx => by cases hx))
            · cases h
          · cases h
        · cases h
      · split at h
        · rename_i v hv
          refine hpure v ?_ hg' hv h
          unfold pureS at hv
          simp only at hv
          split at hv
          · rfl
          · cases hv
        · cases h
    · rename_i hna hnl hns hnc
      split at h
      · rename_i v hv
        refine hpure v ?_ hg' hv h
        unfold pureS at hv
        split at hv <;> first | rfl | cases hv | (exfalso; exact hnc _ rfl)
      · cases h

theorem stepsS_ok (hT : TabOK P c) (hb : Base G b bo L D w0 c.M) (hRL : RLOK P c G b bo L C D) : ∀ (l : List Oper) {s s' : US} {a : Act} {w : World} {ib : Nat}, stepsS c l s = some s' → Rel c G b bo L C D w0 s a w ib →
    ∀ {K : Act → World → Prop}, (∀ a w ib, Rel c G b bo L C D w0 s' a w ib → K a w) → wpTxt P [] ops K l a w
  | [], s, s', a, w, ib, h, hr, K, hK => by injection h with h; subst h; exact hK _ _ _ hr
  | o :: l, s, s', a, w, ib, h, hr, K, hK => by
    simp only [stepsS] at h
    split at h
    · rename_i s1 h1
      exact stepS_ok hT hb hRL h1 hr (fun a w ib hr' => stepsS_ok hT hb hRL l h hr' hK)
    · cases h
theorem rel_keep {s : US} {a : Act} {w : World} {ib : Nat} (K : Nat) (hr : Rel c G b bo L C D w0 s a w ib) : Rel c G b bo L C D w0 (keepS K s) a w ib :=
  ⟨hr.size, hr.dfr, fun t v h => hr.env t v (lookup_keep K t s.env h), hr.chg, hr.inl, hr.outs, hr.outc, hr.outf, hr.rdr⟩
theorem rel_drew {s : US} {a : Act} {w : World} {ib : Nat} (hr : Rel c G b bo L C D w0 s a w ib) : Rel c G b bo L C D w0 s a w.drew ib :=
  ⟨hr.size, hr.dfr, hr.env, hr.chg.drew, hr.inl, hr.outs, hr.outc, hr.outf, let ⟨pr, h⟩ := hr.rdr; ⟨pr, h.drew⟩⟩
def EX.out : EX → Exit
  | .normal => .normal
  | .exit id => .exit id
  | .ret => .ret
theorem iterS_ok {x : Code} {Q : Exit → Act → World → Prop} {ex : EX} {s' : US} {f : US → Option (EX × US)} (hf : ∀ {s : US} {ex : EX} {s' : US} {Q : Exit → Act → World → Prop} {a : Act} {w : World} {ib : Nat}, f s = some (ex, s') → Rel c G b bo L C D w0 s a w ib → (∀ a w ib, Rel c G b bo L C D w0 s' a w ib → Q ex.out a w) → x.wp P Q a w)
    (hQ : ∀ a w ib, Rel c G b bo L C D w0 s' a w ib → Q ex.out a w) : ∀ (n : Nat) {s : US} {a : Act} {w : World} {ib : Nat}, iterS f n s = some (ex, s') → Rel c G b bo L C D w0 s a w ib → Code.rounds P x Q n a w
  | 0, s, a, w, ib, h, hr => by cases h
  | n + 1, s, a, w, ib, h, hr => by
    simp only [iterS] at h
    rw [rounds_succ]
    split at h
    · rename_i s1 h1
      exact hf h1 hr (fun a w ib hr' => iterS_ok hf hQ n h hr')
    · rename_i hne
      refine hf h hr (fun a w ib hr' => ?_)
      have := hQ a w ib hr'
      cases ex with
      | normal => exact absurd h (hne s')
      | exit id => exact this
      | ret => exact this
theorem execS_ok (hm : P.follows .mixedOrders = true) (hT : TabOK P c) (hb : Base G b bo L D w0 c.M) (hRL : RLOK P c G b bo L C D) : ∀ (code : Code) {s : US} {ex : EX} {s' : US} {Q : Exit → Act → World → Prop} {a : Act} {w : World} {ib : Nat},
    execS c code s = some (ex, s') → Rel c G b bo L C D w0 s a w ib → (∀ a w ib, Rel c G b bo L C D w0 s' a w ib → Q ex.out a w) → code.wp P Q a w := by
  intro code
  induction code with
  | skip => intro s ex s' Q a w ib h hr hQ; simp [execS] at h; obtain ⟨rfl, rfl⟩ := h; exact wp_skip (hQ _ _ _ hr)
  | label l => intro s ex s' Q a w ib h hr hQ; simp [execS] at h; obtain ⟨rfl, rfl⟩ := h; exact wp_label (hQ _ _ _ hr)
  | ret => intro s ex s' Q a w ib h hr hQ; simp [execS] at h; obtain ⟨rfl, rfl⟩ := h; exact wp_ret (hQ _ _ _ hr)
  | exit id => intro s ex s' Q a w ib h hr hQ; simp [execS] at h; obtain ⟨rfl, rfl⟩ := h; exact wp_exit (hQ _ _ _ hr)
  | region id ops draw =>
    intro s ex s' Q a w ib h hr hQ
    simp only [execS] at h
    split at h
    · cases h
    · rename_i hd
      obtain ⟨s1, h1, h2⟩ := Option.map_eq_some_iff.1 h
      injection h2 with h2 h3
      subst h2; subst h3
      cases draw with
      | false =>
        refine wp_region_list (wpTxt_list (calm := []) ops.toList a w ?_)
        exact stepsS_ok hT hb hRL _ h1 (rel_keep c.K hr) hQ
      | true =>
        have hB : textB [] ops = true := by simpa using hd
        have := wp_region_txt (P := P) (id := id) (Q := Q) (a := a) (w := w) (l := ops.toList) [] hm (by simpa using hB) (by
          simp only [Array.toArray_toList]
          exact stepsS_ok hT hb hRL _ h1 (rel_keep c.K (rel_drew hr)) hQ)
        simpa using this
  | seq x y ihx ihy =>
    intro s ex s' Q a w ib h hr hQ
    simp only [execS] at h
    refine wp_seq ?_
    split at h
    · rename_i s1 h1
      exact ihx h1 hr (fun a w ib hr' => ihy h hr' hQ)
    · rename_i hne
      refine ihx h hr (fun a w ib hr' => ?_)
      have := hQ a w ib hr'
      cases ex with
      | normal => exact absurd h (hne s')
      | exit id => exact this
      | ret => exact this
  | cond x y z ihy ihz =>
    intro s ex s' Q a w ib h hr hQ
    simp only [execS] at h
    split at h
    · rename_i t ht
      refine wp_cond (t := t) (look_ok hr.env ht) ?_
      cases t with
      | true => exact ihy h hr hQ
      | false => exact ihz h hr hQ
    · cases h
  | block id x ih =>
    intro s ex s' Q a w ib h hr hQ
    simp only [execS] at h
    refine wp_block ?_
    split at h
    · rename_i i s1 h1
      split at h
      · rename_i hi
        subst hi
        injection h with h
        injection h with h2 h3
        subst h2; subst h3
        exact ih h1 hr (fun a w ib hr' => by simp only [EX.out, Exit.inBlock, if_true]; exact hQ a w ib hr')
      · rename_i hi
        injection h with h
        injection h with h2 h3
        subst h2; subst h3
        exact ih h1 hr (fun a w ib hr' => by simp only [EX.out, Exit.inBlock, hi, if_false]; exact hQ a w ib hr')
    · rename_i hne
      refine ih h hr (fun a w ib hr' => ?_)
      have := hQ a w ib hr'
      cases ex with
      | normal => exact this
      | exit id => exact absurd h (hne id s')
      | ret => exact this
  | loop x ih =>
    intro s ex s' Q a w ib h hr hQ
    simp only [execS] at h
    exact wp_loop_rounds 40 (iterS_ok (fun h hr hQ => ih h hr hQ) hQ 40 h hr)
  | _ => intro s ex s' Q a w ib h; simp [execS] at h
/-- Thirty-two numbers of a width lie in the slice. -/
def outOK (wd : Nat) (outs : List (Nat × SymV)) : Bool := (List.range 32).all fun i => match outs.lookup i with
  | some l => l == symR (i * wd) wd
  | none => false

def startS : US := { env := [(0, .rd), (1, .outW)], inl := none, outs := [], pos := 0 }
/-- The code of a function that unpacks 32 numbers of a width: what is to be reckoned. -/
def unpackB (c : Cfg) (wd : Nat) (fn : Func) : Bool := match fn.body with
  | some code => fn.results.isEmpty && fn.ntmps == c.N && decide (2 ≤ c.N) && (match execS c code startS with
    | some (.exit _, _) => false
    | some (_, s) => outOK wd s.outs
    | none => false)
  | none => false
theorem unpack_any (hm : P.follows .mixedOrders = true) (hT : TabOK P c) (hb : Base G b bo L D w0 c.M) (hRL : RLOK P c G b bo L C D) {F : Nat} {fn : Func} (hf : P.funcs[F]? = some fn) {wd : Nat} (hu : unpackB c wd fn = true)
    (hrd : ∃ pr, Rdr w0 G.rb G.ro b bo L C (0 : Nat) pr) (hoc : ∀ i, i < 32 → ∃ u, w0.cell? ⟨G.ob, G.oo + i, none⟩ = some u) (hof : ∀ i, i < 32 → w0.frozen? ⟨G.ob, G.oo + i, none⟩ = false) :
    Calls P F #[.iface c.tR (.pointer (some ⟨G.rb, G.ro, none⟩)), .slice (some ⟨G.ob, G.oo, none⟩) G.olen G.ocap] w0 fun e w' => e = .returned (.tuple #[]) ∧ Chg (SS G) w0 w' ∧ ∀ i, i < 32 → w'.cell? ⟨G.ob, G.oo + i, none⟩ = some (.int .u32 (bitsV D (i * wd) wd)) := by
  unfold unpackB at hu
  split at hu
  · rename_i code hcode
    simp only [Bool.and_eq_true, decide_eq_true_eq, beq_iff_eq] at hu
    obtain ⟨⟨⟨hres, hn⟩, hN⟩, hu⟩ := hu
    refine calls_of_wp hf hcode ?_
    have hres' : fn.results = #[] := by simpa using hres
    have hrel : Rel c G b bo L C D w0 startS { tmps := #[.iface c.tR (.pointer (some ⟨G.rb, G.ro, none⟩)), .slice (some ⟨G.ob, G.oo, none⟩) G.olen G.ocap] ++ Array.replicate (fn.ntmps - 2) undef, defers := [] } w0 0 := by
      refine ⟨by simp; omega, rfl, ?_, Chg.refl _ _, (fun l hl => by cases hl), (fun i l hl => by cases hl), hoc, hof, hrd⟩
      intro t v hv
      simp only [startS, List.lookup_cons] at hv
      split at hv
      · rename_i e
        injection hv with hv; subst hv
        obtain rfl : t = 0 := by simpa using e
        simp only [SV.val, Array.getD_eq_getD_getElem?]
        rw [Array.getElem?_append_left (by simp)]
        rfl
      · split at hv
        · rename_i e
          injection hv with hv; subst hv
          obtain rfl : t = 1 := by simpa using e
          simp only [SV.val, Array.getD_eq_getD_getElem?]
          rw [Array.getElem?_append_left (by simp)]
          rfl
        · cases hv
    have fin : ∀ (s : US), outOK wd s.outs = true → ∀ a w ib, Rel c G b bo L C D w0 s a w ib → Chg (SS G) w0 w ∧ ∀ i, i < 32 → w.cell? ⟨G.ob, G.oo + i, none⟩ = some (.int .u32 (bitsV D (i * wd) wd)) := by
      intro s hs a w ib hr
      refine ⟨hr.chg, fun i hi => ?_⟩
      have h := List.all_eq_true.1 hs i (List.mem_range.2 hi)
      split at h
      · rename_i l hl
        have e : l = symR (i * wd) wd := by simpa using h
        subst e
        rw [hr.outs i _ hl, hb.bits]
        have := den_symR D 0 wd (i * wd)
        simp only [Nat.zero_add] at this
        rw [← this]
      · cases h
    split at hu
    · cases hu
    · rename_i ex s hne hex
      refine execS_ok hm hT hb hRL code hex hrel fun a w ib hr => ?_
      have hfin := fin s hu a w ib hr
      have hret : (results fn a.tmps).run P w = .ok (.tuple #[]) w := results_none hres' a.tmps P w
      cases ex with
      | normal => exact ⟨hr.dfr, _, hret, rfl, hfin⟩
      | ret => exact ⟨hr.dfr, _, hret, rfl, hfin⟩
      | exit id => exact absurd rfl (hne id)
    · cases hu
  · cases hu
end
end Go.Proofs.YtaageikelkcphaaGreatDoor
