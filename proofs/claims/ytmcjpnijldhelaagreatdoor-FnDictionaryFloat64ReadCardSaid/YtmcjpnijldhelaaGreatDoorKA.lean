/- Part 1 of the proof: the texts A, A2, AO, AQ, joined. What each proves stands ahead of it. -/
import Derived.WalkKit
import Derived.WalkSpells
import Derived.WalkLawsBesides
import Derived.Laws.CopyOwn
import Derived.Laws.AppendOwn
import Derived.Laws.AppendOwnNone
set_option linter.unusedVariables false
set_option linter.unusedSimpArgs false
/- Frames of worlds: what a call may have turned; lists of bytes and their bits. No program in sight. -/
namespace Go.Proofs.YtmcjpnijldhelaaGreatDoor
open Go Go.RowKit

/-- Of what was there, only cells in S may have turned; all else stays, the marks stay, the streams stay. -/
structure Chg (S : Nat → Nat → Prop) (w w' : World) : Prop where
  os : w'.os = w.os
  tape : w'.tape = w.tape
  output : w'.output = w.output
  size : w.heap.size ≤ w'.heap.size
  block : ∀ k, k < w.heap.size → (∀ o, ¬ S k o) → w'.heap[k]? = w.heap[k]?
  cell : ∀ k o, k < w.heap.size → ¬ S k o → w'.cell? ⟨k, o, none⟩ = w.cell? ⟨k, o, none⟩
  frozen : ∀ k o, k < w.heap.size → w'.frozen? ⟨k, o, none⟩ = w.frozen? ⟨k, o, none⟩

theorem Chg.refl (S : Nat → Nat → Prop) (w : World) : Chg S w w := ⟨rfl, rfl, rfl, Nat.le_refl _, fun _ _ _ => rfl, fun _ _ _ _ => rfl, fun _ _ _ => rfl⟩
theorem Chg.trans {S : Nat → Nat → Prop} {a b c : World} (h : Chg S a b) (k : Chg S b c) : Chg S a c :=
  ⟨k.os.trans h.os, k.tape.trans h.tape, k.output.trans h.output, Nat.le_trans h.size k.size,
   fun i hi hS => (k.block i (Nat.lt_of_lt_of_le hi h.size) hS).trans (h.block i hi hS),
   fun i o hi hS => (k.cell i o (Nat.lt_of_lt_of_le hi h.size) hS).trans (h.cell i o hi hS),
   fun i o hi => (k.frozen i o (Nat.lt_of_lt_of_le hi h.size)).trans (h.frozen i o hi)⟩
/-- What lies in new blocks needs no leave. -/
theorem Chg.widen {S S' : Nat → Nat → Prop} {n : Nat} {w w' : World} (h : Chg S w w') (hn : w.heap.size ≤ n) (hS : ∀ k o, k < n → S k o → S' k o) : Chg S' w w' :=
  ⟨h.os, h.tape, h.output, h.size,
   fun k hk hk' => h.block k hk (fun o ho => hk' o (hS k o (by omega) ho)),
   fun k o hk hk' => h.cell k o hk (fun ho => hk' (hS k o (by omega) ho)), h.frozen⟩
theorem Chg.mono {S S' : Nat → Nat → Prop} {w w' : World} (h : Chg S w w') (hS : ∀ k o, k < w.heap.size → S k o → S' k o) : Chg S' w w' := h.widen (Nat.le_refl _) hS
theorem Chg.comp {S S' T : Nat → Nat → Prop} {a b c : World} (h : Chg S a b) (k : Chg S' b c) (h1 : ∀ k o, k < a.heap.size → S k o → T k o) (h2 : ∀ k o, k < a.heap.size → S' k o → T k o) : Chg T a c :=
  ⟨k.os.trans h.os, k.tape.trans h.tape, k.output.trans h.output, Nat.le_trans h.size k.size,
   fun i hi hS => (k.block i (Nat.lt_of_lt_of_le hi h.size) (fun o ho => hS o (h2 i o hi ho))).trans (h.block i hi (fun o ho => hS o (h1 i o hi ho))),
   fun i o hi hS => (k.cell i o (Nat.lt_of_lt_of_le hi h.size) (fun ho => hS (h2 i o hi ho))).trans (h.cell i o hi (fun ho => hS (h1 i o hi ho))),
   fun i o hi => (k.frozen i o (Nat.lt_of_lt_of_le hi h.size)).trans (h.frozen i o hi)⟩
theorem Chg.drew {S : Nat → Nat → Prop} {a w : World} (h : Chg S a w) : Chg S a w.drew := ⟨h.os, h.tape, h.output, h.size, h.block, h.cell, h.frozen⟩
theorem Chg.undrew {S : Nat → Nat → Prop} {a w : World} (h : Chg S a.drew w) : Chg S a w := ⟨h.os, h.tape, h.output, h.size, h.block, h.cell, h.frozen⟩
theorem Chg.drewN {S : Nat → Nat → Prop} {a w : World} (h : Chg S a w) (n : Nat) : Chg S a (w.drewN n) := ⟨h.os, h.tape, h.output, h.size, h.block, h.cell, h.frozen⟩
theorem Chg.alloc {S : Nat → Nat → Prop} {a w : World} (h : Chg S a w) (o : Obj) : Chg S a (w.alloc o) :=
  h.trans ⟨rfl, rfl, rfl, by simp, fun k hk _ => Below.heap_alloc _ _ _ hk,
    fun k i hk _ => World.cell?_alloc_lt _ _ ⟨k, i, none⟩ hk, fun k i hk => World.frozen?_alloc_old _ _ ⟨k, i, none⟩ (by show k ≠ _; omega)⟩
theorem Chg.setCell {S : Nat → Nat → Prop} {a w : World} (h : Chg S a w) (b i : Nat) (hS : b < a.heap.size → S b i) (v : Value) : Chg S a (w.setCell ⟨b, i, none⟩ v) :=
  ⟨h.os, h.tape, h.output, by simpa using h.size,
   fun k hk hn => (Below.heap_setCell _ _ _ _ (by show k ≠ b; intro e; subst e; exact hn i (hS hk))).trans (h.block k hk hn),
   fun k o hk hn => (World.cell?_setCell_other _ ⟨b, i, none⟩ ⟨k, o, none⟩ _ (by intro e; injection e with e1 e2; subst e1; subst e2; exact hn (hS hk))).trans (h.cell k o hk hn),
   fun k o hk => (by rw [World.frozen?_setCell]; exact h.frozen k o hk)⟩
theorem Chg.keep {S : Nat → Nat → Prop} {w w' : World} (h : Chg S w w') {k o : Nat} {v : Value} (hc : w.cell? ⟨k, o, none⟩ = some v) (hS : ¬ S k o) : w'.cell? ⟨k, o, none⟩ = some v :=
  (h.cell k o (World.block_lt_of_cell? w _ hc) hS).trans hc
theorem Chg.below {S : Nat → Nat → Prop} {w w' : World} (h : Chg S w w') {B : Nat} (hB : B ≤ w.heap.size) (hS : ∀ k o, k < B → ¬ S k o) : Below B w w' :=
  ⟨h.os, h.tape, h.output, h.size, fun k hk => h.block k (by omega) (fun o => hS k o hk)⟩
theorem Chg.lt {S : Nat → Nat → Prop} {w w' : World} (h : Chg S w w') {k : Nat} (hk : k < w.heap.size) : k < w'.heap.size := Nat.lt_of_lt_of_le hk h.size

theorem Chg.unalloc {S T : Nat → Nat → Prop} {w w' : World} {o : Obj} (h : Chg S (w.alloc o) w') (hS : ∀ k x, k < w.heap.size → S k x → T k x) : Chg T w w' := ((Chg.refl T w).alloc o).comp h (fun _ _ _ h => h) hS
def Nix : Nat → Nat → Prop := fun _ _ => False
theorem Chg.new (w : World) (o : Obj) : Chg Nix w (w.alloc o) := (Chg.refl _ _).alloc _
theorem cell_alloc {w : World} {k x : Nat} {v : Value} (o : Obj) (h : w.cell? ⟨k, x, none⟩ = some v) : (w.alloc o).cell? ⟨k, x, none⟩ = some v := (Chg.new w o).keep h id
theorem frozen_alloc {w : World} {k x : Nat} (o : Obj) (hk : k < w.heap.size) (h : w.frozen? ⟨k, x, none⟩ = false) : (w.alloc o).frozen? ⟨k, x, none⟩ = false := ((Chg.new w o).frozen k x hk).trans h
/-- n cells from (b, off) on hold bytes D 0, D 1, .. -/
def Bytes (w : World) (b off n : Nat) (D : Nat → Nat) : Prop := ∀ j, j < n → w.cell? ⟨b, off + j, none⟩ = some (.int .u8 (D j))
theorem Bytes.keep {w w' : World} {b off n : Nat} {D : Nat → Nat} (h : Bytes w b off n D) {S : Nat → Nat → Prop} (hc : Chg S w w') (hS : ∀ j, j < n → ¬ S b (off + j)) : Bytes w' b off n D :=
  fun j hj => hc.keep (h j hj) (hS j hj)
theorem Bytes.sub {w : World} {b off n : Nat} {D : Nat → Nat} (h : Bytes w b off n D) (i m : Nat) (him : i + m ≤ n) : Bytes w b (off + i) m (fun j => D (i + j)) :=
  fun j hj => by have := h (i + j) (by omega); rwa [← Nat.add_assoc] at this

/-- A bytes.Reader at (rb, ro) over L bytes from (b, bo) on, at place i. -/
structure Rdr (w : World) (rb ro b bo L C : Nat) (i pr : Int) : Prop where
  s : w.cell? ⟨rb, ro, none⟩ = some (.slice (some ⟨b, bo, none⟩) L C)
  i : w.cell? ⟨rb, ro + 1, none⟩ = some (.int .i64 i)
  p : w.cell? ⟨rb, ro + 2, none⟩ = some (.int .i64 pr)
  f : ∀ j, j < 3 → w.frozen? ⟨rb, ro + j, none⟩ = false
theorem Rdr.lt {w : World} {rb ro b bo L C : Nat} {i pr : Int} (h : Rdr w rb ro b bo L C i pr) : rb < w.heap.size := World.block_lt_of_cell? w _ h.s
theorem Rdr.keep {w w' : World} {rb ro b bo L C : Nat} {i pr : Int} (h : Rdr w rb ro b bo L C i pr) {S : Nat → Nat → Prop} (hc : Chg S w w') (hS : ∀ j, j < 3 → ¬ S rb (ro + j)) : Rdr w' rb ro b bo L C i pr :=
  ⟨hc.keep h.s (hS 0 (by omega)), hc.keep h.i (hS 1 (by omega)), hc.keep h.p (hS 2 (by omega)), fun j hj => (hc.frozen _ _ h.lt).trans (h.f j hj)⟩
theorem Rdr.drew {w : World} {rb ro b bo L C : Nat} {i pr : Int} (h : Rdr w rb ro b bo L C i pr) : Rdr w.drew rb ro b bo L C i pr := ⟨h.s, h.i, h.p, h.f⟩
/-- L bytes from (b, bo) on; behind them D is 0. -/
structure Data (w : World) (b bo L : Nat) (D : Nat → Nat) : Prop where
  bytes : Bytes w b bo L D
  lt : ∀ j, D j < 256
  z : ∀ j, L ≤ j → D j = 0
theorem Data.keep {w w' : World} {b bo L : Nat} {D : Nat → Nat} (h : Data w b bo L D) {S : Nat → Nat → Prop} (hc : Chg S w w') (hS : ∀ j, j < L → ¬ S b (bo + j)) : Data w' b bo L D := ⟨h.bytes.keep hc hS, h.lt, h.z⟩
theorem Data.drew {w : World} {b bo L : Nat} {D : Nat → Nat} (h : Data w b bo L D) : Data w.drew b bo L D := ⟨h.bytes, h.lt, h.z⟩
theorem Rdr.alloc {w : World} {rb ro b bo L C : Nat} {i pr : Int} (h : Rdr w rb ro b bo L C i pr) (o : Obj) : Rdr (w.alloc o) rb ro b bo L C i pr := h.keep (Chg.new w o) (fun _ _ h => h)
theorem Bytes.alloc {w : World} {b off n : Nat} {D : Nat → Nat} (h : Bytes w b off n D) (o : Obj) : Bytes (w.alloc o) b off n D := h.keep (Chg.new w o) (fun _ _ h => h)
theorem Data.alloc {w : World} {b bo L : Nat} {D : Nat → Nat} (h : Data w b bo L D) (o : Obj) : Data (w.alloc o) b bo L D := h.keep (Chg.new w o) (fun _ _ h => h)
/-- Bit i of bytes. -/
def bitB (D : Nat → Nat) (i : Nat) : Nat := D (i / 8) / 2 ^ (i % 8) % 2
/-- The number of w bits from bit p on, the lowest first. -/
def bitsV (D : Nat → Nat) (p : Nat) : Nat → Nat
  | 0 => 0
  | w + 1 => bitB D p + 2 * bitsV D (p + 1) w
/-- Little-endian bytes. -/
def leV (D : Nat → Nat) (p : Nat) : Nat → Nat
  | 0 => 0
  | n + 1 => D p + 256 * leV D (p + 1) n
end Go.Proofs.YtmcjpnijldhelaaGreatDoor
/- The built-in copy, stores of a row, by cells alone. Over any program. -/
namespace Go.Proofs.YtmcjpnijldhelaaGreatDoor
open Go Go.RowKit
section
variable {P : Program}
theorem addr_add (g o i : Nat) : (⟨g, o, none⟩ : Addr).add i = ⟨g, o + i, none⟩ := by unfold Addr.add; split <;> simp_all

theorem callFunc_enter {F : Nat} {fn : Func} (hf : P.funcs[F]? = some fn) (hn : (fn.name == "runtime.NumGoroutine") = false) (hb : fn.body.isNone = false) (args : Array Value) (w : World) : (callFunc F args).run P w = .ok (.enter F args) w := by
  have hn' : ¬ fn.name = "runtime.NumGoroutine" := by simpa using hn
  have hb' : ¬ fn.body = none := by intro e; rw [e] at hb; cases hb
  simp [callFunc, hf, hn', hb']
theorem run_storeCells_chg (g o : Nat) : ∀ (vs : List Value) (i : Nat) (w : World),
    (∀ j, j < vs.length → ∃ u, w.cell? ⟨g, o + i + j, none⟩ = some u) → (∀ j, j < vs.length → w.frozen? ⟨g, o + i + j, none⟩ = false) → (∀ v ∈ vs, v.oneCell' = true) →
    ∃ w', (storeCells ⟨g, o, none⟩ vs i).run P w = .ok () w' ∧ Chg (fun k x => k = g ∧ o + i ≤ x ∧ x < o + i + vs.length) w w' ∧ (∀ j v, vs[j]? = some v → w'.cell? ⟨g, o + i + j, none⟩ = some v)
  | [], i, w, _, _, _ => ⟨w, rfl, Chg.refl _ _, fun j v h => by simp at h⟩
  | v :: rest, i, w, hc, hf, h1 => by
    obtain ⟨u, hu⟩ := hc 0 (by simp)
    have hf0 := hf 0 (by simp)
    simp only [Nat.add_zero] at hu hf0
    have hst : (store ((⟨g, o, none⟩ : Addr).add i) v).run P w = .ok () (w.setCell ⟨g, o + i, none⟩ v) := by
      rw [addr_add, run_store P w _ v _ (h1 v (by simp)), hu]
      simp [hf0]
    have hblk := World.block_lt_of_cell? w _ hu
    have hc1 : Chg (fun k x => k = g ∧ o + i ≤ x ∧ x < o + i + (rest.length + 1)) w (w.setCell ⟨g, o + i, none⟩ v) := (Chg.refl _ _).setCell g (o + i) (fun _ => ⟨rfl, Nat.le_refl _, by omega⟩) v
    have ih := run_storeCells_chg g o rest (i + 1) (w.setCell ⟨g, o + i, none⟩ v)
      (fun j hj => by
        obtain ⟨u', hu'⟩ := hc (j + 1) (by simp; omega)
        refine ⟨u', ?_⟩
        rw [World.cell?_setCell_other _ ⟨g, o + i, none⟩ ⟨g, o + (i + 1) + j, none⟩ _ (by intro e; injection e; omega)]
        rw [← hu']; congr 2; omega)
      (fun j hj => by
        rw [World.frozen?_setCell]
        have := hf (j + 1) (by simp; omega)
        rw [← this]; congr 2; omega)
      (fun x hx => h1 x (by simp [hx]))
    obtain ⟨w', hr, hch, hv⟩ := ih
    refine ⟨w', ?_, ?_, ?_⟩
    · simp only [storeCells, Sem.run_bind, hst, Result.andThen_ok, hr]
    · refine hc1.comp hch (fun k x _ h => ⟨h.1, h.2.1, by simp only [List.length_cons]; omega⟩) (fun k x _ h => ⟨h.1, by omega, by simp only [List.length_cons]; omega⟩)
    · intro j x hx
      cases j with
      | zero =>
        simp at hx; subst hx
        simp only [Nat.add_zero]
        refine (hch.cell g (o + i) (by simpa using hblk) (by intro h; omega)).trans ?_
        exact World.cell?_setCell_same w _ _ hu
      | succ j =>
        simp at hx
        have := hv j x hx
        rw [← this]; congr 2; omega

/-- copy(dst, src): m cells. -/
theorem wp_copy_chg {w : World} {o : Oper} {a : Act} {K : Act → World → Prop} {Q : Exit → Act → World → Prop} (d s : Operand) (dT sT : TypeId)
    (ho : o.op = .call { callee := .builtin .copy, args := #[d, s], argTypes := #[dT, sT] }) (elem : TypeId) (hu : P.underlying dT = some (.slice elem)) (hsz : (P.info? elem).map (·.size) = some 1)
    (dp sp : Option Addr) (dLen dCap sLen sCap : Nat) (hd : a.eval d = .slice dp dLen dCap) (hs : a.eval s = .slice sp sLen sCap)
    (m : Nat) (hm : Nat.min sLen dLen = m) (g off sg soff : Nat) (V : Nat → Value) (hpos : 0 < m → dp = some ⟨g, off, none⟩ ∧ sp = some ⟨sg, soff, none⟩)
    (hsrc : ∀ j, j < m → w.cell? ⟨sg, soff + j, none⟩ = some (V j)) (hdst : ∀ j, j < m → ∃ u, w.cell? ⟨g, off + j, none⟩ = some u) (hfr : ∀ j, j < m → w.frozen? ⟨g, off + j, none⟩ = false)
    (h1 : ∀ j, j < m → (V j).oneCell' = true)
    (h : ∀ w', Chg (fun k x => k = g ∧ off ≤ x ∧ x < off + m) w w' → (∀ j, j < m → w'.cell? ⟨g, off + j, none⟩ = some (V j)) → K (a.put o.dst (.int .i64 m)) w') :
    o.wp P a w K Q := by
  by_cases h0 : m = 0
  · subst h0
    have hrun := run_copy_none (P := P) w dT sT o.type elem dp sp dLen dCap sLen sCap hu hsz hm
    unfold Oper.wp
    simp [execOp, ho, resolve, invoke, builtin, hd, hs, hrun, Result.andThen]
    exact h w (Chg.refl _ _) (fun j hj => by omega)
  · obtain ⟨rfl, rfl⟩ := hpos (by omega)
    have hnews : ∀ j v, ((List.range m).map V)[j]? = some v → w.cell? ((⟨sg, soff, none⟩ : Addr).add j) = some v := by
      intro j v hv
      rw [addr_add]
      have hj : j < m := by
        have := (List.getElem?_eq_some_iff.1 hv).1
        simpa using this
      rw [hsrc j hj]
      simpa [hj] using hv
    obtain ⟨w', hr, hch, hv⟩ := run_storeCells_chg (P := P) g off ((List.range m).map V) 0 w (fun j hj => by simpa using hdst j (by simpa using hj)) (fun j hj => by simpa using hfr j (by simpa using hj))
      (fun v hv => by
        obtain ⟨j, hj, rfl⟩ := List.mem_map.1 hv
        exact h1 j (List.mem_range.1 hj))
    have hf := run_firstCells_some (P := P) w 1 m ⟨sg, soff, none⟩ sLen sCap ((List.range m).map V) (by simp) hnews
    obtain ⟨i, hi, hi1⟩ := Option.map_eq_some_iff.1 hsz
    have hrun : (Builtin.copy_ #[dT, sT] o.type #[.slice (some ⟨g, off, none⟩) dLen dCap, .slice (some ⟨sg, soff, none⟩) sLen sCap]).run P w = .ok (goInt m) w' := by
      simp only [Builtin.copy_]
      simp [run_underlying hu, sizeOf, typeInfo, hi, hi1, Builtin.lenOf, hm, hf, hr]
    unfold Oper.wp
    simp [execOp, ho, resolve, invoke, builtin, hd, hs, hrun, Result.andThen]
    refine h w' ?_ ?_
    · simpa using hch
    · intro j hj
      have := hv j (V j) (by simp [hj])
      simpa using this
theorem wpList_copy_chg {w : World} {ops : Array Oper} {rest : List Oper} {o : Oper} {a : Act} {Q : Exit → Act → World → Prop} (hgd : o.guard = none) (d s : Operand) (dT sT : TypeId)
    (ho : o.op = .call { callee := .builtin .copy, args := #[d, s], argTypes := #[dT, sT] }) (elem : TypeId) (hu : P.underlying dT = some (.slice elem)) (hsz : (P.info? elem).map (·.size) = some 1)
    (dp sp : Option Addr) (dLen dCap sLen sCap : Nat) (hd : a.eval d = .slice dp dLen dCap) (hs : a.eval s = .slice sp sLen sCap)
    (m : Nat) (hm : Nat.min sLen dLen = m) (g off sg soff : Nat) (V : Nat → Value) (hpos : 0 < m → dp = some ⟨g, off, none⟩ ∧ sp = some ⟨sg, soff, none⟩)
    (hsrc : ∀ j, j < m → w.cell? ⟨sg, soff + j, none⟩ = some (V j)) (hdst : ∀ j, j < m → ∃ u, w.cell? ⟨g, off + j, none⟩ = some u) (hfr : ∀ j, j < m → w.frozen? ⟨g, off + j, none⟩ = false)
    (h1 : ∀ j, j < m → (V j).oneCell' = true)
    (h : ∀ w', Chg (fun k x => k = g ∧ off ≤ x ∧ x < off + m) w w' → (∀ j, j < m → w'.cell? ⟨g, off + j, none⟩ = some (V j)) → wpList P ops Q rest (a.put o.dst (.int .i64 m)) w') :
    wpList P ops Q (o :: rest) a w :=
  wpList_plain hgd fun _ hK => wp_copy_chg d s dT sT ho elem hu hsz dp sp dLen dCap sLen sCap hd hs m hm g off sg soff V hpos hsrc hdst hfr h1 fun w' h2 h3 => hK _ _ (h w' h2 h3)
end
end Go.Proofs.YtmcjpnijldhelaaGreatDoor
/- Appends to a row of one's own, with all that stays told. Over any program. -/
namespace Go.Proofs.YtmcjpnijldhelaaGreatDoor
open Go Go.RowKit
section
variable {P : Program}
/-- xs are v's cells, one each, in a block from base on. -/
def Own1 (w : World) (base : Nat) (e : TypeId) (v : Value) (xs : List Value) : Prop := w.ownsRow base e 1 v xs.length xs
theorem Own1.nil (w : World) (base : Nat) (e : TypeId) : Own1 w base e (.slice none 0 0) [] := World.ownsRow_nil w base e 1
theorem Own1.keep {w w' : World} {base : Nat} {e : TypeId} {v : Value} {xs : List Value} (h : Own1 w base e v xs) {S : Nat → Nat → Prop} (hc : Chg S w w') (hS : ∀ g, base ≤ g → ∀ o, ¬ S g o) : Own1 w' base e v xs := by
  refine ⟨h.1, ?_⟩
  rcases h.2 with hn | ⟨g, cap, cur, hv, hb, hg, rest⟩
  · exact .inl hn
  · exact .inr ⟨g, cap, cur, hv, hb, (hc.block g (Array.getElem?_eq_some_iff.1 hg).1 (hS g hb)).trans hg, rest⟩
theorem Own1.keepAt {w w' : World} {base : Nat} {e : TypeId} {v : Value} {xs : List Value} (h : Own1 w base e v xs) {S : Nat → Nat → Prop} (hc : Chg S w w') (hS : ∀ g, v.ownBlock = some g → ∀ o, ¬ S g o) : Own1 w' base e v xs := by
  refine ⟨h.1, ?_⟩
  rcases h.2 with hn | ⟨g, cap, cur, rfl, hb, hg, rest⟩
  · exact .inl hn
  · exact .inr ⟨g, cap, cur, rfl, hb, (hc.block g (Array.getElem?_eq_some_iff.1 hg).1 (hS g rfl)).trans hg, rest⟩
theorem Own1.lt {w : World} {base : Nat} {e : TypeId} {v : Value} {xs : List Value} (h : Own1 w base e v xs) (g : Nat) (hg : v.ownBlock = some g) : base ≤ g ∧ g < w.heap.size := World.ownsRow.lt h g hg
/-- A slice that reads as a list of values. -/
def Reads (w : World) (v : Value) (xs : List Value) : Prop := ∃ p c, v = .slice p xs.length c ∧ (xs = [] ∨ ∃ g o, p = some ⟨g, o, none⟩ ∧ ∀ j u, xs[j]? = some u → w.cell? ⟨g, o + j, none⟩ = some u)
theorem Own1.reads {w : World} {base : Nat} {e : TypeId} {v : Value} {xs : List Value} (h : Own1 w base e v xs) : Reads w v xs := by
  rcases h.2 with ⟨rfl, hn⟩ | ⟨g, cap, cur, rfl, hb, hg, rest⟩
  · exact ⟨none, 0, by rw [hn], .inl (List.eq_nil_of_length_eq_zero hn)⟩
  · refine ⟨_, cap, rfl, .inr ⟨g, 0, rfl, fun j u hu => ?_⟩⟩
    have := World.ownsRow.cells h (g := g) rfl j u hu
    rwa [addr_add] at this
theorem chg_setRow {w : World} {g : Nat} {old : Array Value} {e : TypeId} (cs : Array Value) (hg : w.heap[g]? = some (.cells old e (0, 0))) : Chg (fun k _ => k = g) w (w.setRow g cs) := by
  refine ⟨rfl, rfl, rfl, by simp [World.setRow], fun k _ hn => setRow_other w g k cs (fun e => hn 0 e), fun k o _ hn => cell_setRow_other w g cs ⟨k, o, none⟩ hn, fun k o hk => ?_⟩
  unfold World.frozen?
  by_cases hkg : k = g
  · subst hkg
    simp only [setRow_heap w k old cs e (0, 0) hg, hg]
  · simp only [setRow_other w g k cs hkg]
end
end Go.Proofs.YtmcjpnijldhelaaGreatDoor
/- Appends to a row of one's own: where the row lies behind it. From AO. Over any program. -/
namespace Go.Proofs.YtmcjpnijldhelaaGreatDoor
open Go Go.RowKit
section
variable {P : Program}
/-- The row lies where it lay, or in a new block. -/
def Stays (w : World) (v v' : Value) : Prop := ∀ k, v'.ownBlock = some k → v.ownBlock = some k ∨ w.heap.size ≤ k
theorem stays_new (w : World) (v : Value) (g n c : Nat) (h : w.heap.size ≤ g) : Stays w v (.slice (some ⟨g, 0, none⟩) n c) := by
  intro k hk
  simp only [Value.ownBlock] at hk
  injection hk with hk
  subst hk
  exact .inr h
theorem run_append_own (w : World) (base : Nat) (t ty e : TypeId) (i : TypeInfo) (z : Value) (bytes : Nat) (ht : P.underlying t = some (.slice e)) (hi : P.info? e = some i) (hz : i.zero = some z)
    (hsize : i.size = 1) (hby : i.bytes = bytes) (hzs : z.cells.size = 1)
    (v : Value) (xs : List Value) (hown : Own1 w base e v xs)
    (x : Value) (news : List Value) (hx : Reads w x news) (h1 : ∀ u ∈ news, u.oneCell' = true)
    (h63 : xs.length + news.length ≤ maxLen) (hbytes : (xs.length + news.length) * bytes ≤ 140737488355328) (hbase : base ≤ w.heap.size) :
    ∃ v' w', (Builtin.append_ #[t, t] ty #[v, x]).run P w = .ok v' w' ∧ Own1 w' base e v' (xs ++ news) ∧ Chg (fun k _ => v.ownBlock = some k) w w' ∧ Stays w v v' := by
  obtain ⟨p, c, rfl, hp⟩ := hx
  by_cases hnil : news = []
  · subst hnil
    rw [List.append_nil]
    refine ⟨v, w, ?_, hown, Chg.refl _ _, fun k hk => .inl hk⟩
    rcases hown.2 with ⟨rfl, hn⟩ | ⟨g, cap, cur, rfl, hbg, hg, hnc, hcm, hcs, htake⟩
    · simp [Builtin.append_, run_underlying ht, sizeOf, typeInfo, hi, Builtin.lenOf, Builtin.firstCells, loadCells, loadCellsFrom]
      cases p <;> simp [loadCells, loadCellsFrom]
    · simp [Builtin.append_, run_underlying ht, sizeOf, typeInfo, hi, Builtin.lenOf, Builtin.firstCells, loadCells, loadCellsFrom, hnc]
      cases p <;> simp [loadCells, loadCellsFrom, storeCells]
  obtain ⟨ag, ao, rfl, hcell⟩ := hp.resolve_left hnil
  have hnews : ∀ j u, news[j]? = some u → w.cell? ((⟨ag, ao, none⟩ : Addr).add j) = some u := fun j u hu => by rw [addr_add]; exact hcell j u hu
  have hm0 : 0 < news.length := List.length_pos_iff.2 hnil
  subst hby
  have hl : news.length = news.length * i.size := by rw [hsize, Nat.mul_one]
  have hsmall : xs.length + news.length ≤ 9223372036854775807 := by simp only [maxLen] at h63; omega
  have hlen : (xs ++ news).length = (xs.length + news.length) * 1 := by rw [List.length_append, Nat.mul_one]
  have hlen1 : (xs ++ news).length = xs.length + news.length := List.length_append
  have hxl : xs.length = xs.length * i.size := by rw [hsize, Nat.mul_one]
  have grown : ∀ (old : Nat), old < xs.length + news.length →
      Own1 (w.drew.alloc (.cells (xs.toArray ++ news.toArray ++ Builtin.zeroCells z.cells (grownCap w (xs.length + news.length) old e - (xs.length + news.length))) e)) base e
        (.slice (some ⟨w.heap.size, 0, none⟩) (xs.length + news.length) (grownCap w (xs.length + news.length) old e)) (xs ++ news) := by
    intro old ho
    have hge := grownCap_ge w (xs.length + news.length) old e
    have hcm : grownCap w (xs.length + news.length) old e ≤ maxLen := grownCap_le_maxLen w _ old e h63
    unfold Own1
    rw [hlen1]
    refine ⟨hlen, .inr ⟨w.heap.size, _, _, rfl, hbase, heap_alloc_new w.drew _, hge, hcm, ?_, ?_⟩⟩
    · simp only [Array.size_append, List.size_toArray, size_zeroCells, hzs]
      omega
    · simp only [Array.toList_append, List.append_assoc]
      rw [← List.append_assoc, ← hlen]
      exact List.take_left
  rcases hown.2 with ⟨rfl, hn⟩ | ⟨g, cap, cur, rfl, hbg, hg, hnc, hcm, hcs, htake⟩
  · have hxn : xs = [] := List.eq_nil_of_length_eq_zero hn
    subst hxn
    have hr := run_append_nil (P := P) w t ty e i z ht hi hz ⟨ag, ao, none⟩ news.length c news hl hnews (by omega) (by have := hsmall; simp at this; omega) (by have hb := hbytes; simpa using Nat.le_trans hb (by decide))
    have hgr := grown 0 (by simp; omega)
    simp only [List.length_nil, Nat.zero_add, List.nil_append, Array.empty_append] at hgr ⊢
    exact ⟨_, _, hr, hgr, ((Chg.refl _ _).drew).alloc _, stays_new _ _ _ _ _ (Nat.le_refl _)⟩
  · by_cases hroom : xs.length + news.length ≤ cap
    · have hfit : xs.length * i.size + news.length ≤ cur.size := by rw [hsize, hcs]; omega
      have hr := run_append_room (P := P) w t ty e i ht hi g xs.length cap cur hg ⟨ag, ao, none⟩ news.length c news hl hnews h1 hroom hfit
      rw [hsize, Nat.mul_one] at hr
      rw [Nat.mul_one] at htake
      refine ⟨_, _, hr, ?_, (chg_setRow _ hg).mono (fun k _ _ hk => by rw [hk]; rfl), fun k hk => .inl hk⟩
      unfold Own1
      rw [hlen1]
      refine ⟨hlen, .inr ⟨g, cap, _, rfl, hbg, setRow_heap w g cur _ e _ hg, hroom, hcm, ?_, ?_⟩⟩
      · simp only [List.size_toArray, List.length_append, List.length_take, List.length_drop, Array.length_toList]
        omega
      · rw [htake, Nat.mul_one, ← hlen1]
        exact List.take_left
    · have holds : ∀ j u, xs[j]? = some u → w.cell? ((⟨g, 0, none⟩ : Addr).add j) = some u := World.ownsRow.cells hown (g := g) rfl
      have hr := run_append_grow (P := P) w t ty e i z ht hi hz ⟨g, 0, none⟩ xs.length cap xs hxl holds ⟨ag, ao, none⟩ news.length c news hl hnews (by omega) (by omega) (growslice_fits (by omega) hbytes)
      exact ⟨_, _, hr, grown cap (by omega), ((Chg.refl _ _).drew).alloc _, stays_new _ _ _ _ _ (Nat.le_refl _)⟩
theorem wp_append_own (w : World) {o : Oper} {a : Act} {K : Act → World → Prop} {Q : Exit → Act → World → Prop} (s x : Operand) (t : TypeId)
    (ho : o.op = .call { callee := .builtin .append, args := #[s, x], argTypes := #[t, t] })
    (base : Nat) (e : TypeId) (i : TypeInfo) (z : Value) (bytes : Nat) (ht : P.underlying t = some (.slice e)) (hi : P.info? e = some i) (hz : i.zero = some z)
    (hsize : i.size = 1) (hby : i.bytes = bytes) (hzs : z.cells.size = 1)
    (v : Value) (xs : List Value) (hs : a.eval s = v) (hown : Own1 w base e v xs)
    (y : Value) (news : List Value) (hx : a.eval x = y) (hy : Reads w y news) (h1 : ∀ u ∈ news, u.oneCell' = true)
    (h63 : xs.length + news.length ≤ maxLen) (hbytes : (xs.length + news.length) * bytes ≤ 140737488355328) (hbase : base ≤ w.heap.size)
    (h : ∀ v' w', Own1 w' base e v' (xs ++ news) → Chg (fun k _ => v.ownBlock = some k) w w' → Stays w v v' → K (a.put o.dst v') w') : o.wp P a w K Q := by
  obtain ⟨v', w', hr, h2, h3, h4⟩ := run_append_own (P := P) w base t o.type e i z bytes ht hi hz hsize hby hzs v xs hown y news hy h1 h63 hbytes hbase
  unfold Oper.wp execOp
  simp only [ho, resolve, invoke, builtin, Sem.run_bind, Sem.run_pure, Result.andThen_ok, List.map_toArray, List.map_cons, List.map_nil, hs, hx, hr]
  exact h v' w' h2 h3 h4
theorem wpList_append_own {w : World} {ops : Array Oper} {rest : List Oper} {o : Oper} {a : Act} {Q : Exit → Act → World → Prop} (hgd : o.guard = none) (s x : Operand) (t : TypeId)
    (ho : o.op = .call { callee := .builtin .append, args := #[s, x], argTypes := #[t, t] })
    (base : Nat) (e : TypeId) (i : TypeInfo) (z : Value) (bytes : Nat) (ht : P.underlying t = some (.slice e)) (hi : P.info? e = some i) (hz : i.zero = some z)
    (hsize : i.size = 1) (hby : i.bytes = bytes) (hzs : z.cells.size = 1)
    (v : Value) (xs : List Value) (hs : a.eval s = v) (hown : Own1 w base e v xs)
    (y : Value) (news : List Value) (hx : a.eval x = y) (hy : Reads w y news) (h1 : ∀ u ∈ news, u.oneCell' = true)
    (h63 : xs.length + news.length ≤ maxLen) (hbytes : (xs.length + news.length) * bytes ≤ 140737488355328) (hbase : base ≤ w.heap.size)
    (h : ∀ v' w', Own1 w' base e v' (xs ++ news) → Chg (fun k _ => v.ownBlock = some k) w w' → Stays w v v' → wpList P ops Q rest (a.put o.dst v') w') : wpList P ops Q (o :: rest) a w :=
  wpList_plain hgd fun _ hK => wp_append_own w s x t ho base e i z bytes ht hi hz hsize hby hzs v xs hs hown y news hx hy h1 h63 hbytes hbase fun v' w' h2 h3 h4 => hK _ _ (h v' w' h2 h3 h4)
end
end Go.Proofs.YtmcjpnijldhelaaGreatDoor
