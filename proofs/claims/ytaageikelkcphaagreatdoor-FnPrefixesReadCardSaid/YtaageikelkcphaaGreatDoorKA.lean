/- Part 1 of the proof: the texts A, B, A2, C, joined. What each proves stands ahead of it. -/
import Derived.WalkKit
import Derived.WalkSpells
import Derived.WalkLawsBesides
import Derived.Laws.CopyOwn
import Derived.Test.YtaageikelkcphaaGreatDoorProg
import Derived.BigQuiet
import Derived.Deep.QuietTactic
import Derived.Handy
import Derived.Lib.EndianBits
import Derived.LaidEqlPtr
import Derived.Lib.Hide
set_option linter.unusedVariables false
set_option linter.unusedSimpArgs false
/- Frames of worlds: what a call may have turned; lists of bytes and their bits. No program in sight. -/
namespace Go.Proofs.YtaageikelkcphaaGreatDoor
open Go Go.RowKit

/-- Of what was there, only cells in S may have turned; all else stays, the marks stay, the streams stay. -/
structure Chg (S : Nat → Nat → Prop) (w w' : World) : Prop where
  os : w'.os = w.os
  tape : w'.tape = w.tape
  output : w'.output = w.output
  size : w.heap.size ≤ w'.heap.size
  block : ∀ k, k < w.heap.size → (∀ o, ¬ S k o) → w'.heap[k]? = w.heap[k]?
  cell : ∀ k o, k < w.heap.size → ¬ S k o → w'.cell? ⟨k, o, none⟩ = w.cell? ⟨k, o, none⟩
  frozen : ∀ k o, k < w.heap.size → w'.frozen? ⟨k, o, none⟩ = w.frozen? ⟨k, o, none⟩

theorem Chg.refl (S : Nat → Nat → Prop) (w : World) : Chg S w w := ⟨rfl, rfl, rfl, Nat.le_refl _, fun _ _ _ => rfl, fun _ _ _ _ => rfl, fun _ _ _ => rfl⟩
theorem Chg.trans {S : Nat → Nat → Prop} {a b c : World} (h : Chg S a b) (k : Chg S b c) : Chg S a c :=
  ⟨k.os.trans h.os, k.tape.trans h.tape, k.output.trans h.output, Nat.le_trans h.size k.size,
   fun i hi hS => (k.block i (Nat.lt_of_lt_of_le hi h.size) hS).trans (h.block i hi hS),
   fun i o hi hS => (k.cell i o (Nat.lt_of_lt_of_le hi h.size) hS).trans (h.cell i o hi hS),
   fun i o hi => (k.frozen i o (Nat.lt_of_lt_of_le hi h.size)).trans (h.frozen i o hi)⟩
/-- What lies in new blocks needs no leave. -/
theorem Chg.widen {S S' : Nat → Nat → Prop} {n : Nat} {w w' : World} (h : Chg S w w') (hn : w.heap.size ≤ n) (hS : ∀ k o, k < n → S k o → S' k o) : Chg S' w w' :=
  ⟨h.os, h.tape, h.output, h.size,
   fun k hk hk' => h.block k hk (fun o ho => hk' o (hS k o (by omega) ho)),
   fun k o hk hk' => h.cell k o hk (fun ho => hk' (hS k o (by omega) ho)), h.frozen⟩
theorem Chg.mono {S S' : Nat → Nat → Prop} {w w' : World} (h : Chg S w w') (hS : ∀ k o, k < w.heap.size → S k o → S' k o) : Chg S' w w' := h.widen (Nat.le_refl _) hS
theorem Chg.comp {S S' T : Nat → Nat → Prop} {a b c : World} (h : Chg S a b) (k : Chg S' b c) (h1 : ∀ k o, k < a.heap.size → S k o → T k o) (h2 : ∀ k o, k < a.heap.size → S' k o → T k o) : Chg T a c :=
  ⟨k.os.trans h.os, k.tape.trans h.tape, k.output.trans h.output, Nat.le_trans h.size k.size,
   fun i hi hS => (k.block i (Nat.lt_of_lt_of_le hi h.size) (fun o ho => hS o (h2 i o hi ho))).trans (h.block i hi (fun o ho => hS o (h1 i o hi ho))),
   fun i o hi hS => (k.cell i o (Nat.lt_of_lt_of_le hi h.size) (fun ho => hS (h2 i o hi ho))).trans (h.cell i o hi (fun ho => hS (h1 i o hi ho))),
   fun i o hi => (k.frozen i o (Nat.lt_of_lt_of_le hi h.size)).trans (h.frozen i o hi)⟩
theorem Chg.drew {S : Nat → Nat → Prop} {a w : World} (h : Chg S a w) : Chg S a w.drew := ⟨h.os, h.tape, h.output, h.size, h.block, h.cell, h.frozen⟩
theorem Chg.undrew {S : Nat → Nat → Prop} {a w : World} (h : Chg S a.drew w) : Chg S a w := ⟨h.os, h.tape, h.output, h.size, h.block, h.cell, h.frozen⟩
theorem Chg.drewN {S : Nat → Nat → Prop} {a w : World} (h : Chg S a w) (n : Nat) : Chg S a (w.drewN n) := ⟨h.os, h.tape, h.output, h.size, h.block, h.cell, h.frozen⟩
theorem Chg.alloc {S : Nat → Nat → Prop} {a w : World} (h : Chg S a w) (o : Obj) : Chg S a (w.alloc o) :=
  h.trans ⟨rfl, rfl, rfl, by simp, fun k hk _ => Below.heap_alloc _ _ _ hk,
    fun k i hk _ => World.cell?_alloc_lt _ _ ⟨k, i, none⟩ hk, fun k i hk => World.frozen?_alloc_old _ _ ⟨k, i, none⟩ (by show k ≠ _; omega)⟩
theorem Chg.setCell {S : Nat → Nat → Prop} {a w : World} (h : Chg S a w) (b i : Nat) (hS : b < a.heap.size → S b i) (v : Value) : Chg S a (w.setCell ⟨b, i, none⟩ v) :=
  ⟨h.os, h.tape, h.output, by simpa using h.size,
   fun k hk hn => (Below.heap_setCell _ _ _ _ (by show k ≠ b; intro e; subst e; exact hn i (hS hk))).trans (h.block k hk hn),
   fun k o hk hn => (World.cell?_setCell_other _ ⟨b, i, none⟩ ⟨k, o, none⟩ _ (by intro e; injection e with e1 e2; subst e1; subst e2; exact hn (hS hk))).trans (h.cell k o hk hn),
   fun k o hk => (by rw [World.frozen?_setCell]; exact h.frozen k o hk)⟩
theorem Chg.keep {S : Nat → Nat → Prop} {w w' : World} (h : Chg S w w') {k o : Nat} {v : Value} (hc : w.cell? ⟨k, o, none⟩ = some v) (hS : ¬ S k o) : w'.cell? ⟨k, o, none⟩ = some v :=
  (h.cell k o (World.block_lt_of_cell? w _ hc) hS).trans hc
theorem Chg.below {S : Nat → Nat → Prop} {w w' : World} (h : Chg S w w') {B : Nat} (hB : B ≤ w.heap.size) (hS : ∀ k o, k < B → ¬ S k o) : Below B w w' :=
  ⟨h.os, h.tape, h.output, h.size, fun k hk => h.block k (by omega) (fun o => hS k o hk)⟩
theorem Chg.lt {S : Nat → Nat → Prop} {w w' : World} (h : Chg S w w') {k : Nat} (hk : k < w.heap.size) : k < w'.heap.size := Nat.lt_of_lt_of_le hk h.size

theorem Chg.unalloc {S T : Nat → Nat → Prop} {w w' : World} {o : Obj} (h : Chg S (w.alloc o) w') (hS : ∀ k x, k < w.heap.size → S k x → T k x) : Chg T w w' := ((Chg.refl T w).alloc o).comp h (fun _ _ _ h => h) hS
def Nix : Nat → Nat → Prop := fun _ _ => False
theorem Chg.new (w : World) (o : Obj) : Chg Nix w (w.alloc o) := (Chg.refl _ _).alloc _
theorem cell_alloc {w : World} {k x : Nat} {v : Value} (o : Obj) (h : w.cell? ⟨k, x, none⟩ = some v) : (w.alloc o).cell? ⟨k, x, none⟩ = some v := (Chg.new w o).keep h id
theorem frozen_alloc {w : World} {k x : Nat} (o : Obj) (hk : k < w.heap.size) (h : w.frozen? ⟨k, x, none⟩ = false) : (w.alloc o).frozen? ⟨k, x, none⟩ = false := ((Chg.new w o).frozen k x hk).trans h
/-- n cells from (b, off) on hold bytes D 0, D 1, .. -/
def Bytes (w : World) (b off n : Nat) (D : Nat → Nat) : Prop := ∀ j, j < n → w.cell? ⟨b, off + j, none⟩ = some (.int .u8 (D j))
theorem Bytes.keep {w w' : World} {b off n : Nat} {D : Nat → Nat} (h : Bytes w b off n D) {S : Nat → Nat → Prop} (hc : Chg S w w') (hS : ∀ j, j < n → ¬ S b (off + j)) : Bytes w' b off n D :=
  fun j hj => hc.keep (h j hj) (hS j hj)
theorem Bytes.sub {w : World} {b off n : Nat} {D : Nat → Nat} (h : Bytes w b off n D) (i m : Nat) (him : i + m ≤ n) : Bytes w b (off + i) m (fun j => D (i + j)) :=
  fun j hj => by have := h (i + j) (by omega); rwa [← Nat.add_assoc] at this

/-- A bytes.Reader at (rb, ro) over L bytes from (b, bo) on, at place i. -/
structure Rdr (w : World) (rb ro b bo L C : Nat) (i pr : Int) : Prop where
  s : w.cell? ⟨rb, ro, none⟩ = some (.slice (some ⟨b, bo, none⟩) L C)
  i : w.cell? ⟨rb, ro + 1, none⟩ = some (.int .i64 i)
  p : w.cell? ⟨rb, ro + 2, none⟩ = some (.int .i64 pr)
  f : ∀ j, j < 3 → w.frozen? ⟨rb, ro + j, none⟩ = false
theorem Rdr.lt {w : World} {rb ro b bo L C : Nat} {i pr : Int} (h : Rdr w rb ro b bo L C i pr) : rb < w.heap.size := World.block_lt_of_cell? w _ h.s
theorem Rdr.keep {w w' : World} {rb ro b bo L C : Nat} {i pr : Int} (h : Rdr w rb ro b bo L C i pr) {S : Nat → Nat → Prop} (hc : Chg S w w') (hS : ∀ j, j < 3 → ¬ S rb (ro + j)) : Rdr w' rb ro b bo L C i pr :=
  ⟨hc.keep h.s (hS 0 (by omega)), hc.keep h.i (hS 1 (by omega)), hc.keep h.p (hS 2 (by omega)), fun j hj => (hc.frozen _ _ h.lt).trans (h.f j hj)⟩
theorem Rdr.drew {w : World} {rb ro b bo L C : Nat} {i pr : Int} (h : Rdr w rb ro b bo L C i pr) : Rdr w.drew rb ro b bo L C i pr := ⟨h.s, h.i, h.p, h.f⟩
/-- L bytes from (b, bo) on; behind them D is 0. -/
structure Data (w : World) (b bo L : Nat) (D : Nat → Nat) : Prop where
  bytes : Bytes w b bo L D
  lt : ∀ j, D j < 256
  z : ∀ j, L ≤ j → D j = 0
theorem Data.keep {w w' : World} {b bo L : Nat} {D : Nat → Nat} (h : Data w b bo L D) {S : Nat → Nat → Prop} (hc : Chg S w w') (hS : ∀ j, j < L → ¬ S b (bo + j)) : Data w' b bo L D := ⟨h.bytes.keep hc hS, h.lt, h.z⟩
theorem Data.drew {w : World} {b bo L : Nat} {D : Nat → Nat} (h : Data w b bo L D) : Data w.drew b bo L D := ⟨h.bytes, h.lt, h.z⟩
theorem Rdr.alloc {w : World} {rb ro b bo L C : Nat} {i pr : Int} (h : Rdr w rb ro b bo L C i pr) (o : Obj) : Rdr (w.alloc o) rb ro b bo L C i pr := h.keep (Chg.new w o) (fun _ _ h => h)
theorem Bytes.alloc {w : World} {b off n : Nat} {D : Nat → Nat} (h : Bytes w b off n D) (o : Obj) : Bytes (w.alloc o) b off n D := h.keep (Chg.new w o) (fun _ _ h => h)
theorem Data.alloc {w : World} {b bo L : Nat} {D : Nat → Nat} (h : Data w b bo L D) (o : Obj) : Data (w.alloc o) b bo L D := h.keep (Chg.new w o) (fun _ _ h => h)
/-- Bit i of bytes. -/
def bitB (D : Nat → Nat) (i : Nat) : Nat := D (i / 8) / 2 ^ (i % 8) % 2
/-- The number of w bits from bit p on, the lowest first. -/
def bitsV (D : Nat → Nat) (p : Nat) : Nat → Nat
  | 0 => 0
  | w + 1 => bitB D p + 2 * bitsV D (p + 1) w
/-- Little-endian bytes. -/
def leV (D : Nat → Nat) (p : Nat) : Nat → Nat
  | 0 => 0
  | n + 1 => D p + 256 * leV D (p + 1) n
end Go.Proofs.YtaageikelkcphaaGreatDoor
/- Contracts of functions of the library that are called here: little-endian numbers, a reader of bytes. -/
namespace Go.Proofs.YtaageikelkcphaaGreatDoor
open Go Go.RowKit
theorem or64_all (d0 d1 d2 d3 d4 d5 d6 d7 : Int) (p0 : 0 ≤ d0) (q0 : d0 < 256) (p1 : 0 ≤ d1) (q1 : d1 < 256) (p2 : 0 ≤ d2) (q2 : d2 < 256) (p3 : 0 ≤ d3) (q3 : d3 < 256) (p4 : 0 ≤ d4) (q4 : d4 < 256) (p5 : 0 ≤ d5) (q5 : d5 < 256) (p6 : 0 ≤ d6) (q6 : d6 < 256) (p7 : 0 ≤ d7) (q7 : d7 < 256) :
    bits .or .u64 (bits .or .u64 (bits .or .u64 (bits .or .u64 (bits .or .u64 (bits .or .u64 (bits .or .u64 d0 (d1 * 256)) (d2 * 65536)) (d3 * 16777216)) (d4 * 4294967296)) (d5 * 1099511627776)) (d6 * 281474976710656)) (d7 * 72057594037927936)
      = d0 + d1 * 256 + d2 * 65536 + d3 * 16777216 + d4 * 4294967296 + d5 * 1099511627776 + d6 * 281474976710656 + d7 * 72057594037927936 := by
  have e1 := u64_or8 (y := d0) (x := d1 * 256) (by omega) (by omega) (by omega) (by omega) (by omega)
  have e2 := u64_or16 (y := d0 + d1 * 256) (x := d2 * 65536) (by omega) (by omega) (by omega) (by omega) (by omega)
  have e3 := u64_or24 (y := d0 + d1 * 256 + d2 * 65536) (x := d3 * 16777216) (by omega) (by omega) (by omega) (by omega) (by omega)
  have e4 := u64_or32 (y := d0 + d1 * 256 + d2 * 65536 + d3 * 16777216) (x := d4 * 4294967296) (by omega) (by omega) (by omega) (by omega) (by omega)
  have e5 := u64_or40 (y := d0 + d1 * 256 + d2 * 65536 + d3 * 16777216 + d4 * 4294967296) (x := d5 * 1099511627776) (by omega) (by omega) (by omega) (by omega) (by omega)
  have e6 := u64_or48 (y := d0 + d1 * 256 + d2 * 65536 + d3 * 16777216 + d4 * 4294967296 + d5 * 1099511627776) (x := d6 * 281474976710656) (by omega) (by omega) (by omega) (by omega) (by omega)
  have e7 := u64_or56 (y := d0 + d1 * 256 + d2 * 65536 + d3 * 16777216 + d4 * 4294967296 + d5 * 1099511627776 + d6 * 281474976710656) (x := d7 * 72057594037927936) (by omega) (by omega) (by omega) (by omega) (by omega)
  rw [e1, e2, e3, e4, e5, e6, e7]
theorem or32_all (d0 d1 d2 d3 : Int) (p0 : 0 ≤ d0) (q0 : d0 < 256) (p1 : 0 ≤ d1) (q1 : d1 < 256) (p2 : 0 ≤ d2) (q2 : d2 < 256) (p3 : 0 ≤ d3) (q3 : d3 < 256) :
    bits .or .u32 (bits .or .u32 (bits .or .u32 d0 (d1 * 256)) (d2 * 65536)) (d3 * 16777216) = d0 + d1 * 256 + d2 * 65536 + d3 * 16777216 := by
  have e1 := u32_or8 (y := d0) (x := d1 * 256) (by omega) (by omega) (by omega) (by omega) (by omega)
  have e2 := u32_or16 (y := d0 + d1 * 256) (x := d2 * 65536) (by omega) (by omega) (by omega) (by omega) (by omega)
  have e3 := u32_or24 (y := d0 + d1 * 256 + d2 * 65536) (x := d3 * 16777216) (by omega) (by omega) (by omega) (by omega) (by omega)
  rw [e1, e2, e3]
theorem ret_int' {k : IntKind} {a b : Int} (h : a = b) : Ending.returned (.int k a) = .returned (.int k b) := by rw [h]
set_option maxHeartbeats 400000 in
theorem le64_any (b off len cap : Nat) (D : Nat → Nat) (hD : ∀ j, D j < 256) (w : World) (h : 8 ≤ len) (hc : Bytes w b off 8 D) :
    Calls Tryz.prog 68 #[.agg #[], .slice (some ⟨b, off, none⟩) len cap] w fun e w' => e = .returned (.int .u64 (leV D 0 8)) ∧ Chg (fun _ _ => False) w w' := by
  have h0 := hc 0 (by omega)
  have h1 := hc 1 (by omega)
  have h2 := hc 2 (by omega)
  have h3 := hc 3 (by omega)
  have h4 := hc 4 (by omega)
  have h5 := hc 5 (by omega)
  have h6 := hc 6 (by omega)
  have h7 := hc 7 (by omega)
  have b0 := hD 0
  have b1 := hD 1
  have b2 := hD 2
  have b3 := hD 3
  have b4 := hD 4
  have b5 := hD 5
  have b6 := hD 6
  have b7 := hD 7
  have hb := World.block_lt_of_cell? w _ h0
  have hl : 0 < len := by omega
  clear hc hD
  simp only [Nat.add_zero] at h0 hb
  go_enter Tryz.func68, Tryz.ntmps68
  go_wp2
  go_quiet (fail)
  go_wp2
  go_ret
  refine ⟨ret_int' ?_, ((Chg.refl _ _).alloc _).drewN _⟩
  rw [or64_all _ _ _ _ _ _ _ _ (by omega) (by omega) (by omega) (by omega) (by omega) (by omega) (by omega) (by omega) (by omega) (by omega) (by omega) (by omega) (by omega) (by omega) (by omega) (by omega)]
  simp only [leV, Nat.zero_add, Nat.reduceAdd]
  omega
set_option maxHeartbeats 400000 in
theorem le32_any (b off len cap : Nat) (D : Nat → Nat) (hD : ∀ j, D j < 256) (w : World) (h : 4 ≤ len) (hc : Bytes w b off 4 D) :
    Calls Tryz.prog 106 #[.agg #[], .slice (some ⟨b, off, none⟩) len cap] w fun e w' => e = .returned (.int .u32 (leV D 0 4)) ∧ Chg (fun _ _ => False) w w' := by
  have h0 := hc 0 (by omega)
  have h1 := hc 1 (by omega)
  have h2 := hc 2 (by omega)
  have h3 := hc 3 (by omega)
  have b0 := hD 0
  have b1 := hD 1
  have b2 := hD 2
  have b3 := hD 3
  have hb := World.block_lt_of_cell? w _ h0
  have hl : 0 < len := by omega
  clear hc hD
  simp only [Nat.add_zero] at h0 hb
  go_enter Tryz.func106, Tryz.ntmps106
  go_wp2
  go_quiet (fail)
  go_wp2
  go_ret
  refine ⟨ret_int' ?_, ((Chg.refl _ _).alloc _).drewN _⟩
  rw [or32_all _ _ _ _ (by omega) (by omega) (by omega) (by omega) (by omega) (by omega) (by omega) (by omega)]
  simp only [leV, Nat.zero_add, Nat.reduceAdd]
  omega
end Go.Proofs.YtaageikelkcphaaGreatDoor
/- The built-in copy, stores of a row, by cells alone. Over any program. -/
namespace Go.Proofs.YtaageikelkcphaaGreatDoor
open Go Go.RowKit
section
variable {P : Program}
theorem addr_add (g o i : Nat) : (⟨g, o, none⟩ : Addr).add i = ⟨g, o + i, none⟩ := by unfold Addr.add; split <;> simp_all

theorem callFunc_enter {F : Nat} {fn : Func} (hf : P.funcs[F]? = some fn) (hn : (fn.name == "runtime.NumGoroutine") = false) (hb : fn.body.isNone = false) (args : Array Value) (w : World) : (callFunc F args).run P w = .ok (.enter F args) w := by
  have hn' : ¬ fn.name = "runtime.NumGoroutine" := by simpa using hn
  have hb' : ¬ fn.body = none := by intro e; rw [e] at hb; cases hb
  simp [callFunc, hf, hn', hb']
theorem run_storeCells_chg (g o : Nat) : ∀ (vs : List Value) (i : Nat) (w : World),
    (∀ j, j < vs.length → ∃ u, w.cell? ⟨g, o + i + j, none⟩ = some u) → (∀ j, j < vs.length → w.frozen? ⟨g, o + i + j, none⟩ = false) → (∀ v ∈ vs, v.oneCell' = true) →
    ∃ w', (storeCells ⟨g, o, none⟩ vs i).run P w = .ok () w' ∧ Chg (fun k x => k = g ∧ o + i ≤ x ∧ x < o + i + vs.length) w w' ∧ (∀ j v, vs[j]? = some v → w'.cell? ⟨g, o + i + j, none⟩ = some v)
  | [], i, w, _, _, _ => ⟨w, rfl, Chg.refl _ _, fun j v h => by simp at h⟩
  | v :: rest, i, w, hc, hf, h1 => by
    obtain ⟨u, hu⟩ := hc 0 (by simp)
    have hf0 := hf 0 (by simp)
    simp only [Nat.add_zero] at hu hf0
    have hst : (store ((⟨g, o, none⟩ : Addr).add i) v).run P w = .ok () (w.setCell ⟨g, o + i, none⟩ v) := by
      rw [addr_add, run_store P w _ v _ (h1 v (by simp)), hu]
      simp [hf0]
    have hblk := World.block_lt_of_cell? w _ hu
    have hc1 : Chg (fun k x => k = g ∧ o + i ≤ x ∧ x < o + i + (rest.length + 1)) w (w.setCell ⟨g, o + i, none⟩ v) := (Chg.refl _ _).setCell g (o + i) (fun _ => ⟨rfl, Nat.le_refl _, by omega⟩) v
    have ih := run_storeCells_chg g o rest (i + 1) (w.setCell ⟨g, o + i, none⟩ v)
      (fun j hj => by
        obtain ⟨u', hu'⟩ := hc (j + 1) (by simp; omega)
        refine ⟨u', ?_⟩
        rw [World.cell?_setCell_other _ ⟨g, o + i, none⟩ ⟨g, o + (i + 1) + j, none⟩ _ (by intro e; injection e; omega)]
        rw [← hu']; congr 2; omega)
      (fun j hj => by
        rw [World.frozen?_setCell]
        have := hf (j + 1) (by simp; omega)
        rw [← this]; congr 2; omega)
      (fun x hx => h1 x (by simp [hx]))
    obtain ⟨w', hr, hch, hv⟩ := ih
    refine ⟨w', ?_, ?_, ?_⟩
    · simp only [storeCells, Sem.run_bind, hst, Result.andThen_ok, hr]
    · refine hc1.comp hch (fun k x _ h => ⟨h.1, h.2.1, by simp only [List.length_cons]; omega⟩) (fun k x _ h => ⟨h.1, by omega, by simp only [List.length_cons]; omega⟩)
    · intro j x hx
      cases j with
      | zero =>
        simp at hx; subst hx
        simp only [Nat.add_zero]
        refine (hch.cell g (o + i) (by simpa using hblk) (by intro h; omega)).trans ?_
        exact World.cell?_setCell_same w _ _ hu
      | succ j =>
        simp at hx
        have := hv j x hx
        rw [← this]; congr 2; omega

/-- copy(dst, src): m cells. -/
theorem wp_copy_chg {w : World} {o : Oper} {a : Act} {K : Act → World → Prop} {Q : Exit → Act → World → Prop} (d s : Operand) (dT sT : TypeId)
    (ho : o.op = .call { callee := .builtin .copy, args := #[d, s], argTypes := #[dT, sT] }) (elem : TypeId) (hu : P.underlying dT = some (.slice elem)) (hsz : (P.info? elem).map (·.size) = some 1)
    (dp sp : Option Addr) (dLen dCap sLen sCap : Nat) (hd : a.eval d = .slice dp dLen dCap) (hs : a.eval s = .slice sp sLen sCap)
    (m : Nat) (hm : Nat.min sLen dLen = m) (g off sg soff : Nat) (V : Nat → Value) (hpos : 0 < m → dp = some ⟨g, off, none⟩ ∧ sp = some ⟨sg, soff, none⟩)
    (hsrc : ∀ j, j < m → w.cell? ⟨sg, soff + j, none⟩ = some (V j)) (hdst : ∀ j, j < m → ∃ u, w.cell? ⟨g, off + j, none⟩ = some u) (hfr : ∀ j, j < m → w.frozen? ⟨g, off + j, none⟩ = false)
    (h1 : ∀ j, j < m → (V j).oneCell' = true)
    (h : ∀ w', Chg (fun k x => k = g ∧ off ≤ x ∧ x < off + m) w w' → (∀ j, j < m → w'.cell? ⟨g, off + j, none⟩ = some (V j)) → K (a.put o.dst (.int .i64 m)) w') :
    o.wp P a w K Q := by
  by_cases h0 : m = 0
  · subst h0
    have hrun := run_copy_none (P := P) w dT sT o.type elem dp sp dLen dCap sLen sCap hu hsz hm
    unfold Oper.wp
    simp [execOp, ho, resolve, invoke, builtin, hd, hs, hrun, Result.andThen]
    exact h w (Chg.refl _ _) (fun j hj => by omega)
  · obtain ⟨rfl, rfl⟩ := hpos (by omega)
    have hnews : ∀ j v, ((List.range m).map V)[j]? = some v → w.cell? ((⟨sg, soff, none⟩ : Addr).add j) = some v := by
      intro j v hv
      rw [addr_add]
      have hj : j < m := by
        have := (List.getElem?_eq_some_iff.1 hv).1
        simpa using this
      rw [hsrc j hj]
      simpa [hj] using hv
    obtain ⟨w', hr, hch, hv⟩ := run_storeCells_chg (P := P) g off ((List.range m).map V) 0 w (fun j hj => by simpa using hdst j (by simpa using hj)) (fun j hj => by simpa using hfr j (by simpa using hj))
      (fun v hv => by
        obtain ⟨j, hj, rfl⟩ := List.mem_map.1 hv
        exact h1 j (List.mem_range.1 hj))
    have hf := run_firstCells_some (P := P) w 1 m ⟨sg, soff, none⟩ sLen sCap ((List.range m).map V) (by simp) hnews
    obtain ⟨i, hi, hi1⟩ := Option.map_eq_some_iff.1 hsz
    have hrun : (Builtin.copy_ #[dT, sT] o.type #[.slice (some ⟨g, off, none⟩) dLen dCap, .slice (some ⟨sg, soff, none⟩) sLen sCap]).run P w = .ok (goInt m) w' := by
      simp only [Builtin.copy_]
      simp [run_underlying hu, sizeOf, typeInfo, hi, hi1, Builtin.lenOf, hm, hf, hr]
    unfold Oper.wp
    simp [execOp, ho, resolve, invoke, builtin, hd, hs, hrun, Result.andThen]
    refine h w' ?_ ?_
    · simpa using hch
    · intro j hj
      have := hv j (V j) (by simp [hj])
      simpa using this
theorem wpList_copy_chg {w : World} {ops : Array Oper} {rest : List Oper} {o : Oper} {a : Act} {Q : Exit → Act → World → Prop} (hgd : o.guard = none) (d s : Operand) (dT sT : TypeId)
    (ho : o.op = .call { callee := .builtin .copy, args := #[d, s], argTypes := #[dT, sT] }) (elem : TypeId) (hu : P.underlying dT = some (.slice elem)) (hsz : (P.info? elem).map (·.size) = some 1)
    (dp sp : Option Addr) (dLen dCap sLen sCap : Nat) (hd : a.eval d = .slice dp dLen dCap) (hs : a.eval s = .slice sp sLen sCap)
    (m : Nat) (hm : Nat.min sLen dLen = m) (g off sg soff : Nat) (V : Nat → Value) (hpos : 0 < m → dp = some ⟨g, off, none⟩ ∧ sp = some ⟨sg, soff, none⟩)
    (hsrc : ∀ j, j < m → w.cell? ⟨sg, soff + j, none⟩ = some (V j)) (hdst : ∀ j, j < m → ∃ u, w.cell? ⟨g, off + j, none⟩ = some u) (hfr : ∀ j, j < m → w.frozen? ⟨g, off + j, none⟩ = false)
    (h1 : ∀ j, j < m → (V j).oneCell' = true)
    (h : ∀ w', Chg (fun k x => k = g ∧ off ≤ x ∧ x < off + m) w w' → (∀ j, j < m → w'.cell? ⟨g, off + j, none⟩ = some (V j)) → wpList P ops Q rest (a.put o.dst (.int .i64 m)) w') :
    wpList P ops Q (o :: rest) a w :=
  wpList_plain hgd fun _ hK => wp_copy_chg d s dT sT ho elem hu hsz dp sp dLen dCap sLen sCap hd hs m hm g off sg soff V hpos hsrc hdst hfr h1 fun w' h2 h3 => hK _ _ (h w' h2 h3)
end
end Go.Proofs.YtaageikelkcphaaGreatDoor
/- A reader of bytes: ReadAt, Seek, Read, and what reads whole. -/
namespace Go.Proofs.YtaageikelkcphaaGreatDoor
open Go Go.RowKit

/-- io.EOF, io.ErrUnexpectedEOF: errors that are there. -/
structure Eofs (w : World) (ee eu : Addr) : Prop where
  e : w.cell? ⟨0, 0, none⟩ = some (.iface 99 (.pointer (some ee)))
  u : w.cell? ⟨1, 0, none⟩ = some (.iface 99 (.pointer (some eu)))
theorem Eofs.keep {w w' : World} {ee eu : Addr} (h : Eofs w ee eu) {S : Nat → Nat → Prop} (hc : Chg S w w') (h1 : ¬ S 0 0) (h2 : ¬ S 1 0) : Eofs w' ee eu := ⟨hc.keep h.e h1, hc.keep h.u h2⟩
theorem Eofs.drew {w : World} {ee eu : Addr} (h : Eofs w ee eu) : Eofs w.drew ee eu := ⟨h.e, h.u⟩
def eofV (ee : Addr) : Value := .iface 99 (.pointer (some ee))

set_option maxHeartbeats 400000 in
/-- A number, and no error or io.EOF. -/
def RetErr (ee : Addr) (m : Int) (e : Ending) : Prop := e = .returned (.tuple #[.int .i64 m, .nilIface]) ∨ e = .returned (.tuple #[.int .i64 m, eofV ee])

set_option maxRecDepth 100000 in
set_option maxHeartbeats 400000 in
theorem readAt_in (rb ro b bo L C pb po n c off : Nat) (ee eu : Addr) (i pr : Int) (D : Nat → Nat) (w : World) (hR : Rdr w rb ro b bo L C i pr) (hD : Bytes w b bo L D) (hE : Eofs w ee eu) (hpb : 0 < pb) (hoff : off < L) (hL : L ≤ C)
    (hp : ∀ j, j < n → ∃ u, w.cell? ⟨pb, po + j, none⟩ = some u) (hpf : ∀ j, j < n → w.frozen? ⟨pb, po + j, none⟩ = false) :
    Calls Tryz.prog 129 #[.pointer (some ⟨rb, ro, none⟩), .slice (some ⟨pb, po, none⟩) n c, .int .i64 off] w fun e w' =>
      RetErr ee (min (L - off) n : Nat) e ∧ Chg (fun k x => k = pb ∧ po ≤ x ∧ x < po + min (L - off) n) w w' ∧ Bytes w' pb po (min (L - off) n) (fun j => D (off + j)) := by
  have hs := hR.s
  have he := hE.e
  have Hp := Lib.hid hp; clear hp
  have Hf := Lib.hid hpf; clear hpf
  have HD := Lib.hid hD; clear hD
  clear hR hE
  go_enter Tryz.func129, Tryz.ntmps129
  go_wp2_with (with_reducible refine wpList_copy_chg rfl (.tmp 19) (.tmp 25) 31 31 rfl 5 Tryz.underlying31 (by kernel_rfl) _ _ _ _ _ _ rfl rfl (min (L - off) n) rfl pb po b (bo + off) (fun j => .int .u8 (D (off + j))) ?c1 ?c2 ?c3 ?c4 ?c5 ?_)
  case c2 =>
    intro j hj
    have := HD.out (off + j) (by omega)
    rwa [← Nat.add_assoc] at this
  case c3 => exact fun j hj => Hp.out j (by omega)
  case c4 => exact fun j hj => Hf.out j (by omega)
  case c5 => exact fun _ _ => rfl
  intro w1 hch hv
  have he1 := hch.keep he (by intro h; have := hpb; omega)
  have Hc := Lib.hid hch; clear hch
  have Hv := Lib.hid hv; clear hv
  by_cases hcase : n ≤ L - off
  · go_wp2
    go_ret2
    exact ⟨.inl rfl, Hc.out, Hv.out⟩
  · go_wp2
    go_ret2
    exact ⟨.inr rfl, Hc.out, Hv.out⟩
set_option maxRecDepth 100000 in
set_option maxHeartbeats 400000 in
theorem readAt_out (rb ro b bo L C n c off : Nat) (ee eu : Addr) (pp : Option Addr) (i pr : Int) (w : World) (hR : Rdr w rb ro b bo L C i pr) (hE : Eofs w ee eu) (hoff : L ≤ off) :
    Calls Tryz.prog 129 #[.pointer (some ⟨rb, ro, none⟩), .slice pp n c, .int .i64 off] w fun e w' =>
      e = .returned (.tuple #[.int .i64 0, eofV ee]) ∧ Chg (fun _ _ => False) w w' := by
  have hs := hR.s
  have he := hE.e
  clear hR hE
  go_enter Tryz.func129, Tryz.ntmps129
  go_wp2
  go_quiet (fail)
  go_wp2
  go_ret2
  exact ⟨rfl, (Chg.refl _ _).drewN _⟩
set_option maxHeartbeats 400000 in
theorem newReader_any (pp : Option Addr) (n c : Nat) (w : World) :
    Calls Tryz.prog 42 #[.slice pp n c] w fun e w' => e = .returned (.pointer (some ⟨w.heap.size, 0, none⟩)) ∧ w.alloc (.cells #[.slice pp n c, .int .i64 0, .int .i64 (-1)] 113) = w' := by
  go_enter Tryz.func42, Tryz.ntmps42
  go_wp2
  go_ret
  exact ⟨rfl, rfl⟩
set_option maxRecDepth 100000 in
set_option maxHeartbeats 400000 in
theorem seek_start (rb ro b bo L C off : Nat) (i pr : Int) (w : World) (hR : Rdr w rb ro b bo L C i pr) :
    Calls Tryz.prog 131 #[.pointer (some ⟨rb, ro, none⟩), .int .i64 off, .int .i64 0] w fun e w' =>
      e = .returned (.tuple #[.int .i64 off, .nilIface]) ∧ Chg (fun k x => k = rb ∧ ro ≤ x ∧ x < ro + 3) w w' ∧ Rdr w' rb ro b bo L C off (-1) := by
  have hs := hR.s
  have hi := hR.i
  have hp := hR.p
  have f1 := hR.f 1 (by omega)
  have f2 := hR.f 2 (by omega)
  have HR := Lib.hid hR; clear hR
  go_enter Tryz.func131, Tryz.ntmps131
  go_wp2
  go_ret2
  refine ⟨rfl, ?_, ?_⟩
  · refine Chg.setCell (Chg.setCell (Chg.refl _ _) _ _ ?_ _) _ _ ?_ _ <;> (intro _; exact ⟨rfl, by omega, by omega⟩)
  · exact ⟨by simp [go_sem, hs, hi, hp], by simp [go_sem, hs, hi, hp], by simp [go_sem, hs, hi, hp], fun j hj => by simpa using HR.out.f j hj⟩
end Go.Proofs.YtaageikelkcphaaGreatDoor
