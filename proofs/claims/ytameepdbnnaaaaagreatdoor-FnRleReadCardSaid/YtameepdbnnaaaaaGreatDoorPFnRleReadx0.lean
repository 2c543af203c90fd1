/- Printed by program out of the translation, and struck smaller. -/
import Derived.Test.YtameepdbnnaaaaaGreatDoorProg
import Derived.Below
import Derived.Deep.Draws
import Derived.Deep.AppendLies
import Derived.Maps.AppendAt
import Derived.OwnWalk
import Derived.Laws.BytesArg
import Derived.Laws.MakeOwn
import Derived.Laws.OwnMore
import Derived.Deep.OwnRows
import Derived.Tactics
import Derived.Lib.ConvBytes
import Derived.Laws.Slices
import Derived.WalkKit
import Derived.KernelRfl
import Derived.RowKit3
import Derived.Deep.LoopGhost
import Derived.Deep.QuietTactic
import Derived.BigQuiet
import Derived.WideLaws
import Derived.Deep.DeepCutAuto
import Derived.Deep.CutBlock
import Derived.Deep.RegionHeld3
import Derived.Laws.Rows
import Derived.Lib.AppendStr
import Derived.ArgAppend
import Derived.Laws.IdiomCopy
import Derived.OrdersHeld
import Derived.Laws.BitsLemmas
import Derived.RowKit
import Derived.Test.YtameepdbnnaaaaaGreatDoorWWords
import Derived.Test.YtameepdbnnaaaaaGreatDoorWLast
import Derived.Test.YtameepdbnnaaaaaGreatDoorWTab
import Derived.Test.YtameepdbnnaaaaaGreatDoorWFour
import Derived.Test.YtameepdbnnaaaaaGreatDoorWQPut
import Derived.Test.YtameepdbnnaaaaaGreatDoorWApart
import Derived.Test.YtameepdbnnaaaaaGreatDoorWArr
import Derived.Test.YtameepdbnnaaaaaGreatDoorWZeros
import Derived.Test.YtameepdbnnaaaaaGreatDoorWFoot
import Derived.Test.YtameepdbnnaaaaaGreatDoorWKept
import Derived.Test.YtameepdbnnaaaaaGreatDoorWShare
import Derived.Test.YtameepdbnnaaaaaGreatDoorWN
import Derived.Test.YtameepdbnnaaaaaGreatDoorWNEv
import Derived.Test.YtameepdbnnaaaaaGreatDoorWMore
namespace Go.Proofs.YtameepdbnnaaaaaGreatDoor.PFnRleRead
open Go.RowKit Go.Proofs.YtameepdbnnaaaaaGreatDoorW.PrintWords Go.Proofs.YtameepdbnnaaaaaGreatDoorW.PrintLast Go.Proofs.YtameepdbnnaaaaaGreatDoorW.PrintMore
attribute [local go_sem] max2_int min2_int max_two min_two max_three min_three max_four min_four
set_option linter.unusedVariables false
set_option linter.unusedSimpArgs false
def errW : Option Int → Value
  | none => .nilIface
  | some c => .iface 0 (.int .i64 c)
theorem errW_none : errW none = .nilIface := rfl
theorem errW_some (c : Int) : errW (some c) = .iface 0 (.int .i64 c) := rfl
theorem info5 : (Tryz.prog.info? 5).map (fun i => (i.zero, i.size, i.bytes)) = some (some (.int .u8 0), 1, 1) := by kernel_rfl
theorem info30 : (Tryz.prog.info? 30).map (fun i => (i.zero, i.size, i.bytes)) = some (some (.int .u64 0), 1, 8) := by kernel_rfl
def rd_L3 (xs : List (List Int)) (i : Int) : (List Int) := xs.getD i.toNat ([] : List Int)
theorem at_L3 {w : World} {A : Option Addr} {n : Nat} {xs : List (List Int)} (h : Kd.C (Kd.slice 30 (Kd.int .u64)) w A n xs) (i : Int) (h0 : 0 ≤ i) (h1 : i < n) : ∃ ad A0 c0, A = some ad ∧ w.cell? (ad.add i.toNat) = some (.slice A0 (rd_L3 xs i).length c0) ∧ (rd_L3 xs i).length ≤ c0 ∧ (Kd.int .u64).C w A0 (rd_L3 xs i).length (rd_L3 xs i) := by
  obtain ⟨ad, c, e, _, hK, hc0⟩ := Kd.C_get h ([] : List Int) i h0 h1
  have hc : ∀ j u, c[j]? = some u → w.cell? (ad.add (i.toNat * 1 + j)) = some u := hc0
  obtain ⟨A0, c0, rfl, l0, g0⟩ := hK
  exact ⟨ad, A0, c0, e, by have hq := hc 0 _ rfl; rwa [Nat.mul_one, Nat.add_zero] at hq, l0, g0⟩
structure S36 where
  f0 : Bool
  f1 : Int
  f2 : (List Int)
def z36 : S36 := ⟨false, (0 : Int), ([] : List Int)⟩
def k36 : Kd S36 := Kd.iso (Kd.pair Kd.bool (Kd.pair (Kd.int .i64) (Kd.slice 30 (Kd.int .u64)))) (fun x : S36 => (x.f0, x.f1, x.f2))
theorem k36_open {w : World} {x : S36} {cs : List Value} (h : k36.K w x cs) : ∃ A2 c2, cs = [.bool x.f0, .int .i64 x.f1, .slice A2 x.f2.length c2] ∧ x.f2.length ≤ c2 ∧ (Kd.int .u64).C w A2 x.f2.length x.f2 := by
  obtain ⟨_, _, rfl, rfl, ⟨_, _, rfl, rfl, ⟨A2, c2, rfl, l2, g2⟩⟩⟩ := h
  exact ⟨A2, c2, rfl, l2, g2⟩
theorem k36_openM {w : World} {base : Nat} {ok : Nat → Prop} {x : S36} {cs : List Value} (h : k36.M w base ok x cs) : ∃ v2, cs = [.bool x.f0, .int .i64 x.f1, v2] ∧ (Kd.int .u64).R 30 w base ok v2 x.f2 := by
  obtain ⟨_, _, rfl, rfl, ⟨_, _, rfl, rfl, ⟨v2, rfl, g2⟩⟩⟩ := h
  exact ⟨v2, rfl, g2⟩
theorem k36_mk (w : World) (x : S36) {A2 : Option Addr} {c2 : Nat} (l2 : x.f2.length ≤ c2) (g2 : (Kd.int .u64).C w A2 x.f2.length x.f2) : k36.K w x [.bool x.f0, .int .i64 x.f1, .slice A2 x.f2.length c2] := ⟨[.bool x.f0], [.int .i64 x.f1, .slice A2 x.f2.length c2], rfl, rfl, ⟨[.int .i64 x.f1], [.slice A2 x.f2.length c2], rfl, rfl, ⟨A2, c2, rfl, l2, g2⟩⟩⟩
theorem k36_mkM (w : World) (base : Nat) (ok : Nat → Prop) (x : S36) {v2 : Value} (g2 : (Kd.int .u64).R 30 w base ok v2 x.f2) : k36.M w base ok x [.bool x.f0, .int .i64 x.f1, v2] := ⟨[.bool x.f0], [.int .i64 x.f1, v2], rfl, rfl, ⟨[.int .i64 x.f1], [v2], rfl, rfl, ⟨v2, rfl, g2⟩⟩⟩
def rd_T36 (xs : List S36) (i : Int) : S36 := xs.getD i.toNat z36
theorem at_T36 {w : World} {A : Option Addr} {n : Nat} {xs : List S36} (h : Kd.C k36 w A n xs) (i : Int) (h0 : 0 ≤ i) (h1 : i < n) : ∃ ad A2 c2, A = some ad ∧ w.cell? (ad.add (i.toNat * 3)) = some (.bool (rd_T36 xs i).f0) ∧ w.cell? ⟨(ad.add (i.toNat * 3)).block, (ad.add (i.toNat * 3)).off + 1, none⟩ = some (.int .i64 (rd_T36 xs i).f1) ∧ w.cell? ⟨(ad.add (i.toNat * 3)).block, (ad.add (i.toNat * 3)).off + 2, none⟩ = some (.slice A2 (rd_T36 xs i).f2.length c2) ∧ (rd_T36 xs i).f2.length ≤ c2 ∧ (Kd.int .u64).C w A2 (rd_T36 xs i).f2.length (rd_T36 xs i).f2 := by
  obtain ⟨ad, c, e, _, hK, hc0⟩ := Kd.C_get h z36 i h0 h1
  have hc : ∀ j u, c[j]? = some u → w.cell? (ad.add (i.toNat * 3 + j)) = some u := hc0
  obtain ⟨A2, c2, rfl, l2, g2⟩ := k36_open hK
  exact ⟨ad, A2, c2, e, hc 0 _ rfl, by rw [← add_field _ _ 1 (by omega)]; exact hc 1 _ rfl, by rw [← add_field _ _ 2 (by omega)]; exact hc 2 _ rfl, l2, g2⟩
structure S70 where
  f0 : Bool
  f1 : Int
  f2 : ByteArray
  f3 : (List S70)
def z70 : S70 := ⟨false, (0 : Int), (⟨#[]⟩ : ByteArray), ([] : List S70)⟩
def F70 (d : Kd S70) : Kd S70 := Kd.iso (Kd.pair Kd.bool (Kd.pair (Kd.int .u64) (Kd.pair Kd.string (Kd.slice 70 d)))) (fun x : S70 => (x.f0, x.f1, x.f2, x.f3))
theorem mono70 : Kd.Mono F70 := Kd.mono_iso _ (Kd.mono_pair (Kd.mono_const _) (Kd.mono_pair (Kd.mono_const _) (Kd.mono_pair (Kd.mono_const _) (Kd.mono_slice 70 Kd.mono_id))))
theorem sub70 : Kd.Sub F70 [70] := Kd.sub_iso _ (Kd.sub_pair (Kd.sub_const _ (by decide)) (Kd.sub_pair (Kd.sub_const _ (by decide)) (Kd.sub_pair (Kd.sub_const _ (by decide)) (Kd.sub_slice 70 (by decide) Kd.sub_id))))
theorem sz70 : ∀ n, (Kd.upto F70 4 [70] n).sz = 4 := Kd.upto_sz (fun _ => rfl)
def k70 : Kd S70 := Kd.fix F70 4 [70] sz70 (Kd.upto_E sub70)
theorem k70_open {w : World} {x : S70} {cs : List Value} (h : k70.K w x cs) : ∃ A3 c3, cs = [.bool x.f0, .int .u64 x.f1, .string x.f2, .slice A3 x.f3.length c3] ∧ x.f3.length ≤ c3 ∧ k70.C w A3 x.f3.length x.f3 := by
  obtain ⟨n, h⟩ := h
  cases n with
  | zero => exact h.elim
  | succ n =>
    obtain ⟨_, _, rfl, rfl, ⟨_, _, rfl, rfl, ⟨_, _, rfl, rfl, ⟨A3, c3, rfl, l3, g3⟩⟩⟩⟩ := h
    exact ⟨A3, c3, rfl, l3, Kd.fix_C g3⟩
theorem k70_openM {w : World} {base : Nat} {ok : Nat → Prop} {x : S70} {cs : List Value} (h : k70.M w base ok x cs) : ∃ v3, cs = [.bool x.f0, .int .u64 x.f1, .string x.f2, v3] ∧ k70.R 70 w base ok v3 x.f3 := by
  obtain ⟨n, h⟩ := h
  cases n with
  | zero => exact h.elim
  | succ n =>
    obtain ⟨_, _, rfl, rfl, ⟨_, _, rfl, rfl, ⟨_, _, rfl, rfl, ⟨v3, rfl, g3⟩⟩⟩⟩ := h
    exact ⟨v3, rfl, Kd.fix_R g3⟩
theorem k70_mk (w : World) (x : S70) {A3 : Option Addr} {c3 : Nat} (l3 : x.f3.length ≤ c3) (g3 : k70.C w A3 x.f3.length x.f3) : k70.K w x [.bool x.f0, .int .u64 x.f1, .string x.f2, .slice A3 x.f3.length c3] := by
  obtain ⟨n3, q3⟩ := Kd.fix_C_back mono70 g3
  have r3 := Kd.upto_C_le mono70 sz70 (show n3 ≤ n3 by omega) q3
  exact ⟨n3 + 1, ⟨[.bool x.f0], [.int .u64 x.f1, .string x.f2, .slice A3 x.f3.length c3], rfl, rfl, ⟨[.int .u64 x.f1], [.string x.f2, .slice A3 x.f3.length c3], rfl, rfl, ⟨[.string x.f2], [.slice A3 x.f3.length c3], rfl, rfl, ⟨A3, c3, rfl, l3, r3⟩⟩⟩⟩⟩
theorem k70_mkM (w : World) (base : Nat) (ok : Nat → Prop) (x : S70) {v3 : Value} (g3 : k70.R 70 w base ok v3 x.f3) : k70.M w base ok x [.bool x.f0, .int .u64 x.f1, .string x.f2, v3] := by
  obtain ⟨n3, q3⟩ := Kd.fix_R_back mono70 g3
  have r3 := Kd.upto_R_le mono70 sz70 (show n3 ≤ n3 by omega) q3
  exact ⟨n3 + 1, ⟨[.bool x.f0], [.int .u64 x.f1, .string x.f2, v3], rfl, rfl, ⟨[.int .u64 x.f1], [.string x.f2, v3], rfl, rfl, ⟨[.string x.f2], [v3], rfl, rfl, ⟨v3, rfl, r3⟩⟩⟩⟩⟩
def rd_T70 (xs : List S70) (i : Int) : S70 := xs.getD i.toNat z70
theorem at_T70 {w : World} {A : Option Addr} {n : Nat} {xs : List S70} (h : Kd.C k70 w A n xs) (i : Int) (h0 : 0 ≤ i) (h1 : i < n) : ∃ ad A3 c3, A = some ad ∧ w.cell? (ad.add (i.toNat * 4)) = some (.bool (rd_T70 xs i).f0) ∧ w.cell? ⟨(ad.add (i.toNat * 4)).block, (ad.add (i.toNat * 4)).off + 1, none⟩ = some (.int .u64 (rd_T70 xs i).f1) ∧ w.cell? ⟨(ad.add (i.toNat * 4)).block, (ad.add (i.toNat * 4)).off + 2, none⟩ = some (.string (rd_T70 xs i).f2) ∧ w.cell? ⟨(ad.add (i.toNat * 4)).block, (ad.add (i.toNat * 4)).off + 3, none⟩ = some (.slice A3 (rd_T70 xs i).f3.length c3) ∧ (rd_T70 xs i).f3.length ≤ c3 ∧ k70.C w A3 (rd_T70 xs i).f3.length (rd_T70 xs i).f3 := by
  obtain ⟨ad, c, e, _, hK, hc0⟩ := Kd.C_get h z70 i h0 h1
  have hc : ∀ j u, c[j]? = some u → w.cell? (ad.add (i.toNat * 4 + j)) = some u := hc0
  obtain ⟨A3, c3, rfl, l3, g3⟩ := k70_open hK
  exact ⟨ad, A3, c3, e, hc 0 _ rfl, by rw [← add_field _ _ 1 (by omega)]; exact hc 1 _ rfl, by rw [← add_field _ _ 2 (by omega)]; exact hc 2 _ rfl, by rw [← add_field _ _ 3 (by omega)]; exact hc 3 _ rfl, l3, g3⟩
end Go.Proofs.YtameepdbnnaaaaaGreatDoor.PFnRleRead
