/- Printed by program out of the translation, and struck smaller. -/
import Derived.Test.YtmcjpnijldhelaaGreatDoorProg
import Derived.Below
import Derived.Deep.Draws
import Derived.Deep.AppendLies
import Derived.Maps.AppendAt
import Derived.OwnWalk
import Derived.Laws.BytesArg
import Derived.Laws.MakeOwn
import Derived.Laws.OwnMore
import Derived.Deep.OwnRows
import Derived.Tactics
import Derived.Lib.ConvBytes
import Derived.Laws.Slices
import Derived.WalkKit
import Derived.KernelRfl
import Derived.RowKit3
import Derived.Deep.LoopGhost
import Derived.Deep.QuietTactic
import Derived.BigQuiet
import Derived.WideLaws
import Derived.Deep.DeepCutAuto
import Derived.Deep.CutBlock
import Derived.Deep.RegionHeld3
import Derived.Laws.Rows
import Derived.Lib.AppendStr
import Derived.ArgAppend
import Derived.Laws.IdiomCopy
import Derived.OrdersHeld
import Derived.Laws.BitsLemmas
import Derived.RowKit
import Derived.Test.YtmcjpnijldhelaaGreatDoorWWords
import Derived.Test.YtmcjpnijldhelaaGreatDoorWLast
import Derived.Test.YtmcjpnijldhelaaGreatDoorWTab
import Derived.Test.YtmcjpnijldhelaaGreatDoorWFour
import Derived.Test.YtmcjpnijldhelaaGreatDoorWQPut
import Derived.Test.YtmcjpnijldhelaaGreatDoorWApart
import Derived.Test.YtmcjpnijldhelaaGreatDoorWArr
import Derived.Test.YtmcjpnijldhelaaGreatDoorWZeros
import Derived.Test.YtmcjpnijldhelaaGreatDoorWFoot
import Derived.Test.YtmcjpnijldhelaaGreatDoorWKept
import Derived.Test.YtmcjpnijldhelaaGreatDoorWShare
import Derived.Test.YtmcjpnijldhelaaGreatDoorWN
import Derived.Test.YtmcjpnijldhelaaGreatDoorWRepsOne
import Derived.Test.YtmcjpnijldhelaaGreatDoorWGuard
import Derived.Test.YtmcjpnijldhelaaGreatDoorWNEv
import Derived.Test.YtmcjpnijldhelaaGreatDoorWMore
namespace Go.Proofs.YtmcjpnijldhelaaGreatDoor.PFnDictionaryFloat64Read
open Go.RowKit Go.Proofs.YtmcjpnijldhelaaGreatDoorW.PrintWords Go.Proofs.YtmcjpnijldhelaaGreatDoorW.PrintLast Go.Proofs.YtmcjpnijldhelaaGreatDoorW.PrintMore
attribute [local go_sem] max2_int min2_int max_two min_two max_three min_three max_four min_four
set_option linter.unusedVariables false
set_option linter.unusedSimpArgs false
def errW : Option Int → Value
  | none => .nilIface
  | some c => .iface 0 (.int .i64 c)
theorem errW_none : errW none = .nilIface := rfl
theorem errW_some (c : Int) : errW (some c) = .iface 0 (.int .i64 c) := rfl
theorem info5 : (Tryz.prog.info? 5).map (fun i => (i.zero, i.size, i.bytes)) = some (some (.int .u8 0), 1, 1) := by kernel_rfl
theorem info33 : (Tryz.prog.info? 33).map (fun i => (i.zero, i.size, i.bytes)) = some (some (.int .u64 0), 1, 8) := by kernel_rfl
theorem info35 : (Tryz.prog.info? 35).map (fun i => (i.zero, i.size, i.bytes)) = some (some (.agg #[(.bool false), (.int .u64 0), (.string ⟨#[]⟩), (.slice none 0 0)]), 4, 56) := by kernel_rfl
structure S53 where
  f0 : Bool
  f1 : Int
  f2 : (List Int)
def z53 : S53 := ⟨false, (0 : Int), ([] : List Int)⟩
def k53 : Kd S53 := Kd.iso (Kd.pair Kd.bool (Kd.pair (Kd.int .i64) (Kd.slice 33 (Kd.int .u64)))) (fun x : S53 => (x.f0, x.f1, x.f2))
theorem k53_open {w : World} {x : S53} {cs : List Value} (h : k53.K w x cs) : ∃ A2 c2, cs = [.bool x.f0, .int .i64 x.f1, .slice A2 x.f2.length c2] ∧ x.f2.length ≤ c2 ∧ (Kd.int .u64).C w A2 x.f2.length x.f2 := by
  obtain ⟨_, _, rfl, rfl, ⟨_, _, rfl, rfl, ⟨A2, c2, rfl, l2, g2⟩⟩⟩ := h
  exact ⟨A2, c2, rfl, l2, g2⟩
theorem k53_mk (w : World) (x : S53) {A2 : Option Addr} {c2 : Nat} (l2 : x.f2.length ≤ c2) (g2 : (Kd.int .u64).C w A2 x.f2.length x.f2) : k53.K w x [.bool x.f0, .int .i64 x.f1, .slice A2 x.f2.length c2] := ⟨[.bool x.f0], [.int .i64 x.f1, .slice A2 x.f2.length c2], rfl, rfl, ⟨[.int .i64 x.f1], [.slice A2 x.f2.length c2], rfl, rfl, ⟨A2, c2, rfl, l2, g2⟩⟩⟩
def rd_T53 (xs : List S53) (i : Int) : S53 := xs.getD i.toNat z53
theorem at_T53 {w : World} {A : Option Addr} {n : Nat} {xs : List S53} (h : Kd.C k53 w A n xs) (i : Int) (h0 : 0 ≤ i) (h1 : i < n) : ∃ ad A2 c2, A = some ad ∧ w.cell? (ad.add (i.toNat * 3)) = some (.bool (rd_T53 xs i).f0) ∧ w.cell? ⟨(ad.add (i.toNat * 3)).block, (ad.add (i.toNat * 3)).off + 1, none⟩ = some (.int .i64 (rd_T53 xs i).f1) ∧ w.cell? ⟨(ad.add (i.toNat * 3)).block, (ad.add (i.toNat * 3)).off + 2, none⟩ = some (.slice A2 (rd_T53 xs i).f2.length c2) ∧ (rd_T53 xs i).f2.length ≤ c2 ∧ (Kd.int .u64).C w A2 (rd_T53 xs i).f2.length (rd_T53 xs i).f2 := by
  obtain ⟨ad, c, e, _, hK, hc0⟩ := Kd.C_get h z53 i h0 h1
  have hc : ∀ j u, c[j]? = some u → w.cell? (ad.add (i.toNat * 3 + j)) = some u := hc0
  obtain ⟨A2, c2, rfl, l2, g2⟩ := k53_open hK
  exact ⟨ad, A2, c2, e, hc 0 _ rfl, by rw [← add_field _ _ 1 (by omega)]; exact hc 1 _ rfl, by rw [← add_field _ _ 2 (by omega)]; exact hc 2 _ rfl, l2, g2⟩
structure S35 where
  f0 : Bool
  f1 : Int
  f2 : ByteArray
  f3 : (List S35)
def z35 : S35 := ⟨false, (0 : Int), (⟨#[]⟩ : ByteArray), ([] : List S35)⟩
def F35 (d : Kd S35) : Kd S35 := Kd.iso (Kd.pair Kd.bool (Kd.pair (Kd.int .u64) (Kd.pair Kd.string (Kd.slice 35 d)))) (fun x : S35 => (x.f0, x.f1, x.f2, x.f3))
theorem mono35 : Kd.Mono F35 := Kd.mono_iso _ (Kd.mono_pair (Kd.mono_const _) (Kd.mono_pair (Kd.mono_const _) (Kd.mono_pair (Kd.mono_const _) (Kd.mono_slice 35 Kd.mono_id))))
theorem sub35 : Kd.Sub F35 [35] := Kd.sub_iso _ (Kd.sub_pair (Kd.sub_const _ (by decide)) (Kd.sub_pair (Kd.sub_const _ (by decide)) (Kd.sub_pair (Kd.sub_const _ (by decide)) (Kd.sub_slice 35 (by decide) Kd.sub_id))))
theorem sz35 : ∀ n, (Kd.upto F35 4 [35] n).sz = 4 := Kd.upto_sz (fun _ => rfl)
def k35 : Kd S35 := Kd.fix F35 4 [35] sz35 (Kd.upto_E sub35)
theorem k35_open {w : World} {x : S35} {cs : List Value} (h : k35.K w x cs) : ∃ A3 c3, cs = [.bool x.f0, .int .u64 x.f1, .string x.f2, .slice A3 x.f3.length c3] ∧ x.f3.length ≤ c3 ∧ k35.C w A3 x.f3.length x.f3 := by
  obtain ⟨n, h⟩ := h
  cases n with
  | zero => exact h.elim
  | succ n =>
    obtain ⟨_, _, rfl, rfl, ⟨_, _, rfl, rfl, ⟨_, _, rfl, rfl, ⟨A3, c3, rfl, l3, g3⟩⟩⟩⟩ := h
    exact ⟨A3, c3, rfl, l3, Kd.fix_C g3⟩
theorem k35_mk (w : World) (x : S35) {A3 : Option Addr} {c3 : Nat} (l3 : x.f3.length ≤ c3) (g3 : k35.C w A3 x.f3.length x.f3) : k35.K w x [.bool x.f0, .int .u64 x.f1, .string x.f2, .slice A3 x.f3.length c3] := by
  obtain ⟨n3, q3⟩ := Kd.fix_C_back mono35 g3
  have r3 := Kd.upto_C_le mono35 sz35 (show n3 ≤ n3 by omega) q3
  exact ⟨n3 + 1, ⟨[.bool x.f0], [.int .u64 x.f1, .string x.f2, .slice A3 x.f3.length c3], rfl, rfl, ⟨[.int .u64 x.f1], [.string x.f2, .slice A3 x.f3.length c3], rfl, rfl, ⟨[.string x.f2], [.slice A3 x.f3.length c3], rfl, rfl, ⟨A3, c3, rfl, l3, r3⟩⟩⟩⟩⟩
theorem k35_openF {W : World} {ok : Nat → Prop} {x : S35} {cs : List Value} (h : Kd.FK k35 W ok x cs) : ∃ A3 c3, cs = [.bool x.f0, .int .u64 x.f1, .string x.f2, .slice A3 x.f3.length c3] ∧ x.f3.length ≤ c3 ∧ Kd.F k35 W ok A3 x.f3.length x.f3 := by
  obtain ⟨A3, c3, rfl, l3, _⟩ := k35_open (Kd.FK_now h)
  exact ⟨A3, c3, rfl, l3, (fun W' hW => by obtain ⟨A3_, c3_, he, l3_, g3_⟩ := k35_open (h W' hW); injection (Option.some.inj (show some (Value.slice A3 x.f3.length c3) = some (Value.slice A3_ x.f3.length c3_) from congrArg (fun l => l[3]?) he)) with ha_ _ _; rw [ha_]; exact g3_)⟩
theorem k35_mkF (W : World) (ok : Nat → Prop) (x : S35) {A3 : Option Addr} {c3 : Nat} (l3 : x.f3.length ≤ c3) (g3 : Kd.F k35 W ok A3 x.f3.length x.f3) : Kd.FK k35 W ok x [.bool x.f0, .int .u64 x.f1, .string x.f2, .slice A3 x.f3.length c3] := fun W2 hW => k35_mk W2 x l3 (g3 W2 hW)
def rd_T35 (xs : List S35) (i : Int) : S35 := xs.getD i.toNat z35
theorem at_T35 {w : World} {A : Option Addr} {n : Nat} {xs : List S35} (h : Kd.C k35 w A n xs) (i : Int) (h0 : 0 ≤ i) (h1 : i < n) : ∃ ad A3 c3, A = some ad ∧ w.cell? (ad.add (i.toNat * 4)) = some (.bool (rd_T35 xs i).f0) ∧ w.cell? ⟨(ad.add (i.toNat * 4)).block, (ad.add (i.toNat * 4)).off + 1, none⟩ = some (.int .u64 (rd_T35 xs i).f1) ∧ w.cell? ⟨(ad.add (i.toNat * 4)).block, (ad.add (i.toNat * 4)).off + 2, none⟩ = some (.string (rd_T35 xs i).f2) ∧ w.cell? ⟨(ad.add (i.toNat * 4)).block, (ad.add (i.toNat * 4)).off + 3, none⟩ = some (.slice A3 (rd_T35 xs i).f3.length c3) ∧ (rd_T35 xs i).f3.length ≤ c3 ∧ k35.C w A3 (rd_T35 xs i).f3.length (rd_T35 xs i).f3 := by
  obtain ⟨ad, c, e, _, hK, hc0⟩ := Kd.C_get h z35 i h0 h1
  have hc : ∀ j u, c[j]? = some u → w.cell? (ad.add (i.toNat * 4 + j)) = some u := hc0
  obtain ⟨A3, c3, rfl, l3, g3⟩ := k35_open hK
  exact ⟨ad, A3, c3, e, hc 0 _ rfl, by rw [← add_field _ _ 1 (by omega)]; exact hc 1 _ rfl, by rw [← add_field _ _ 2 (by omega)]; exact hc 2 _ rfl, by rw [← add_field _ _ 3 (by omega)]; exact hc 3 _ rfl, l3, g3⟩
end Go.Proofs.YtmcjpnijldhelaaGreatDoor.PFnDictionaryFloat64Read
