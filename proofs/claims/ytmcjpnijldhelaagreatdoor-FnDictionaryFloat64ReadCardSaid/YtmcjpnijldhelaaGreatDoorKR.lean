/- 'laws.FnDictionaryFloat64Read': for every input the law returns true, and each argument and each named variable reads behind the call as it read before. The card ties the listed package-level variables to the program's text. No further condition. -/
import Derived.Test.YtmcjpnijldhelaaGreatDoorRows
import Derived.Test.YtmcjpnijldhelaaGreatDoorKQ
import Derived.ProofKit
import Derived.LaidMore
import Derived.LaidLaws
import Derived.OpenShut
import Derived.OpenVars
import Derived.Lib.LaidTab
import Derived.Stop.LaidErr
import Derived.Stop.Joined
import Derived.Test.YtmcjpnijldhelaaGreatDoorTie
import Derived.Test.YtmcjpnijldhelaaGreatDoorCards
import Derived.SevenTiedAt
set_option linter.unusedVariables false
set_option linter.unusedSimpArgs false
/- The row: what the listed variables give; a start that meets the condition; the law lifted to the row. -/
namespace Go.Proofs.YtmcjpnijldhelaaGreatDoor
open Go Go.ChangeShapes Go.WideShapes Go.ChangeAt Go.RowKit Go.Proofs.YtmcjpnijldhelaaGreatDoor.PFnDictionaryFloat64Read Go.Proofs.YtmcjpnijldhelaaGreatDoorW.PrintWords Go.Proofs.YtmcjpnijldhelaaGreatDoorW.PrintMore
theorem own : ownKnob Tryz.prog.godebug = none := by kernel_rfl
theorem laidOut : laidOutB Tryz.prog = true := by kernel_rfl
theorem starE : "*" ++ "errors.errorString" = "*errors.errorString" := by decide
theorem rowE (u : TypeId) (h : Tryz.prog.typeName? 3 u = some "*errors.errorString") : u = 181 :=
  typeName_ptr_named (nm := "errors.errorString") (by rw [starE]; kernel_rfl) (by kernel_rfl) (by decide) u (by rw [starE]; exact h)
/-- WHAT THE CONDITION GIVES. -/
theorem of_laid {W : World} (h : laidMetH Tryz.prog (Rows.fnDictionaryFloat64ReadRow.laid) W) : ∃ ee eu, Eofs W ee eu := by
  rw [MakeChecks.laidMetH_plain _ _ _ (by kernel_rfl)] at h
  have h0 : laidMet Tryz.prog (_ :: _ :: _ :: _ :: []) W := h
  have h1 := laidMet.tail h0
  have h2 := laidMet.tail h1
  have n1 : Tryz.prog.globalNamed "io.EOF" = some 4 := by kernel_rfl
  have n2 : Tryz.prog.globalNamed "io.ErrUnexpectedEOF" = some 2 := by kernel_rfl
  obtain ⟨a1, s1, v1, -⟩ := laid_sentinel (nm := "*errors.errorString") (n := "io.EOF") h1 n1 (by kernel_rfl) Tryz.underlying61 rowE Tryz.underlying181 Tryz.underlying183 rfl rfl Tryz.underlying9 (by kernel_rfl) (by kernel_rfl)
  obtain ⟨a2, s2, v2, -⟩ := laid_sentinel (nm := "*errors.errorString") (n := "io.ErrUnexpectedEOF") h2 n2 (by kernel_rfl) Tryz.underlying61 rowE Tryz.underlying181 Tryz.underlying183 rfl rfl Tryz.underlying9 (by kernel_rfl) (by kernel_rfl)
  exact ⟨a1, a2, by simpa using World.var?_cell n1 v1 0, by simpa using World.var?_cell n2 v2 0⟩
/-- The last of the variables lies in the heap. -/
theorem glob_lt {W : World} (h : laidMetH Tryz.prog (Rows.fnDictionaryFloat64ReadRow.laid) W) : 7 < W.heap.size := by
  rw [MakeChecks.laidMetH_plain _ _ _ (by kernel_rfl)] at h
  have h0 : laidMet Tryz.prog (_ :: _ :: _ :: _ :: []) W := h
  have n0 : Tryz.prog.globalNamed "io.ErrShortBuffer" = some 7 := by kernel_rfl
  obtain ⟨a0, s0, v0, -⟩ := laid_sentinel (nm := "*errors.errorString") (n := "io.ErrShortBuffer") h0 n0 (by kernel_rfl) Tryz.underlying61 rowE Tryz.underlying181 Tryz.underlying183 rfl rfl Tryz.underlying9 (by kernel_rfl) (by kernel_rfl)
  have h1 : W.cell? ⟨7, 0, none⟩ = some (.iface 181 (.pointer (some a0))) := by simpa using World.var?_cell n0 v0 0
  exact World.block_lt_of_cell? W _ h1
/-- The door's own heap meets the condition. -/
theorem door_met (os : Os) (args : Array Value) : laidMetH Tryz.prog Rows.fnDictionaryFloat64ReadRow.laid ((World.doorLaid Tryz.prog 100 os).forCall (fun _ _ => 0) ⟨#[], args, []⟩).memory :=
  laidMetH_of_parts3 (fuel := 8) (laidMet_of_run' 8 (by kernel_rfl) (by kernel_rfl)) (by kernel_rfl) (by kernel_rfl)
theorem vars_len {H : Type} {enc : TypeId × Value → H} {W : World} {sp : Nat → Bool} : ∀ {ns : List String} {gs : List (DataW H)} {ps : List MemPlace}, DataW.TrodVars enc Tryz.prog W sp ns gs ps → gs.length = ns.length
  | [], [], _, _ => rfl
  | [], _ :: _, _, h => h.elim
  | _ :: _, [], _, h => h.elim
  | n :: ns, d :: ds, _, ⟨_, _, _, _, _, _, _, _, _, _, hs, _⟩ => congrArg (· + 1) (vars_len hs)
set_option maxRecDepth 100000 in
theorem lifted (os : Os) (started : os.Started) (H : Type) (enc : TypeId × Value → H) :
    ReturnsInHanded {} Tryz.checked os 4 .any (fun w args => (Rows.fnDictionaryFloat64ReadSpec.pre enc Tryz.prog Tryz.f4 [] false w args ∧ laidMetH Tryz.prog Rows.fnDictionaryFloat64ReadRow.laid w) ∧ sizedMet enc Tryz.prog Tryz.f4 (OpenSpec.ofChange Rows.fnDictionaryFloat64ReadSpec) false w args)
      (Rows.fnDictionaryFloat64ReadSpec.post enc Tryz.prog Tryz.f4 false true false false) := by
  refine returnsInHanded_of_change_and (C := Tryz.checked) (X := fun w _ => laidMetH Tryz.prog Rows.fnDictionaryFloat64ReadRow.laid w) (fun _ _ _ hh h => h.of_heap hh) own started (by kernel_rfl) Tryz.func4
    (ChangeSpec.witness_shaped (enc := enc) (C := Tryz.checked) (os := os) (X := fun w _ => laidMetH Tryz.prog Rows.fnDictionaryFloat64ReadRow.laid w) false (World.doorLaid Tryz.prog 100 os) #[.slice none 0 0, .int .i64 0, .slice none 0 0, .slice none 0 0] 8 rfl (World.shaped_of_RefB (by kernel_rfl) (by kernel_rfl)) (by kernel_rfl) (by kernel_rfl) (by kernel_rfl) (door_met os _)) ?_
  intro W base args ds gs before hval0 hW _ _ hL _
  have hval : ∀ (j : Nat) t v, Tryz.f4.params[j]? = some t → args[j]? = some v → Value.okWide Tryz.prog W .any base t v := hval0
  have hW' := hW
  obtain ⟨p, q, hA0, hV, rfl, hfz, hnd⟩ := hW
  have hA : DataW.TrodAll enc Tryz.prog W 0 (fun _ => true) true Tryz.f4.params.toList args.toList ds p := hA0
  rw [Tryz.params4] at hA hval
  obtain ⟨v0, vs0, d0, ds0, p0, q0, hargs, rfl, rfl, h0, r0⟩ := trodAll_cons hA
  obtain ⟨v1, vs1, d1, ds1, p1, q1, rfl, rfl, rfl, h1, r1⟩ := trodAll_cons r0
  obtain ⟨v2, vs2, d2, ds2, p2, q2, rfl, rfl, rfl, h2, r2⟩ := trodAll_cons r1
  obtain ⟨v3, vs3, d3, ds3, p3, q3, rfl, rfl, rfl, h3, r3⟩ := trodAll_cons r2
  obtain ⟨rfl, rfl, rfl⟩ := trodAll_nil r3
  obtain rfl : args = #[v0, v1, v2, v3] := by cases args; simp_all
  obtain rfl : gs = [] := List.length_eq_zero_iff.1 (vars_len hV)
  have k0 := h0
  have k2 := h2
  have k3 := h3
  have lt0 : ∀ x ∈ p0, x.block < W.heap.size := by obtain ⟨m, hm⟩ := k0; exact DataW.trod_lt m _ _ _ hm
  have lt2 : ∀ x ∈ p2, x.block < W.heap.size := by obtain ⟨m, hm⟩ := k2; exact DataW.trod_lt m _ _ _ hm
  have lt3 : ∀ x ∈ p3, x.block < W.heap.size := by obtain ⟨m, hm⟩ := k3; exact DataW.trod_lt m _ _ _ hm
  obtain ⟨a0, len0, cap0, rfl⟩ := okWide_slice Tryz.underlying22 (hval 0 22 v0 rfl rfl)
  obtain ⟨a1, rfl, rfl, rfl, w1⟩ := open_int Tryz.underlying3 (hval 1 3 v1 rfl rfl) h1
  obtain ⟨a2, len2, cap2, rfl⟩ := okWide_slice Tryz.underlying23 (hval 2 23 v2 rfl rfl)
  obtain ⟨a3, len3, cap3, rfl⟩ := okWide_slice Tryz.underlying29 (hval 3 29 v3 rfl rfl)
  obtain ⟨f0, hf0⟩ := h0
  obtain ⟨f2, hf2⟩ := h2
  obtain ⟨f3, hf3⟩ := h3
  obtain ⟨A0, c0, d, e0, hc0, -, hK0, hR0⟩ := open_vals f0 hf0
  obtain ⟨A2, c2, l, e2, hc2, hK2, hR2⟩ := open_runs hf2
  obtain ⟨A3, c3, ns, e3, hc3, hK3, hR3⟩ := open_C Tryz.underlying29 Tryz.underlying3 (by kernel_rfl) hf3
  simp only [Value.cells, List.cons.injEq, Value.slice.injEq, and_true] at e0 e2 e3
  obtain ⟨rfl, rfl, rfl⟩ := e0
  obtain ⟨rfl, rfl, rfl⟩ := e2
  obtain ⟨rfl, rfl, rfl⟩ := e3
  obtain ⟨ee, eu, hE⟩ := of_laid hL
  have hg : 7 < W.heap.size := glob_lt hL
  clear hA0 hval0 hval
  refine (law_ok d a0 cap0 a1 l a2 cap2 ns a3 cap3 ee eu W hK0 hc0 hR0 hK2 hc2 hR2 hK3 hc3 (fun n hn => wf_i64 (hR3 n hn)) hE hg).mono fun e W' ⟨he, hC⟩ => ?_
  subst he
  have bel : Below W.heap.size W W' := hC.toBelow
  exact ⟨_, rfl, _, _, _, [], _, _, hW', trodAll_mk1 (shut_bool Tryz.underlying4 _), trodAll_mk4 (Below.trod laidOut (by kernel_rfl) (of_decide_eq_true (by kernel_rfl)) k0 bel lt0) (shut_int Tryz.underlying3 w1) (Below.trod laidOut (by kernel_rfl) (of_decide_eq_true (by kernel_rfl)) k2 bel lt2) (Below.trod laidOut (by kernel_rfl) (of_decide_eq_true (by kernel_rfl)) k3 bel lt3), Below.trodVars laidOut bel (by kernel_rfl) hV, bel.frame _, fun h => by cases h⟩
theorem law_row : Rows.FnDictionaryFloat64ReadSaid :=
  OpenClaim.holds_of_wide 4 Tryz.f4 rfl rfl rfl rfl rfl rfl rfl ⟨rfl, rfl, rfl, rfl, rfl⟩ rfl rfl rfl rfl rfl (by kernel_rfl) Tryz.func4 (by kernel_rfl)
    (of_decide_eq_true (by kernel_rfl)) (by unfold Func.isWrapper; first | (rw [if_pos (by decide +kernel)]; kernel_rfl) | (rw [if_neg (by decide +kernel)]; exact ⟨rfl, rfl⟩))
    (fun os started H enc _ => lifted os started H enc)
end Go.Proofs.YtmcjpnijldhelaaGreatDoor
/- 'laws.FnDictionaryFloat64Read': for every input the law returns true, and each argument and each named variable reads behind the call as it read before. The card ties the listed package-level variables to the program's text. No further condition. -/
namespace Go.Proofs.YtmcjpnijldhelaaGreatDoor
open Go
theorem fnDictionaryFloat64Read_card : Rows.FnDictionaryFloat64ReadCardSaid :=
  Claim7.holds_tied_plain_at .later [] [.sentinel, .sentinel, .sentinel, .sentinel] true _ true
    law_row (fun _ h => by cases h) (by kernel_rfl) (fun _ h => by cases h) fnDictionaryFloat64Read_row_tie rfl ⟨rfl, rfl⟩ (by kernel_rfl) rfl
    (fun f fn hf hfn => by
      obtain rfl : f = 4 := Option.some.inj ((show Tryz.prog.funcNamed "given.example/pub-arrowroot/laws.FnDictionaryFloat64Read" = some 4 by kernel_rfl).symm.trans hf) |>.symm
      obtain rfl : fn = Tryz.f4 := (Option.some.inj (Tryz.func4.symm.trans hfn)).symm
      exact ⟨by kernel_rfl, fun j t ht => by
        rw [Tryz.params4] at ht
        have hm : t ∈ [22, 3, 23, 29] := by simpa using Array.mem_of_getElem? ht
        have hall : ([22, 3, 23, 29].all fun u => !Tryz.prog.wantsStandIn u) = true := by kernel_rfl
        exact (show Tryz.prog.wantsStandIn t = false by simpa using List.all_eq_true.1 hall t hm)⟩)
    (by kernel_rfl)
#print axioms fnDictionaryFloat64Read_card
end Go.Proofs.YtmcjpnijldhelaaGreatDoor
