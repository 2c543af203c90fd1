/- Part 7 of the proof: the texts DDF, DG, FN, PA, PB, PC, joined. What each proves stands ahead of it. -/
import Derived.Test.YtmcjpnijldhelaaGreatDoorKF
import Derived.Test.YtmcjpnijldhelaaGreatDoorKB
import Derived.Test.YtmcjpnijldhelaaGreatDoorKD
import Derived.Test.YtmcjpnijldhelaaGreatDoorKA
import Derived.Test.YtmcjpnijldhelaaGreatDoorPFnDictionaryFloat64Readx1
import Derived.Test.YtmcjpnijldhelaaGreatDoorPFnDictionaryFloat64Readx5
import Derived.Test.YtmcjpnijldhelaaGreatDoorRF
set_option linter.unusedVariables false
set_option linter.unusedSimpArgs false
/- The dictionary's converter: its row of values, which grows as it is asked. Of float64. -/
namespace Go.Proofs.YtmcjpnijldhelaaGreatDoor
open Go Go.RowKit
namespace XF
/-- What a decoder of the dictionary's values owes: Sv m w: it stands behind m of them; Ov: the blocks that are its own. -/
structure ValD (us : List Value) (Ov : Nat → Prop) (Sv : Nat → World → Prop) (vd : Nat) : Prop where
  keep : ∀ m w w' S, Sv m w → Chg S w w' → (∀ a x, S a x → ¬ Ov a) → Sv m w'
  lt : ∀ m w, Sv m w → ∀ a, Ov a → a < w.heap.size
  dec : ∀ m w n ob, Sv m w → m + n ≤ us.length → 1 ≤ n → ¬ Ov ob → (∀ j, j < n → ∃ u, w.cell? ⟨ob, j, none⟩ = some u) → (∀ j, j < n → w.frozen? ⟨ob, j, none⟩ = false) →
    Calls Tryz.prog 251 #[.pointer (some ⟨vd, 0, none⟩), .slice (some ⟨ob, 0, none⟩) n n] w fun e w' =>
      e = .returned (.tuple #[.int .i64 n, .nilIface]) ∧ Chg (fun a x => Ov a ∨ (a = ob ∧ x < n)) w w' ∧ (∀ j, j < n → w'.cell? ⟨ob, j, none⟩ = some (us.getD (m + j) .nilIface)) ∧ Sv (m + n) w'
/-- The converter's own blocks. -/
def OD (dc : Nat) (Ov : Nat → Prop) (v : Value) : Nat → Prop := fun a => a = dc ∨ Ov a ∨ v.ownBlock = some a
/-- The converter, with m values in its row. -/
structure DCV (us : List Value) (Ov : Nat → Prop) (Sv : Nat → World → Prop) (vd dc m : Nat) (v : Value) (w : World) : Prop where
  vp : w.cell? ⟨dc, 0, none⟩ = some (.iface 95 (.pointer (some ⟨vd, 0, none⟩)))
  ln : w.cell? ⟨dc, 1, none⟩ = some (.int .i64 us.length)
  di : w.cell? ⟨dc, 2, none⟩ = some v
  ze : w.cell? ⟨dc, 3, none⟩ = some (.float .f64 0)
  fr : ∀ j, j < 4 → w.frozen? ⟨dc, j, none⟩ = false
  own : Own1 w 0 93 v (us.take m)
  sv : Sv m w
  nv : ¬ Ov dc
  no : ∀ g, v.ownBlock = some g → g ≠ dc ∧ ¬ Ov g
  ml : m ≤ us.length
theorem DCV.lt {us : List Value} {Ov : Nat → Prop} {Sv : Nat → World → Prop} {vd dc m : Nat} {v : Value} {w : World} (hV : ValD us Ov Sv vd) (h : DCV us Ov Sv vd dc m v w) : ∀ a, OD dc Ov v a → a < w.heap.size := by
  rintro a (rfl | hh | hh)
  · exact World.block_lt_of_cell? _ _ h.vp
  · exact hV.lt _ _ h.sv a hh
  · exact (h.own.lt a hh).2
theorem DCV.keep {us : List Value} {Ov : Nat → Prop} {Sv : Nat → World → Prop} {vd dc m : Nat} {v : Value} {w w' : World} (hV : ValD us Ov Sv vd) (h : DCV us Ov Sv vd dc m v w) {S : Nat → Nat → Prop} (hc : Chg S w w') (hS : ∀ a x, S a x → ¬ OD dc Ov v a) : DCV us Ov Sv vd dc m v w' := by
  have hd : ∀ x, ¬ S dc x := fun x hh => hS _ _ hh (.inl rfl)
  exact ⟨hc.keep h.vp (hd _), hc.keep h.ln (hd _), hc.keep h.di (hd _), hc.keep h.ze (hd _), fun j hj => (hc.frozen _ _ (World.block_lt_of_cell? _ _ h.vp)).trans (h.fr j hj), h.own.keepAt hc (fun g hg o hh => hS _ _ hh (.inr (.inr hg))), hV.keep _ _ _ _ h.sv hc (fun a x hh ho => hS _ _ hh (.inr (.inl ho))), h.nv, h.no, h.ml⟩
theorem DCV.drew {us : List Value} {Ov : Nat → Prop} {Sv : Nat → World → Prop} {vd dc m : Nat} {v : Value} {w : World} (hV : ValD us Ov Sv vd) (h : DCV us Ov Sv vd dc m v w) : DCV us Ov Sv vd dc m v w.drew := h.keep hV (Chg.drew (Chg.refl Nix w)) (fun _ _ h => h.elim)
/-- The row's slice. -/
theorem DCV.slice {us : List Value} {Ov : Nat → Prop} {Sv : Nat → World → Prop} {vd dc m : Nat} {v : Value} {w : World} (h : DCV us Ov Sv vd dc m v w) : ∃ p c, v = .slice p m c ∧ m ≤ c ∧ ∀ j, j < m → ∃ g, p = some ⟨g, 0, none⟩ ∧ v.ownBlock = some g ∧ w.cell? ⟨g, j, none⟩ = some (us.getD j .nilIface) := by
  have hl : (us.take m).length = m := by rw [List.length_take]; have := h.ml; omega
  rcases h.own.2 with ⟨hv, hn⟩ | ⟨g, cap, cur, hv, hb, hg, hnc, rest⟩
  · have : m = 0 := by omega
    subst this
    exact ⟨none, 0, hv, Nat.zero_le _, fun j hj => by omega⟩
  · rw [hl] at hv hnc
    refine ⟨_, cap, hv, by omega, fun j hj => ⟨g, rfl, by rw [hv]; rfl, ?_⟩⟩
    have hw := h.own
    have hv2 : v = .slice (some ⟨g, 0, none⟩) (us.take m).length cap := by rw [hl]; exact hv
    have := World.ownsRow.cells hw (g := g) (by rw [hv2]; rfl) j (us.getD j .nilIface) (by
      rw [List.getElem?_take_of_lt hj, List.getD_eq_getElem?_getD]
      have : j < us.length := by have := h.ml; omega
      rw [List.getElem?_eq_getElem this]; rfl)
    rwa [addr_add, Nat.zero_add] at this
/-- One of the values. -/
def IsE (u : Value) : Prop := ∃ b : Nat, u = .float .f64 b
theorem IsE.one {u : Value} (h : IsE u) : u.oneCell' = true := by obtain ⟨b, rfl⟩ := h; rfl
theorem infoE : (Tryz.prog.info? 93).map (fun i => (i.zero, i.size, i.bytes)) = some (some (.float .f64 0), 1, 8) := by kernel_rfl
theorem make_row (n : Nat) (h2 : n ≤ 1000000) : ∀ W : World, (Instr.makeSlice 107 (.int .i64 (n : Int)) (.int .i64 (n : Int))).run Tryz.prog W = .ok (.slice (some ⟨W.heap.size, 0, none⟩) n n) (W.alloc (.cells (madeCells #[(.float .f64 0)] n) 93)) :=
  fun W => run_make_row' (P := Tryz.prog) 107 93 (.float .f64 0) 8 (by kernel_rfl) (by kernel_rfl) rfl .i64 .i64 n (by omega) (by omega) W
theorem nil_Decode (a : Addr) (w : World) : (nilAhead 455 95 (.pointer (some a)) "Decode").run Tryz.prog w = .ok (some false) w := by kernel_rfl
theorem method_Decode (a : Addr) (w : World) : (method 455 95 (.pointer (some a)) "Decode").run Tryz.prog w = .ok (251, .pointer (some a)) w := by kernel_rfl
/-- Behind an asking: nothing but the converter's own has turned, the row lies where it lay or in a new block. -/
def Asked (us : List Value) (Ov : Nat → Prop) (Sv : Nat → World → Prop) (vd dc : Nat) (v : Value) (w : World) (m' : Nat) (v' : Value) (w' : World) : Prop :=
  DCV us Ov Sv vd dc m' v' w' ∧ Chg (fun a _ => OD dc Ov v a) w w' ∧ Stays w v v'
set_option maxRecDepth 100000 in
set_option maxHeartbeats 1000000 in
theorem ensure_ok (us : List Value) (Ov : Nat → Prop) (Sv : Nat → World → Prop) (vd dc m idx : Nat) (v : Value) (w : World) (hV : ValD us Ov Sv vd) (h : DCV us Ov Sv vd dc m v w) (hi : idx < us.length) (hul : us.length ≤ 1000) (h1 : ∀ u ∈ us, IsE u) :
    Calls Tryz.prog 220 #[.pointer (some ⟨dc, 0, none⟩), .int .i32 idx] w fun e w' => e = .returned .nilIface ∧ ∃ m' v', m ≤ m' ∧ idx < m' ∧ Asked us Ov Sv vd dc v w m' v' w' := by
  obtain ⟨p, c, rfl, hmc, hcl⟩ := h.slice
  have k0 := h.vp
  have k1 := h.ln
  have k2 := h.di
  have f2 := h.fr 2 (by omega)
  have hml := h.ml
  have Hn := nil_Decode
  have Hm := method_Decode
  have H := Lib.hid h; clear h
  have HV := Lib.hid hV; clear hV
  have H1 := Lib.hid h1; clear h1
  clear hcl
  by_cases him : idx < m
  · go_enter Tryz.func220, Tryz.ntmps220
    go_wp2_with fail
    go_ret
    exact ⟨rfl, m, _, Nat.le_refl _, him, H.out, Chg.refl _ _, fun k hk => .inl hk⟩
  · obtain ⟨n, hn⟩ : ∃ n, n = idx + 1 - m := ⟨_, rfl⟩
    have hn1 : 1 ≤ n := by omega
    have hni : (idx : Int) + 1 - m = n := by omega
    have hmn : m + n ≤ us.length := by omega
    have hix : idx < m + n := by omega
    obtain ⟨X, hX⟩ : ∃ X, X = Obj.cells (madeCells #[(.float .f64 0)] n) 93 := ⟨_, rfl⟩
    have hmk : ∀ W : World, (Instr.makeSlice 107 (.int .i64 ((idx : Int) + 1 - m)) (.int .i64 ((idx : Int) + 1 - m))).run Tryz.prog W = .ok (.slice (some ⟨W.heap.size, 0, none⟩) n n) (W.alloc X) := by
      intro W
      rw [hX, hni]
      exact make_row n (by omega) W
    have hOl : ¬ Ov w.heap.size := fun hh => by have := HV.out.lt _ _ H.out.sv _ hh; omega
    have hS1 : Sv m (w.alloc X) := HV.out.keep _ _ _ _ H.out.sv (Chg.new w X) (fun _ _ h => h.elim)
    have Hcall := Lib.hid (HV.out.dec m (w.alloc X) n w.heap.size hS1 (by omega) hn1 hOl (fun j hj => ⟨_, by rw [hX]; exact made_cell w _ n j _ hj⟩) (fun j hj => by rw [hX]; exact fresh_frozen rfl))
    have Hni := Lib.hid hni
    have HnE := Lib.hid hn
    have HOl := Lib.hid hOl
    have hdl := World.block_lt_of_cell? _ _ k0
    have him' : ¬ (idx : Int) < m := by omega
    clear hS1 hni hn hX hOl
    go_enter Tryz.func220, Tryz.ntmps220
    go_wp2_with fail
    refine Hcall.out.mono ?_
    rintro e w2 ⟨rfl, h2, h3, h4⟩
    have hdw : ¬ (Ov dc ∨ (dc = w.heap.size ∧ True)) := by
      rintro (hh | ⟨hh, -⟩)
      · exact H.out.nv hh
      · omega
    have hds : ∀ x, ¬ (Ov dc ∨ (dc = w.heap.size ∧ x < n)) := fun x hh => hdw (hh.imp id (fun h => ⟨h.1, trivial⟩))
    have hw2 : Chg (fun a _ => OD dc Ov (.slice p m c) a) w w2 := h2.unalloc (by
      rintro a x ha (hh | ⟨hh, -⟩)
      · exact .inr (.inl hh)
      · omega)
    have e0 := h2.keep (cell_alloc X k0) (hds _)
    have e1 := h2.keep (cell_alloc X k1) (hds _)
    have e2 := h2.keep (cell_alloc X k2) (hds _)
    have e3 := h2.keep (cell_alloc X H.out.ze) (hds _)
    have efr : ∀ j, j < 4 → w2.frozen? ⟨dc, j, none⟩ = false := fun j hj => (h2.frozen dc j (by simp; omega)).trans (frozen_alloc X hdl (H.out.fr j hj))
    have eo : Own1 w2 0 93 (.slice p m c) (us.take m) := (H.out.own.keep (Chg.new w X) (fun _ _ _ h => h.elim)).keepAt h2 (by
      rintro g hg o (hh | ⟨hh, -⟩)
      · exact (H.out.no g hg).2 hh
      · have := (H.out.own.lt g hg).2; omega)
    have hrd := reads_sub (w := w2) (g := w.heap.size) (c := n) (n := n) (m := m) (us := us) hmn h3
    have hlt2 : dc < w2.heap.size := World.block_lt_of_cell? _ _ e0
    have hwl : w.heap.size ≤ w2.heap.size := hw2.size
    have H4 := Lib.hid h4
    have Hw2 := Lib.hid hw2
    have Eo := Lib.hid eo
    have Efr := Lib.hid efr
    have Hrd := Lib.hid hrd
    have E0 := Lib.hid e0
    have E1 := Lib.hid e1
    have E3 := Lib.hid e3
    clear h2 h3 h4 hdw hds hw2 eo efr hrd e0 e1 e3 k0 k1 k2 f2 hmk Hcall Hn Hm
    have k2 := e2
    go_wp2_with fail
    refine wp_region_txt [] (by kernel_rfl) (by kernel_rfl) ?_
    repeat (first | (refine wpTxt_pure rfl rfl (fun K hK => ?_); go_simp; refine hK _ ?_; clear hK K) | (refine wpTxt_still rfl rfl (fun K hK => ?_); go_simp; refine hK _ ?_; clear hK K))
    obtain ⟨i, hi, hz, hs1, hby⟩ := info_parts infoE
    refine wpTxt_append_own rfl (.tmp 59) (.tmp 62) 107 rfl 0 93 i (.float .f64 0) 8 Tryz.underlying107 hi hz hs1 hby rfl _ (us.take m) rfl (by exact Eo.out) _ ((us.drop m).take n) rfl (by exact Hrd.out) (fun u hu => (H1.out u (List.mem_of_mem_drop (List.mem_of_mem_take hu))).one) (by rw [List.length_take, List.length_take, List.length_drop]; unfold maxLen; omega) (by rw [List.length_take, List.length_take, List.length_drop]; omega) (Nat.zero_le _) ?_
    intro v' w3 hO hC0 hSt0
    have hC : Chg (fun k _ => (Value.slice p m c).ownBlock = some k) w2 w3 := Chg.undrew hC0
    have hSt : Stays w2 (.slice p m c) v' := hSt0
    clear hC0 hSt0
    obtain ⟨p', c', rfl, -⟩ := hO.reads
    have hL : (us.take m ++ (us.drop m).take n).length = m + n := by rw [List.length_append, List.length_take, List.length_take, List.length_drop]; omega
    rw [hL] at hO hSt ⊢
    obtain ⟨v', hv'⟩ : ∃ v', v' = Value.slice p' (m + n) c' := ⟨_, rfl⟩
    have hnd : ∀ x, ¬ ((fun (k : Nat) (_ : Nat) => (Value.slice p m c).ownBlock = some k) dc x) := fun x hh => (H.out.no dc hh).1 rfl
    have e0 := hC.keep E0.out (hnd 0)
    have e1 := hC.keep E1.out (hnd 1)
    have e2 := hC.keep k2 (hnd 2)
    have e3 := hC.keep E3.out (hnd 3)
    have efr : ∀ j, j < 4 → w3.frozen? ⟨dc, j, none⟩ = false := fun j hj => (hC.frozen dc j hlt2).trans (Efr.out j hj)
    have f2 := efr 2 (by omega)
    have h5 : Sv (m + n) w3 := HV.out.keep _ _ _ _ H4.out hC (fun a x hh ho => (H.out.no a hh).2 ho)
    have hvd : v'.ownBlock ≠ some dc := by
      intro hh
      rw [hv'] at hh
      rcases hSt dc hh with h6 | h6
      · exact (H.out.no dc h6).1 rfl
      · omega
    have hfin : Asked us Ov Sv vd dc (.slice p m c) w (m + n) v' (w3.setCell ⟨dc, 2, none⟩ v') := by
      have hc3 : Chg (fun a x => a = dc ∧ x = 2) w3 (w3.setCell ⟨dc, 2, none⟩ v') := (Chg.refl _ _).setCell _ _ (fun _ => ⟨rfl, rfl⟩) _
      have hown : Own1 w3 0 93 v' (us.take (m + n)) := by
        rw [List.take_add, hv']
        exact hO
      refine ⟨⟨hc3.keep e0 (by rintro ⟨-, h⟩; omega), hc3.keep e1 (by rintro ⟨-, h⟩; omega), World.cell?_setCell_same _ _ _ e2, hc3.keep e3 (by rintro ⟨-, h⟩; omega), fun j hj => by rw [World.frozen?_setCell]; exact efr j hj, hown.keepAt hc3 (by rintro g hg o ⟨rfl, -⟩; exact hvd hg), HV.out.keep _ _ _ _ h5 hc3 (by rintro a x ⟨rfl, -⟩; exact H.out.nv), H.out.nv, ?_, hmn⟩, ?_, ?_⟩
      · intro g hg
        have hg' := hg
        rw [hv'] at hg'
        rcases hSt g hg' with h6 | h6
        · exact H.out.no g h6
        · refine ⟨by omega, fun hh => ?_⟩
          have := HV.out.lt _ _ H4.out g hh
          omega
      · refine (Hw2.out.comp hC (fun _ _ _ h => h) (fun a x _ h => .inr (.inr h))).comp hc3 (fun _ _ _ h => h) (by rintro a x ha ⟨rfl, -⟩; exact .inl rfl)
      · intro g hg
        rw [hv'] at hg
        rcases hSt g hg with h6 | h6
        · exact .inl h6
        · exact .inr (by omega)
    have Hfin := Lib.hid hfin
    have Hv := Lib.hid hv'
    clear hO hC hSt hv' hfin h5 e0 e1 e3 efr hvd hnd
    repeat (first | (refine wpTxt_pure rfl rfl (fun K hK => ?_); go_simp; refine hK _ ?_; clear hK K) | (refine wpTxt_still rfl rfl (fun K hK => ?_); go_simp; refine hK _ ?_; clear hK K))
    (refine wpTxt_effect rfl rfl (fun K hK => ?_); go_simp; refine hK _ _ ?_; clear hK K)
    refine wpTxt_nil ?_
    go_wp2_with fail
    go_ret
    have hfin := Hfin.out
    rw [Hv.out] at hfin
    exact ⟨rfl, m + n, _, by omega, hix, hfin⟩
end XF
end Go.Proofs.YtmcjpnijldhelaaGreatDoor
/- The plain decoder of float64s. -/
namespace Go.Proofs.YtmcjpnijldhelaaGreatDoor
open Go Go.RowKit
theorem ta_i32 (w : World) : (Instr.typeAssert (.iface 93 (.float .f64 0)) 20 21 true).run Tryz.prog w = .ok (.tuple #[.int .i32 0, .bool false]) w := by kernel_rfl
theorem ta_f32 (w : World) : (Instr.typeAssert (.iface 93 (.float .f64 0)) 20 155 true).run Tryz.prog w = .ok (.tuple #[.float .f32 0, .bool false]) w := by kernel_rfl
theorem ta_i64 (w : World) : (Instr.typeAssert (.iface 93 (.float .f64 0)) 20 2 true).run Tryz.prog w = .ok (.tuple #[.int .i64 0, .bool false]) w := by kernel_rfl
theorem ta_f64 (w : World) : (Instr.typeAssert (.iface 93 (.float .f64 0)) 20 93 true).run Tryz.prog w = .ok (.tuple #[.float .f64 0, .bool true]) w := by kernel_rfl
theorem tp_i32 (a : Addr) (w : World) : (Instr.typeAssert (.iface 348 (.pointer (some a))) 20 345 true).run Tryz.prog w = .ok (.tuple #[.pointer none, .bool false]) w := by kernel_rfl
theorem tp_f32 (a : Addr) (w : World) : (Instr.typeAssert (.iface 348 (.pointer (some a))) 20 347 true).run Tryz.prog w = .ok (.tuple #[.pointer none, .bool false]) w := by kernel_rfl
theorem tp_i64 (a : Addr) (w : World) : (Instr.typeAssert (.iface 348 (.pointer (some a))) 20 346 true).run Tryz.prog w = .ok (.tuple #[.pointer none, .bool false]) w := by kernel_rfl
theorem tp_f64 (a : Addr) (w : World) : (Instr.typeAssert (.iface 348 (.pointer (some a))) 20 348 true).run Tryz.prog w = .ok (.tuple #[.pointer (some a), .bool true]) w := by kernel_rfl
theorem results_cell_one {P : Program} {fn : Func} {p : Tmp} {ty : TypeId} (h : fn.results = #[.cell p ty]) (tmps : Array Value) (w : World) (a : Addr) (v : Value) (hp : tmps.getD p undef = .pointer (some a)) (hl : (loadVar ty a).run P w = .ok v w) : (results fn tmps).run P w = .ok v w := by
  have hp' : tmps[p]?.getD undef = .pointer (some a) := by simpa using hp
  simp [results, h, hp', asAddr, hl]
theorem frombits_run (V : Nat) (w : World) : (callFunc 65 #[.int .u64 (V : Int)]).run Tryz.prog w = .ok (.value (.float .f64 V)) w := by kernel_rfl
set_option maxRecDepth 100000 in
set_option maxHeartbeats 1000000 in
theorem width_ok (w : World) : Calls Tryz.prog 254 #[] w fun e w' => e = .returned (.int .i64 8) ∧ w = w' := by
  have h1 := ta_i32
  have h2 := ta_f32
  have h3 := ta_i64
  have h4 := ta_f64
  go_enter Tryz.func254, Tryz.ntmps254
  go_wp2_with fail
  go_ret
  exact ⟨rfl, rfl⟩
set_option maxRecDepth 100000 in
set_option maxHeartbeats 1000000 in
theorem required_ok (n : Nat) (hn : n ≤ 1000000) (w : World) : Calls Tryz.prog 252 #[.int .i64 n] w fun e w' => e = .returned (.int .i64 (8 * n : Nat)) ∧ w = w' := by
  have H := Lib.hid (width_ok w)
  go_enter Tryz.func252, Tryz.ntmps252
  go_wp2_with fail
  refine H.out.mono ?_
  rintro e w1 ⟨rfl, rfl⟩
  go_wp2_with fail
  go_ret
  exact ⟨ret_int' (by omega), rfl⟩
set_option maxRecDepth 100000 in
set_option maxHeartbeats 1000000 in
theorem getValue_ok (b bo i n len cap : Nat) (D : Nat → Nat) (hD : ∀ j, D j < 256) (w : World) (hB : Bytes w b bo (8 * n) D) (hi : i < n) (hlen : len = 8 * n) (hn : n ≤ 1000000) (hcap : len ≤ cap) (hcap2 : cap ≤ 9223372036854775807) :
    Calls Tryz.prog 256 #[.slice (some ⟨b, bo, none⟩) len cap, .int .i64 i] w fun e w' => e = .returned (.float .f64 (leV D (8 * i) 8)) ∧ Chg Nix w w' := by
  have h1 := tp_i32
  have h2 := tp_f32
  have h3 := tp_i64
  have h4 := tp_f64
  go_enter Tryz.func256, Tryz.ntmps256
  obtain ⟨q, hq⟩ : ∃ q, q = 8 * i := ⟨_, rfl⟩
  have hmul : IntKind.i64.wrap (8 * (i : Int)) = (q : Int) := by rw [hq]; exact IntWalk.i64_in _ (by omega)
  have hql : q + 8 ≤ len := by omega
  have hql2 : q ≤ len := by omega
  have hqc : ¬ cap = q := by omega
  have hqt : ((q : Nat) : Int).toNat = q := by omega
  have hq0 : 0 ≤ (q : Int) := by omega
  have Hq := Lib.hid hq
  clear hq hlen
  go_wp2_with fail
  refine wp_region_txt [] (by kernel_rfl) (by kernel_rfl) ?_
  repeat (first | (refine wpTxt_pure rfl rfl (fun K hK => ?_); go_simp; refine hK _ ?_; clear hK K) | (refine wpTxt_still rfl rfl (fun K hK => ?_); go_simp; refine hK _ ?_; clear hK K))
  obtain ⟨w1, hw1⟩ : ∃ w1, w1 = (w.alloc (.cells #[.float .f64 0] 93)).drew := ⟨_, rfl⟩
  have hc1 : Chg Nix w w1 := by rw [hw1]; exact (Chg.new w _).drew
  have k1 : w1.cell? ⟨w.heap.size, 0, none⟩ = some (.float .f64 0) := by rw [hw1]; exact fresh_cell rfl rfl
  have f1 : w1.frozen? ⟨w.heap.size, 0, none⟩ = false := by rw [hw1]; exact fresh_frozen rfl
  rw [← hw1]
  have Hle := Lib.hid (le64_any b (bo + q) (len - q) (cap - q) (fun j => D (q + j)) (fun j => hD _) w1 (by omega) ((hB.keep hc1 (fun _ _ h => h)).sub q 8 (by have := Hq.out; omega)))
  have Hc1 := Lib.hid hc1
  clear hw1 hc1 hD hB
  (refine wpTxt_effect rfl rfl (fun K hK => ?_); go_simp)
  refine Hle.out.mono ?_
  rintro e w2 ⟨rfl, hc2⟩
  have k2 := hc2.keep k1 (fun h => h)
  have f2 := (hc2.frozen _ _ (World.block_lt_of_cell? _ _ k1)).trans f1
  have Hc2 := Lib.hid (Hc1.out.comp (T := Nix) hc2 (fun _ _ _ h => h) (fun _ _ _ h => h.elim))
  have e1 : leV (fun j => D (q + j)) 0 8 = leV D (8 * i) 8 := by
    rw [← Hq.out]; simp [leV, Nat.add_assoc]
  rw [e1]
  obtain ⟨V, hV⟩ : ∃ V, V = leV D (8 * i) 8 := ⟨_, rfl⟩
  rw [← hV]
  have HV := Lib.hid hV
  clear hc2 k1 f1 e1 Hc1 Hle hV
  (refine hK _ _ ?_; clear hK K)
  repeat (first | (refine wpTxt_pure rfl rfl (fun K hK => ?_); go_simp; refine hK _ ?_; clear hK K) | (refine wpTxt_still rfl rfl (fun K hK => ?_); go_simp; refine hK _ ?_; clear hK K))
  have Hfb := frombits_run
  have Hsf := run_store_float Tryz.prog
  have Hlt := World.block_lt_of_cell? _ _ k2
  (refine wpTxt_effect rfl rfl (fun K hK => ?_); go_simp)
  (refine hK _ _ ?_; clear hK K)
  repeat (first | (refine wpTxt_pure rfl rfl (fun K hK => ?_); go_simp; refine hK _ ?_; clear hK K) | (refine wpTxt_still rfl rfl (fun K hK => ?_); go_simp; refine hK _ ?_; clear hK K))
  (refine wpTxt_effect rfl rfl (fun K hK => ?_); go_simp; refine hK _ _ ?_; clear hK K)
  refine wpTxt_nil ?_
  go_wp2_with fail
  have k3 := World.cell?_setCell_same _ _ (.float .f64 V) (World.cell?_setCell_same w2 ⟨w.heap.size, 0, none⟩ (.float .f64 V) k2)
  have hfin : Chg Nix w ((w2.setCell ⟨w.heap.size, 0, none⟩ (.float .f64 V)).setCell ⟨w.heap.size, 0, none⟩ (.float .f64 V)) := (Hc2.out.setCell _ _ (fun h => by omega) _).setCell _ _ (fun h => by omega) _
  refine bodyPost_ret (results_cell_one rfl _ _ ⟨w.heap.size, 0, none⟩ (.float .f64 V) rfl ?_) rfl ?_
  · simp [go_sem, k3, Tryz.underlying93]
  · rw [← HV.out]
    exact ⟨rfl, hfin⟩
/-- A row of float64s that bytes stand for. -/
structure Fb (b bo n g : Nat) (D : Nat → Nat) (w wr : World) (k : Nat) : Prop where
  chg : Chg Nix w wr
  gl : w.heap.size ≤ g ∧ g < wr.heap.size
  dst : ∀ j, j < n → ∃ u, wr.cell? ⟨g, j, none⟩ = some u
  fr : ∀ j, j < n → wr.frozen? ⟨g, j, none⟩ = false
  out : ∀ j, j < k → wr.cell? ⟨g, j, none⟩ = some (.float .f64 (leV D (8 * j) 8))
set_option maxRecDepth 100000 in
set_option maxHeartbeats 1000000 in
theorem fromBytes_ok (b bo n len cap : Nat) (D : Nat → Nat) (hD : ∀ j, D j < 256) (w : World) (hB : Bytes w b bo (8 * n) D) (hlen : len = 8 * n) (hn1 : 1 ≤ n) (hn : n ≤ 1000000) (hcap : len ≤ cap) (hcap2 : cap ≤ 9223372036854775807) :
    Calls Tryz.prog 255 #[.slice (some ⟨b, bo, none⟩) len cap] w fun e w' => ∃ g, e = .returned (.slice (some ⟨g, 0, none⟩) n n) ∧ Fb b bo n g D w w' n := by
  obtain ⟨X, hX⟩ : ∃ X, X = Obj.cells (madeCells #[.float .f64 0] n) 93 := ⟨_, rfl⟩
  have hmk := XF.make_row n hn
  rw [← hX] at hmk
  have h0 : Fb b bo n w.heap.size D w (w.alloc X) 0 := ⟨Chg.new w X, ⟨Nat.le_refl _, by simp⟩, fun j hj => ⟨_, by rw [hX]; exact made_cell w _ n j _ hj⟩, fun j hj => by rw [hX]; exact fresh_frozen rfl, fun j hj => by omega⟩
  have H0 := Lib.hid h0
  have Hr := Lib.hid (required_ok 1 (by omega) w)
  have hl8 : (len : Int) / 8 = n := by omega
  have hl8' : (len : Int).tdiv 8 = n := by rw [Int.tdiv_eq_ediv_of_nonneg (by omega)]; exact hl8
  have HB := Lib.hid hB
  have HD := Lib.hid hD
  have Hsf := run_store_float Tryz.prog
  have Hlen := Lib.hid hlen
  clear h0 hX hB hD hlen
  go_enter Tryz.func255, Tryz.ntmps255
  go_wp2_with fail
  refine Hr.out.mono ?_
  rintro e w1 ⟨rfl, rfl⟩
  go_wp2_with fail
  go_loopw [12] (fun i wx => ∃ k, k ≤ n ∧ i = .int .i64 (k : Nat) ∧ Fb b bo n w.heap.size D w wx k) (fun i _ => n - (intOf i).toNat)
  case atStart => exact ⟨0, Nat.zero_le _, rfl, H0.out⟩
  case round =>
    clear H0
    obtain ⟨k, hk, rfl, hF⟩ := hrel
    by_cases hkn : k < n
    · have Hc := Lib.hid (getValue_ok b bo k n len cap D HD.out wr (HB.out.keep hF.chg (fun _ _ h => h)) hkn Hlen.out hn hcap hcap2)
      have HF := Lib.hid hF
      clear hF
      go_wp2_with fail
      refine Hc.out.mono ?_
      rintro e w2 ⟨rfl, hc2⟩
      obtain ⟨u, hu⟩ := HF.out.dst k hkn
      have hu2 := hc2.keep hu (fun h => h)
      have hfz := (hc2.frozen _ _ HF.out.gl.2).trans (HF.out.fr k hkn)
      obtain ⟨V, hV⟩ : ∃ V, V = leV D (8 * k) 8 := ⟨_, rfl⟩
      have hF2 : Fb b bo n w.heap.size D w (w2.setCell ⟨w.heap.size, k, none⟩ (.float .f64 V)) (k + 1) := by
        refine ⟨(HF.out.chg.comp hc2 (fun _ _ _ h => h) (fun _ _ _ h => h)).setCell _ _ (fun h => by omega) _, ⟨Nat.le_refl _, by have := hc2.lt HF.out.gl.2; simpa using this⟩, fun j hj => ?_, fun j hj => by rw [World.frozen?_setCell]; exact (hc2.frozen _ _ HF.out.gl.2).trans (HF.out.fr j hj), fun j hj => ?_⟩
        · obtain ⟨u, hu⟩ := HF.out.dst j hj
          exact cell_is _ ⟨u, hc2.keep hu (fun h => h)⟩
        · by_cases hjk : j = k
          · subst hjk
            rw [← hV]
            exact World.cell?_setCell_same _ _ _ hu2
          · exact cell_ne _ (hc2.keep (HF.out.out j (by omega)) (fun h => h)) (by omega)
      rw [← hV]
      have HF2 := Lib.hid hF2
      clear hF2 hc2 hu hV
      go_wp2_with fail
      go_roundw
      case rel => exact ⟨k + 1, by omega, by go_num, HF2.out⟩
      case measure => simp [intOf]; omega
    · have hke : k = n := by omega
      subst hke
      have HF := Lib.hid hF
      clear hF
      go_wp2_with fail
      go_ret
      exact ⟨_, rfl, HF.out⟩
set_option maxRecDepth 100000 in
set_option maxHeartbeats 1000000 in
theorem copyFrom_ok (b bo n len cap ob oo c2 : Nat) (D : Nat → Nat) (hD : ∀ j, D j < 256) (w : World) (hB : Bytes w b bo (8 * n) D) (hlen : len = 8 * n) (hn1 : 1 ≤ n) (hn : n ≤ 1000000) (hcap : len ≤ cap) (hcap2 : cap ≤ 9223372036854775807) (hd : ∀ j, j < n → ∃ u, w.cell? ⟨ob, oo + j, none⟩ = some u) (hf : ∀ j, j < n → w.frozen? ⟨ob, oo + j, none⟩ = false) :
    Calls Tryz.prog 253 #[.slice (some ⟨ob, oo, none⟩) n c2, .slice (some ⟨b, bo, none⟩) len cap] w fun e w' => e = .returned (.tuple #[]) ∧ Chg (fun a x => a = ob ∧ oo ≤ x ∧ x < oo + n) w w' ∧ ∀ j, j < n → w'.cell? ⟨ob, oo + j, none⟩ = some (.float .f64 (leV D (8 * j) 8)) := by
  have Hc := Lib.hid (fromBytes_ok b bo n len cap D hD w hB hlen hn1 hn hcap hcap2)
  have Hd := Lib.hid hd
  have Hf := Lib.hid hf
  clear hD hB hlen hd hf
  go_enter Tryz.func253, Tryz.ntmps253
  go_wp2_with fail
  refine Hc.out.mono ?_
  rintro e w1 ⟨g, rfl, hF⟩
  have HF := Lib.hid hF
  have hd1 : ∀ j, j < n → ∃ u, w1.cell? ⟨ob, oo + j, none⟩ = some u := fun j hj => by
    obtain ⟨u, hu⟩ := Hd.out j hj
    exact ⟨u, hF.chg.keep hu (fun h => h)⟩
  have hf1 : ∀ j, j < n → w1.frozen? ⟨ob, oo + j, none⟩ = false := fun j hj => by
    obtain ⟨u, hu⟩ := Hd.out j hj
    exact (hF.chg.frozen _ _ (World.block_lt_of_cell? _ _ hu)).trans (Hf.out j hj)
  have Hd1 := Lib.hid hd1
  have Hf1 := Lib.hid hf1
  clear hF hd1 hf1
  go_wp2_with (with_reducible refine wpList_copy_chg rfl (.tmp 4) (.tmp 6) 107 107 rfl 93 Tryz.underlying107 (by kernel_rfl) _ _ _ _ _ _ rfl rfl n (Nat.min_self n) ob oo g 0 (fun j => .float .f64 (leV D (8 * j) 8)) ?c1 ?c2 ?c3 ?c4 ?c5 ?_)
  case c2 => exact fun j hj => by rw [Nat.zero_add]; exact HF.out.out j hj
  case c3 => exact Hd1.out
  case c4 => exact Hf1.out
  case c5 => exact fun j hj => rfl
  intro w2 hc2 ho2
  have Hc2 := Lib.hid ((HF.out.chg.mono (fun _ _ _ h => h.elim) : Chg (fun a x => a = ob ∧ oo ≤ x ∧ x < oo + n) w w1).trans hc2)
  have Ho2 := Lib.hid ho2
  clear hc2 ho2
  go_wp2_with fail
  go_end0
  exact ⟨rfl, Hc2.out, Ho2.out⟩
end Go.Proofs.YtmcjpnijldhelaaGreatDoor
/- A new reader of runs; what batches take. -/
namespace Go.Proofs.YtmcjpnijldhelaaGreatDoor
open Go Go.RowKit
/-- What the batches take, and that there is enough. -/
def takes : List Int → List Nat → List Nat
  | [], _ => []
  | n :: ns, vs => (if n < 0 then [] else vs.take n.natAbs) ++ takes ns (vs.drop n.natAbs)
def Fits : List Int → List Nat → Prop
  | [], _ => True
  | n :: ns, vs => n.natAbs ≤ vs.length ∧ n.natAbs ≤ 1000000 ∧ Fits ns (vs.drop n.natAbs)
end Go.Proofs.YtmcjpnijldhelaaGreatDoor
/- The plain law: what an evaluation with enough fuel gives; the sizes; the same words; the batches. -/
namespace Go.Proofs.YtmcjpnijldhelaaGreatDoor
open Go Go.RowKit Go.Proofs.YtmcjpnijldhelaaGreatDoor.PFnDictionaryFloat64Read Go.Proofs.YtmcjpnijldhelaaGreatDoorW.PrintWords
/-- From some fuel on. -/
def Ev {α : Type} (F : Nat → Option α) (r : α) : Prop := ∃ k0, ∀ k, k0 ≤ k → F k = some r
theorem Ev.step {α : Type} {F G : Nat → Option α} {r : α} (h : ∀ k, F (k + 1) = G k) (hg : Ev G r) : Ev F r := by
  obtain ⟨k0, hk⟩ := hg
  refine ⟨k0 + 1, fun k hk1 => ?_⟩
  obtain ⟨m, rfl⟩ : ∃ m, k = m + 1 := ⟨k - 1, by omega⟩
  rw [h]; exact hk m (by omega)
theorem Ev.now {α : Type} {F : Nat → Option α} {r : α} (h : ∀ k, F (k + 1) = some r) : Ev F r :=
  ⟨1, fun k hk1 => by obtain ⟨m, rfl⟩ : ∃ m, k = m + 1 := ⟨k - 1, by omega⟩; exact h m⟩
theorem Ev.const {α : Type} {r : α} : Ev (fun _ => some r) r := ⟨0, fun _ _ => rfl⟩
theorem Ev.get {α : Type} {F : Nat → Option α} {r : α} (h : Ev F r) : ∃ k, F k = some r := ⟨_, h.choose_spec _ (Nat.le_refl _)⟩
theorem Ev.bind {α β : Type} {F : Nat → Option α} {a : α} {G : Nat → α → Option β} {b : β} (h : Ev F a) (hg : Ev (fun k => G k a) b) : Ev (fun k => (F k).bind (G k)) b := by
  obtain ⟨k0, h0⟩ := h
  obtain ⟨k1, h1⟩ := hg
  exact ⟨k0 + k1, fun k hk => by show (F k).bind (G k) = _; rw [h0 k (by omega)]; exact h1 k (by omega)⟩
theorem Ev.congr {α : Type} {F G : Nat → Option α} {r : α} (h : ∀ k, F k = G k) (hg : Ev G r) : Ev F r := by
  obtain ⟨k0, hk⟩ := hg
  exact ⟨k0, fun k hk1 => (h k).trans (hk k hk1)⟩
theorem w64 (n : Nat) (h : n ≤ 9223372036854775807) : RowKit.wrap64 (n : Int) = n := IntWalk.wrap64_in _ (by omega)
theorem rd_app (pre suf : List Int) (x : Int) : rd (pre ++ x :: suf) (pre.length : Int) = x := by
  unfold rd
  rw [Int.toNat_natCast, List.getD_eq_getElem?_getD, List.getElem?_append_right (Nat.le_refl _), Nat.sub_self]; rfl
/-- The sizes: one answer or the other. -/
theorem fits_l0 (l : List S53) (hb : l.length ≤ 2147483647) : ∀ n i, i + n = l.length → ∃ b, Ev (fun k => laws_zzFits5.l0 k l (l.length : Int) (i : Int)) b := by
  intro n
  induction n with
  | zero => exact fun i h => ⟨true, .now fun k => by rw [laws_zzFits5.l0, if_neg (by omega)]⟩
  | succ n ih =>
    intro i h
    obtain ⟨b, hb2⟩ := ih (i + 1) (by omega)
    by_cases hc : ((rd_T53 l i).f2.length : Int) > 2147483647
    · refine ⟨false, .now fun k => ?_⟩
      rw [laws_zzFits5.l0, if_pos (by omega), if_pos (by omega), if_pos (by omega)]
      simp only [laws_zzFits6.f, if_pos hc, Option.bind_some]
      rfl
    · refine ⟨b, .step (fun k => ?_) hb2⟩
      rw [laws_zzFits5.l0, if_pos (by omega), if_pos (by omega), if_pos (by omega)]
      simp only [laws_zzFits6.f, if_neg hc, Option.bind_some]
      rw [show (i : Int) + 1 = (i + 1 : Nat) by push_cast; rfl, w64 _ (by omega)]
      rfl
theorem fits_ev (l : List S53) : ∃ b, Ev (fun k => laws_zzFits5.f k l) b := by
  by_cases hc : (l.length : Int) > 2147483647
  · exact ⟨false, .congr (fun k => by unfold laws_zzFits5.f; rw [if_pos hc]) .const⟩
  · obtain ⟨b, hb⟩ := fits_l0 l (by omega) l.length 0 (by omega)
    exact ⟨b, .congr (fun k => by unfold laws_zzFits5.f; rw [if_neg hc]; rfl) hb⟩
end Go.Proofs.YtmcjpnijldhelaaGreatDoor
/- The plain law: the batches. -/
namespace Go.Proofs.YtmcjpnijldhelaaGreatDoor
open Go Go.RowKit Go.Proofs.YtmcjpnijldhelaaGreatDoor.PFnDictionaryFloat64Read Go.Proofs.YtmcjpnijldhelaaGreatDoorW.PrintWords
/-- Numbers as integers. -/
def ints (l : List Nat) : List Int := l.map (fun n : Nat => (n : Int))
theorem ints_len (l : List Nat) : (ints l).length = l.length := List.length_map ..
theorem ints_app (l m : List Nat) : ints (l ++ m) = ints l ++ ints m := List.map_append ..
theorem ints_cut (vs : List Nat) (p m : Nat) : ((ints vs).take (p + m)).drop p = ints ((vs.drop p).take m) := by
  rw [List.drop_take, Nat.add_sub_cancel_left]
  unfold ints
  rw [List.map_take, List.map_drop]
theorem batched_l0 (vs : List Nat) (ns : List Int) (hN : ∀ n ∈ ns, -9223372036854775808 ≤ n ∧ n ≤ 9223372036854775807) (hL : vs.length ≤ 1000000) (hn : ns.length ≤ 50) : ∀ (suf pre : List Int) (done : List Nat) (p : Nat), pre ++ suf = ns → p ≤ vs.length → done.length ≤ p →
    ∃ r : List Int × Bool, Ev (fun k => spec_Batched.l0 k (ints vs) (ints done) (p : Int) ns (ns.length : Int) (pre.length : Int)) r ∧ (r.2 = true → Fits suf (vs.drop p) ∧ r.1 = ints (done ++ takes suf (vs.drop p))) := by
  intro suf
  induction suf with
  | nil =>
    intro pre done p h hp hd
    rw [List.append_nil] at h
    subst h
    refine ⟨(ints done, true), .now fun k => by rw [spec_Batched.l0, if_neg (by omega)], fun _ => ⟨trivial, by rw [takes, List.append_nil]⟩⟩
  | cons n suf ih =>
    intro pre done p h hp hd
    have hl : pre.length + suf.length + 1 = ns.length := by rw [← h, List.length_append, List.length_cons]; omega
    obtain ⟨r1, r2⟩ := hN n (by rw [← h]; simp)
    have hrd : rd ns (pre.length : Int) = n := by rw [← h]; exact rd_app pre suf n
    have hlen : ((ints vs).length : Int) - p = (vs.length - p : Nat) := by rw [ints_len]; omega
    -- what is taken
    obtain ⟨x, hx, hstart⟩ : ∃ x : Int, (x = if n < 0 then RowKit.wrap64 (-n) else n) ∧ ∀ k, spec_Batched.l0 (k + 1) (ints vs) (ints done) (p : Int) ns (ns.length : Int) (pre.length : Int) = spec_Batched.j1 k (ints vs) (ints done) (p : Int) n x ns (ns.length : Int) (pre.length : Int) := by
      refine ⟨_, rfl, fun k => ?_⟩
      rw [spec_Batched.l0, if_pos (by omega), if_pos (by omega), if_pos (by omega), hrd]
      by_cases hn0 : n < 0
      · rw [if_pos hn0, if_pos hn0]
      · rw [if_neg hn0, if_neg hn0]
    by_cases hx0 : x < 0
    · exact ⟨([], false), .step hstart (.step (fun k => by rw [spec_Batched.j1, if_pos hx0]) (.now fun k => by rw [spec_Batched.j2, if_pos rfl])), fun h => by cases h⟩
    · have hxm : x = (n.natAbs : Nat) := by
        rw [hx] at hx0 ⊢
        by_cases hn0 : n < 0
        · rw [if_pos hn0] at hx0 ⊢
          by_cases hm : n = -9223372036854775808
          · subst hm; exact absurd (by unfold RowKit.wrap64; omega) hx0
          · rw [IntWalk.wrap64_in _ (by omega)]; omega
        · rw [if_neg hn0]; omega
      obtain ⟨m, hm⟩ : ∃ m, m = n.natAbs := ⟨_, rfl⟩
      rw [← hm] at hxm
      subst hxm
      by_cases hbig : vs.length - p < m
      · refine ⟨([], false), .step hstart (.step (fun k => by rw [spec_Batched.j1, if_neg hx0, hlen, w64 _ (by omega), decide_eq_true (by omega)]) (.now fun k => by rw [spec_Batched.j2, if_pos rfl])), fun h => by cases h⟩
      · have hm1 : m ≤ (vs.drop p).length := by rw [List.length_drop]; omega
        obtain ⟨r, hr, hr2⟩ := ih (pre ++ [n]) (done ++ if n < 0 then [] else (vs.drop p).take m) (p + m) (by rw [List.append_assoc]; exact h) (by omega) (by
          rw [List.length_append]; split
          · simp; omega
          · rw [List.length_take]; omega)
        rw [List.length_append, List.length_singleton] at hr
        refine ⟨r, .step hstart (.step (fun k => by rw [spec_Batched.j1, if_neg hx0, hlen, w64 _ (by omega), decide_eq_false (by omega)]) (.step (fun k => ?_) hr)), fun h2 => ?_⟩
        · rw [spec_Batched.j2, if_neg (by decide), show (p : Int) + m = (p + m : Nat) by push_cast; rfl, w64 (p + m) (by omega), show (pre.length : Int) + 1 = (pre.length + 1 : Nat) by push_cast; rfl, w64 (pre.length + 1) (by omega)]
          by_cases hn0 : n > 0
          · have hnm : n = m := by omega
            have hnn : ¬ n < 0 := by omega
            rw [if_pos hn0, if_neg hnn, hnm, show (p : Int) + m = (p + m : Nat) by push_cast; rfl, w64 (p + m) (by omega), if_pos (by omega), if_pos (by omega), if_pos (by rw [ints_len]; omega), Int.toNat_natCast, Int.toNat_natCast, ints_cut, if_pos (by rw [ints_len, ints_len, List.length_take]; omega), ints_app]
          · rw [if_neg hn0]
            by_cases hnn : n < 0
            · rw [if_pos hnn, List.append_nil]
            · have : m = 0 := by omega
              subst this
              rw [if_neg hnn, List.take_zero, List.append_nil]
        · obtain ⟨g1, g2⟩ := hr2 h2
          refine ⟨⟨by rw [← hm]; exact hm1, by rw [List.length_drop] at hm1; omega, by rw [← hm, List.drop_drop]; exact g1⟩, ?_⟩
          rw [g2, takes, ← hm, List.append_assoc, List.drop_drop]
theorem batched_ev (vs : List Nat) (ns : List Int) (hN : ∀ n ∈ ns, -9223372036854775808 ≤ n ∧ n ≤ 9223372036854775807) (hL : vs.length ≤ 1000000) :
    ∃ r : List Int × Bool, Ev (fun k => spec_Batched.f k (ints vs) ns) r ∧ (r.2 = true → ns.length ≤ 50 ∧ Fits ns vs ∧ r.1 = ints (takes ns vs)) := by
  by_cases hc : (ns.length : Int) > 50
  · exact ⟨([], false), .congr (fun k => by unfold spec_Batched.f; rw [if_pos hc]) .const, fun h => by cases h⟩
  · obtain ⟨r, hr, h2⟩ := batched_l0 vs ns hN hL (by omega) ns [] [] 0 rfl (Nat.zero_le _) (Nat.le_refl _)
    refine ⟨r, .congr (fun k => by unfold spec_Batched.f; rw [if_neg hc]; rfl) hr, fun h => ?_⟩
    have := h2 h
    rw [List.drop_zero, List.nil_append] at this
    exact ⟨by omega, this⟩
end Go.Proofs.YtmcjpnijldhelaaGreatDoor
/- The plain law: which runs are asked. -/
namespace Go.Proofs.YtmcjpnijldhelaaGreatDoor
open Go Go.RowKit Go.Proofs.YtmcjpnijldhelaaGreatDoor.PFnDictionaryFloat64Read Go.Proofs.YtmcjpnijldhelaaGreatDoorW.PrintWords Go.Proofs.YtmcjpnijldhelaaGreatDoorW.PrintMore
/-- A run's values; its numbers; all numbers. -/
def vals (r : S53) : List Nat := r.f2.map Int.toNat
def numsOf (r : S53) : List Nat := if r.f0 = true then vals r ++ List.replicate (8 * r.f1.toNat - (vals r).length) 0 else List.replicate r.f1.toNat ((vals r).getD 0 0)
def allOf (l : List S53) : List Nat := l.flatMap numsOf
/-- What holds of any run that Go can hold. -/
structure IsRun (r : S53) : Prop where
  v : ∀ v ∈ r.f2, 0 ≤ v ∧ v < 18446744073709551616
  c : -9223372036854775808 ≤ r.f1 ∧ r.f1 ≤ 9223372036854775807
theorem IsRun.ints {r : S53} (h : IsRun r) : r.f2 = ints (vals r) := by
  unfold Go.Proofs.YtmcjpnijldhelaaGreatDoor.ints vals
  rw [List.map_map]
  conv => lhs; rw [← List.map_id r.f2]
  refine List.map_congr_left fun v hv => ?_
  have := (h.v v hv).1
  simp only [id, Function.comp]; omega
theorem vals_len (r : S53) : (vals r).length = r.f2.length := List.length_map ..
/-- A run that is asked. -/
structure FitR (W : Nat) (r : S53) : Prop where
  c1 : 1 ≤ r.f1
  p : r.f0 = true → r.f1 ≤ 20 ∧ (r.f2.length : Int) ≤ 8 * r.f1
  q : r.f0 = false → r.f1 ≤ 300 ∧ r.f2.length = 1
  v : ∀ v ∈ vals r, v < 2 ^ W
theorem rdT_app (pre suf : List S53) (x : S53) : rd_T53 (pre ++ x :: suf) (pre.length : Int) = x := by
  unfold rd_T53
  rw [Int.toNat_natCast, List.getD_eq_getElem?_getD, List.getElem?_append_right (Nat.le_refl _), Nat.sub_self]; rfl
theorem fit_l2 (a1 : Int) (l : List S53) (i : Nat) (r : S53) (c : Nat) (hc : r.f1 = (c : Int)) (hcb : c ≤ 1000) (hi : i ≤ 1000000) (res : List Int × Bool) : ∀ (n j : Nat) (done : List Nat), j + n = 8 * c → done.length ≤ 1000000 + j →
    Ev (fun k => spec_RunsFit.l0 k a1 (ints (done ++ List.replicate n 0)) l (l.length : Int) (i + 1 : Nat)) res →
    Ev (fun k => spec_RunsFit.l2 k a1 (ints done) (j : Int) l (l.length : Int) (i : Int) r.f0 r.f1 r.f2) res := by
  intro n
  induction n with
  | zero =>
    intro j done h hd hg
    rw [List.replicate_zero, List.append_nil] at hg
    refine .step (fun k => ?_) hg
    rw [spec_RunsFit.l2, hc, show (8 : Int) * c = (8 * c : Nat) by push_cast; rfl, w64 _ (by omega), if_neg (by omega), show (i : Int) + 1 = (i + 1 : Nat) by push_cast; rfl, w64 (i + 1) (by omega)]
  | succ n ih =>
    intro j done h hd hg
    refine .step (fun k => ?_) (ih (j + 1) (done ++ [0]) (by omega) (by rw [List.length_append, List.length_singleton]; omega) (by rw [List.append_assoc]; exact hg))
    rw [spec_RunsFit.l2, hc, show (8 : Int) * c = (8 * c : Nat) by push_cast; rfl, w64 (8 * c) (by omega), if_pos (by omega), if_pos (by rw [ints_len]; omega), show (j : Int) + 1 = (j + 1 : Nat) by push_cast; rfl, w64 (j + 1) (by omega), ints_app]
    rfl
theorem fit_l3 (a1 : Int) (l : List S53) (i : Nat) (r : S53) (c v0 : Nat) (hc : r.f1 = (c : Int)) (hcb : c ≤ 1000) (hi : i ≤ 1000000) (hv : r.f2 = [(v0 : Int)]) (res : List Int × Bool) : ∀ (n j : Nat) (done : List Nat), j + n = c → done.length ≤ 1000000 + j →
    Ev (fun k => spec_RunsFit.l0 k a1 (ints (done ++ List.replicate n v0)) l (l.length : Int) (i + 1 : Nat)) res →
    Ev (fun k => spec_RunsFit.l3 k a1 (ints done) (j : Int) l (l.length : Int) (i : Int) r.f0 r.f1 r.f2) res := by
  intro n
  induction n with
  | zero =>
    intro j done h hd hg
    rw [List.replicate_zero, List.append_nil] at hg
    refine .step (fun k => ?_) hg
    rw [spec_RunsFit.l3, hc, if_neg (by omega), show (i : Int) + 1 = (i + 1 : Nat) by push_cast; rfl, w64 (i + 1) (by omega)]
  | succ n ih =>
    intro j done h hd hg
    refine .step (fun k => ?_) (ih (j + 1) (done ++ [v0]) (by omega) (by rw [List.length_append, List.length_singleton]; omega) (by rw [List.append_assoc]; exact hg))
    rw [spec_RunsFit.l3, hc, if_pos (by omega), hv, if_pos (by simp), if_pos (by rw [ints_len]; omega), show (j : Int) + 1 = (j + 1 : Nat) by push_cast; rfl, w64 (j + 1) (by omega), ints_app]
    rfl
theorem shr_pos (v W : Nat) (hW : W < 64) : shr .u64 (v : Int) (W : Int) > 0 ↔ ¬ v < 2 ^ W := by
  unfold shr
  rw [Int.toNat_natCast, show min W IntKind.u64.bits = W by show min W 64 = W; omega, show ((2 : Int) ^ W) = ((2 ^ W : Nat) : Int) by push_cast; rfl, ← Int.natCast_ediv]
  have hp := Nat.two_pow_pos W
  constructor
  · intro h hlt
    rw [Nat.div_eq_of_lt hlt] at h
    exact absurd h (by decide)
  · intro h
    have := Nat.div_pos (Nat.le_of_not_lt h) hp
    omega
theorem fit_l1 (W : Nat) (hW : W ≤ 64) (l : List S53) (i : Nat) (r : S53) (hr : IsRun r) (hlen : r.f2.length ≤ 1000000) (done : List Nat) (res : List Int × Bool)
    (hg : Ev (fun k => if r.f0 = true then (if (ints done).length + r.f2.length < 17592186044416 then spec_RunsFit.l2 k (W : Int) (ints done ++ r.f2) (r.f2.length : Int) l (l.length : Int) (i : Int) r.f0 r.f1 r.f2 else none) else spec_RunsFit.l3 k (W : Int) (ints done) 0 l (l.length : Int) (i : Int) r.f0 r.f1 r.f2) res) :
    ∀ suf pre : List Int, pre ++ suf = r.f2 →
    ∃ res', Ev (fun k => spec_RunsFit.l1 k (W : Int) (ints done) l (l.length : Int) (i : Int) r.f2 (r.f2.length : Int) (pre.length : Int) r.f0 r.f1 r.f2) res' ∧ (res'.2 = true → (∀ v ∈ suf, v.toNat < 2 ^ W) ∧ res' = res) := by
  intro suf
  induction suf with
  | nil =>
    intro pre h
    rw [List.append_nil] at h
    refine ⟨res, .step (fun k => ?_) hg, fun _ => ⟨fun v hv => (by cases hv), rfl⟩⟩
    rw [spec_RunsFit.l1, if_neg (by rw [h]; omega)]
  | cons v suf ih =>
    intro pre h
    have hl : pre.length + suf.length + 1 = r.f2.length := by rw [← h, List.length_append, List.length_cons]; omega
    have hrd : rd r.f2 (pre.length : Int) = v := by rw [← h]; exact rd_app pre suf v
    obtain ⟨v0, v1⟩ := hr.v v (by rw [← h]; simp)
    obtain ⟨x, rfl⟩ : ∃ x : Nat, v = x := ⟨v.toNat, by omega⟩
    obtain ⟨res', h1, h2⟩ := ih (pre ++ [(x : Int)]) (by rw [List.append_assoc]; exact h)
    rw [List.length_append, List.length_singleton] at h1
    by_cases hbad : W < 64 ∧ ¬ x < 2 ^ W
    · refine ⟨([], false), .now fun k => ?_, fun h => by cases h⟩
      rw [spec_RunsFit.l1, if_pos (by omega), if_pos (by omega), if_pos (by omega), if_pos (by omega), if_pos (by omega), hrd, if_pos ((shr_pos x W hbad.1).2 hbad.2)]
    · have hx : x < 2 ^ W := by
        by_cases h64 : W < 64
        · exact Decidable.by_contra fun hh => hbad ⟨h64, hh⟩
        · have : W = 64 := by omega
          subst this
          omega
      refine ⟨res', .step (fun k => ?_) h1, fun hh => ⟨fun u hu => ?_, (h2 hh).2⟩⟩
      · rw [spec_RunsFit.l1, if_pos (by omega), if_pos (by omega), if_pos (by omega), show (pre.length : Int) + 1 = (pre.length + 1 : Nat) by push_cast; rfl, w64 (pre.length + 1) (by omega)]
        by_cases h64 : W < 64
        · rw [if_pos (by omega), if_pos (by omega), hrd, if_neg (fun hh => (shr_pos x W h64).1 hh hx)]
        · rw [if_neg (by omega)]
      · rcases List.mem_cons.1 hu with rfl | hu
        · exact hx
        · exact (h2 hh).1 u hu
end Go.Proofs.YtmcjpnijldhelaaGreatDoor
