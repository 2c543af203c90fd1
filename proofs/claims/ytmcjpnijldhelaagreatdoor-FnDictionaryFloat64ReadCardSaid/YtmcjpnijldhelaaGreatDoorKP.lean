/- Part 16 of the proof: the texts DR, DS, VH, joined. What each proves stands ahead of it. -/
import Derived.Test.YtmcjpnijldhelaaGreatDoorKO
import Derived.Test.YtmcjpnijldhelaaGreatDoorKI
import Derived.Test.YtmcjpnijldhelaaGreatDoorRX
import Derived.Defers
import Derived.Recover
import Derived.Deep.RegionHeld3
import Derived.Test.YtmcjpnijldhelaaGreatDoorKJ
set_option linter.unusedVariables false
set_option linter.unusedSimpArgs false
/- impl.copied; the data of a plain decoder; a decoder by a dictionary as impl.decoded takes it. -/
namespace Go.Proofs.YtmcjpnijldhelaaGreatDoor
open Go Go.RowKit Go.Proofs.YtmcjpnijldhelaaGreatDoor.PFnDictionaryFloat64Read Go.Proofs.YtmcjpnijldhelaaGreatDoorW.PrintWords Go.Proofs.YtmcjpnijldhelaaGreatDoorW.PrintMore
/-- A row of bytes of its own, not marked. -/
def OwnBytes (w : World) (g : Nat) (bs : List Nat) : Prop := (∀ j (hj : j < bs.length), w.cell? ⟨g, j, none⟩ = some (.int .u8 (bs[j] : Nat))) ∧ ∀ j, w.frozen? ⟨g, j, none⟩ = false
theorem R_bytes {e : Nat} {w : World} {base : Nat} {ok : Nat → Prop} {v : Value} {bs : List Nat} (h : Kd.R (Kd.int .u8) e w base ok v (ints bs)) (hne : bs ≠ []) : ∃ g c, v = .slice (some ⟨g, 0, none⟩) bs.length c ∧ bs.length ≤ c ∧ c ≤ 9223372036854775807 ∧ base ≤ g ∧ g < w.heap.size ∧ OwnBytes w g bs := by
  have hl : (ints bs).length = bs.length := ints_len bs
  have h0 : 0 < bs.length := List.length_pos_iff.2 hne
  obtain ⟨A, c, rfl, hc, hK⟩ := Kd.R_reads h
  obtain ⟨inner, ho⟩ := Kd.R_own h
  rcases ho.2 with ⟨hv, -⟩ | ⟨g, cap, cur, hv, hb, hg, -, hm, -⟩
  · injection hv with h1 h2 h3
    omega
  · injection hv with h1 h2 h3
    subst h3
    obtain ⟨g', o', e, hc0⟩ := C_addr hK 0 (by omega)
    rw [h1] at e
    injection e with e
    injection e with e1 e2
    subst e1; subst e2
    refine ⟨g, c, by rw [h1, hl], by omega, by unfold maxLen at hm; omega, hb, World.block_lt_of_cell? _ _ hc0, fun j hj => ?_, fun j => ?_⟩
    · obtain ⟨g', o', e, hcj⟩ := C_addr hK j (by omega)
      rw [h1] at e
      injection e with e
      injection e with e1 e2
      subst e1; subst e2
      rw [Nat.zero_add] at hcj
      rw [hcj]
      unfold ints
      rw [List.getElem_map]
    · unfold World.frozen?
      rw [hg]
      simp
theorem copied_ok (A0 : Option Addr) (c0 : Nat) (bs : List Nat) (w : World) (hK : Kd.C (Kd.int .u8) w A0 (ints bs).length (ints bs)) (hc0 : (ints bs).length ≤ c0) (hne : bs ≠ []) (hbl : bs.length ≤ 1000000) :
    Calls Tryz.prog 25 #[.slice A0 (ints bs).length c0] w fun e w' => ∃ g c, e = .returned (.slice (some ⟨g, 0, none⟩) bs.length c) ∧ bs.length ≤ c ∧ c ≤ 9223372036854775807 ∧ w.heap.size ≤ g ∧ g < w'.heap.size ∧ OwnBytes w' g bs ∧ Chg Nix w w' := by
  have hf : impl_copied.f (ints bs) = some (ints bs) := by
    unfold impl_copied.f
    show (if ([] : List Int).length + (ints bs).length < 140737488355328 then _ else _) = _
    rw [if_pos (by rw [ints_len]; simp; omega)]; rfl
  refine Calls.mono (impl_copied.calls A0 c0 (ints bs) (ints bs) w hK hc0 hf) ?_
  rintro e w' ⟨v, rfl, hR, hB⟩
  obtain ⟨g, c, rfl, h1, h2, h3, h4, h5⟩ := R_bytes hR hne
  exact ⟨g, c, rfl, h1, h2, h3, h4, h5, Chg.ofBelow hB⟩
theorem OwnBytes.keep {w w' : World} {g : Nat} {bs : List Nat} (h : OwnBytes w g bs) (hg : g < w.heap.size) {S : Nat → Nat → Prop} (hc : Chg S w w') (hS : ∀ x, ¬ S g x) : OwnBytes w' g bs :=
  ⟨fun j hj => hc.keep (h.1 j hj) (hS j), fun j => (hc.frozen _ _ hg).trans (h.2 j)⟩
theorem OwnBytes.data {w : World} {g : Nat} {bs : List Nat} (h : OwnBytes w g bs) (hb : ∀ x ∈ bs, x < 256) : Data w g 0 bs.length (fun j => bs.getD j 0) := by
  refine ⟨fun j hj => ?_, fun j => getD_lt hb j, fun j hj => ?_⟩
  · rw [Nat.zero_add, h.1 j hj, List.getD_eq_getElem?_getD, List.getElem?_eq_getElem hj]; rfl
  · show bs.getD j 0 = 0
    rw [List.getD_eq_getElem?_getD, List.getElem?_eq_none (by omega)]; rfl
theorem noVals_idle (p q : Addr) (w : World) :
    CallsD Tryz.prog 22 #[.pointer (some p), .pointer (some q)] .returning w fun e u' w' => e = .returned (.tuple #[]) ∧ u' = .returning ∧ w' = w := by
  refine callsD_of_wpS Tryz.func22 rfl fun c₀ cs hu => ?_
  apply wpS_seq
  apply wpS_region
  simp [wpOpsS, go_sem, recoverD, hu, Tryz.ntmps22, Exit.thenS]
  refine wpS_cond (t := false) (by simp [Act.eval, Array.replicate]) ?_
  simp only [Bool.false_eq_true, if_false]
  refine wpS_of_wp (wp_skip ?_)
  cases c₀
  simp_all [bodyPostS, results, Tryz.results22]
/-- The values that indexes stand for. -/
def picked (us : List Value) (vs : List Nat) : List Value := vs.map fun k => us.getD k .nilIface
theorem picked_len (us : List Value) (vs : List Nat) : (picked us vs).length = vs.length := List.length_map ..
theorem picked_get (us : List Value) (vs : List Nat) (j : Nat) (h : j < vs.length) : (picked us vs).getD j .nilIface = us.getD (vs.getD j 0) .nilIface := by
  unfold picked
  rw [List.getD_eq_getElem?_getD, List.getElem?_map, List.getD_eq_getElem?_getD (l := vs), List.getElem?_eq_getElem h]; rfl
theorem dictG (c : RC) (W R : Nat) (us : List Value) (Ov : Nat → Prop) (Sv : Nat → World → Prop) (vd dc : Nat) (vs : List Nat) (hV : XF.ValD us Ov Sv vd) (h1 : ∀ u ∈ us, XF.IsE u) (hul : us.length ≤ 1000) (hv : ∀ x ∈ vs, x < us.length) (hl : vs.length ≤ 1000000) (hW1 : 1 ≤ W) (hW2 : W ≤ 31) :
    XF.DecG (fun O p w => XF.SDs c W R us Ov Sv vd dc vs O p w) (picked us vs) 41 42 c.rb := by
  refine ⟨fun O p w h => h.lt hV, fun O p w w' S h hc hS => h.keep hV hc hS, fun O p w n h hn => ?_, fun O p w n ob h hn hnb hob hobl hz hf => ?_⟩
  · rw [picked_len] at hn
    refine (XF.discardT_ok c W R us Ov Sv vd dc vs O p n w hV h hn hl hW1 hW2).mono ?_
    rintro e w' ⟨rfl, h2, h3⟩
    exact ⟨rfl, h2.mono (fun a x _ hh => hh.elim id (fun h => h.elim)), h3⟩
  · rw [picked_len] at hn
    refine (XF.decodeT_ok c W R us Ov Sv vd dc vs O p ob 0 n n w hV h1 hul hv h hn hl hW1 hW2 hob hobl (fun j hj => ⟨_, by rw [Nat.zero_add]; exact hz j hj⟩) (fun j hj => by rw [Nat.zero_add]; exact hf j hj) (Nat.le_refl _) (by omega)).mono ?_
    rintro e w' ⟨⟨rfl, h2, h3⟩, h4⟩
    refine ⟨rfl, h2.mono (fun a x _ hh => hh.imp id (fun h => ⟨h.1, by omega⟩)), fun j hj => ?_, h3⟩
    have := h4 j hj
    rw [Nat.zero_add] at this
    rw [this, picked_get us vs (p + j) (by omega)]
set_option maxRecDepth 100000 in
set_option maxHeartbeats 1000000 in
theorem plainSet_ok (D : Nat → Nat) (N g vd c : Nat) (w : World) (h0 : ∃ u, w.cell? ⟨vd, 0, none⟩ = some u) (h1 : ∃ u, w.cell? ⟨vd, 1, none⟩ = some u) (hf : ∀ j, j < 4 → w.frozen? ⟨vd, j, none⟩ = false) (hB : Bytes w g 0 (8 * N) D) (hD : ∀ j, D j < 256) (hne : g ≠ vd) (hgl : g < w.heap.size) (hN : N ≤ 1000) (hc : 8 * N ≤ c) (hcb : c ≤ 9223372036854775807) :
    Calls Tryz.prog 24 #[.pointer (some ⟨vd, 0, none⟩), .int .i64 N, .slice (some ⟨g, 0, none⟩) (8 * N) c] w fun e w' => e = .returned .nilIface ∧ Chg (fun a _ => a = vd) w w' ∧ PD D N g vd 0 w' := by
  obtain ⟨u0, h0⟩ := h0
  obtain ⟨u1, h1⟩ := h1
  have f0 := hf 0 (by omega)
  have f1 := hf 1 (by omega)
  obtain ⟨L, hL⟩ : ∃ L, L = 8 * N := ⟨_, rfl⟩
  have HB := Lib.hid hB
  have HD := Lib.hid hD
  have Hf := Lib.hid hf
  have HL := Lib.hid hL
  rw [← hL]
  clear hB hD hf hL
  go_enter Tryz.func24, Tryz.ntmps24
  go_wp2_with fail
  go_ret
  obtain ⟨w2, hw2⟩ : ∃ w2, w2 = (w.setCell ⟨vd, 1, none⟩ (.slice (some ⟨g, 0, none⟩) L c)).setCell ⟨vd, 0, none⟩ (.int .i64 N) := ⟨_, rfl⟩
  have hc2 : Chg (fun (a _ : Nat) => a = vd) w w2 := by rw [hw2]; exact ((Chg.refl (fun (a _ : Nat) => a = vd) w).setCell vd 1 (fun _ => rfl) _).setCell vd 0 (fun _ => rfl) _
  rw [← hw2]
  refine ⟨rfl, hc2, ?_, ⟨_, c, ?_, by omega, hcb, fun _ => rfl⟩, fun j hj => (hc2.frozen _ _ (World.block_lt_of_cell? _ _ h0)).trans (Hf.out j (by omega)), HB.out.keep hc2 (fun j _ hh => hne hh), HD.out, hne, hc2.lt hgl, Nat.zero_le _, hN⟩
  · rw [hw2]; exact World.cell?_setCell_same _ _ _ (cell_ne _ h0 (by omega))
  · rw [hw2, HL.out]; exact cell_ne _ (World.cell?_setCell_same _ _ _ h1) (by omega)
end Go.Proofs.YtmcjpnijldhelaaGreatDoor
/- impl.DictionaryFloat64Read. -/
namespace Go.Proofs.YtmcjpnijldhelaaGreatDoor
open Go Go.RowKit Go.Proofs.YtmcjpnijldhelaaGreatDoor.PFnDictionaryFloat64Read Go.Proofs.YtmcjpnijldhelaaGreatDoorW.PrintWords Go.Proofs.YtmcjpnijldhelaaGreatDoorW.PrintMore
/-- Behind the data of the plain decoder. -/
structure AfterP (dbs : List Nat) (vd N : Nat) (w2 wx : World) : Prop where
  ex : ∃ g, PD (fun j => dbs.getD j 0) N g vd 0 wx ∧ w2.heap.size ≤ g
  chg : Chg (fun a _ => a = vd) w2 wx
/-- Behind the data of the decoder by a dictionary. -/
structure AfterD (us : List Value) (Ov : Nat → Prop) (Sv : Nat → World → Prop) (W vd d dc : Nat) (vs : List Nat) (w2 wx : World) : Prop where
  ex : ∃ cc R O, cc.rb = d ∧ XF.SDs cc W R us Ov Sv vd dc vs O 0 wx ∧ ∀ a, O a → a ≤ 7 ∨ a = d ∨ XF.OD dc Ov (.slice none 0 0) a ∨ w2.heap.size ≤ a
  chg : Chg (fun a _ => a = d) w2 wx
theorem DN0.keep {d dc : Nat} {w w' : World} (h : DN0 d dc w) (hc : Chg Nix w w') : DN0 d dc w' :=
  ⟨fun j hj => let ⟨u, hu⟩ := h.oth j hj; ⟨u, hc.keep hu (fun h => h)⟩, fun j hj => (hc.frozen _ _ (World.block_lt_of_cell? _ _ h.c4)).trans (h.fr j hj), hc.keep h.c4 (fun h => h), hc.keep h.c5 (fun h => h)⟩
/-- The two results' cells, while the values are made. -/
structure Res (a b : Nat) (W : World) : Prop where
  r0 : ∃ u, W.cell? ⟨a, 0, none⟩ = some u
  r1 : W.cell? ⟨b, 0, none⟩ = some (.bool true)
  z0 : W.frozen? ⟨a, 0, none⟩ = false
  z1 : W.frozen? ⟨b, 0, none⟩ = false
theorem Res.keep {a b : Nat} {W W' : World} (h : Res a b W) {S : Nat → Nat → Prop} (hc : Chg S W W') (ha : ¬ S a 0) (hb : ¬ S b 0) : Res a b W' :=
  ⟨h.r0.imp fun u hu => hc.keep hu ha, hc.keep h.r1 hb, (hc.frozen _ _ (let ⟨_, hu⟩ := h.r0; World.block_lt_of_cell? _ _ hu)).trans h.z0, (hc.frozen _ _ (World.block_lt_of_cell? _ _ h.r1)).trans h.z1⟩
theorem Res.put0 {a b : Nat} {W : World} (hab : a ≠ b) (h : Res a b W) (v : Value) : Res a b (W.setCell ⟨a, 0, none⟩ v) :=
  ⟨cell_is _ h.r0, cell_ne _ h.r1 (fun hh => hab hh.1.symm), by rw [World.frozen?_setCell]; exact h.z0, by rw [World.frozen?_setCell]; exact h.z1⟩
theorem Res.pair {a b : Nat} {W : World} (h : Res a b W) : W.cell? ⟨b, 0, none⟩ = some (.bool true) ∧ W.frozen? ⟨a, 0, none⟩ = false ∧ W.frozen? ⟨b, 0, none⟩ = false ∧ Res a b W := ⟨h.r1, h.z0, h.z1, h⟩
theorem cell_is' {W : World} {b i k o : Nat} (v : Value) (h : ∃ u, W.cell? ⟨k, o, none⟩ = some u) : ∃ u, (W.setCell ⟨b, i, none⟩ v).cell? ⟨k, o, none⟩ = some u := by
  obtain ⟨u, hu⟩ := h
  by_cases he : k = b ∧ o = i
  · obtain ⟨rfl, rfl⟩ := he
    exact ⟨_, World.cell?_setCell_same _ _ _ hu⟩
  · exact ⟨u, cell_ne _ hu (by intro hh; exact he hh)⟩
theorem Res.put1 {a b : Nat} {W : World} (h : Res a b W) : Res a b (W.setCell ⟨b, 0, none⟩ (.bool true)) :=
  ⟨cell_is' _ h.r0, World.cell?_setCell_same _ _ _ h.r1, by rw [World.frozen?_setCell]; exact h.z0, by rw [World.frozen?_setCell]; exact h.z1⟩
theorem Res.drew {a b : Nat} {W : World} (h : Res a b W) : Res a b W.drew := ⟨h.r0, h.r1, h.z0, h.z1⟩
/-- The numbers that the batches give. -/
def nums (dbs vs : List Nat) (ns : List Int) : List Nat := (takesV ns vs).map fun k => leV (fun j => dbs.getD j 0) (8 * k) 8
theorem ownsRow_at {w w' : World} {base base' : Nat} {e : TypeId} {sz n : Nat} {v : Value} {xs : List Value} (h : w.ownsRow base e sz v n xs) {S : Nat → Nat → Prop} (hc : Chg S w w') (hS : ∀ g o, base ≤ g → ¬ S g o) (hb : base' ≤ base) : w'.ownsRow base' e sz v n xs := by
  refine ⟨h.1, ?_⟩
  rcases h.2 with hn | ⟨g, cap, cur, hv, hg0, hg, rest⟩
  · exact .inl hn
  · exact .inr ⟨g, cap, cur, hv, by omega, (hc.block g (Array.getElem?_eq_some_iff.1 hg).1 (fun o => hS g o hg0)).trans hg, rest⟩
/-- The values are made. -/
structure Made (dbs vs : List Nat) (ns : List Int) (w w' : World) (v : Value) : Prop where
  own : ∃ B, w.heap.size + 2 ≤ B ∧ w'.ownsRow B 35 4 v (nums dbs vs ns).length (vcells (nums dbs vs ns))
  chg : Chg Nix w w'
  res : Res w.heap.size (w.heap.size + 1) w'
theorem Made.fin {dbs vs : List Nat} {ns : List Int} {w w' w2 : World} {v : Value} (h : Made dbs vs ns w w' v) (hc : Chg (fun a _ => a = w.heap.size ∨ a = w.heap.size + 1) w' w2) : w2.ownsRow w.heap.size 35 4 v (nums dbs vs ns).length (vcells (nums dbs vs ns)) ∧ Chg Nix w w2 := by
  obtain ⟨B, hB, ho⟩ := h.own
  exact ⟨ownsRow_at ho hc (by rintro g o hg (hh | hh) <;> omega) (by omega), h.chg.comp hc (fun _ _ _ h => h) (by rintro a x ha (hh | hh) <;> omega)⟩
theorem takesV_map {α β : Type} (f : α → β) : ∀ (ns : List Int) (l : List α), takesV ns (l.map f) = (takesV ns l).map f
  | [], l => rfl
  | n :: ns, l => by
    rw [takesV, takesV, List.map_append, ← List.map_drop, takesV_map f ns]
    congr 1
    split
    · rfl
    · rw [List.map_take]
theorem takesV_mem {α : Type} : ∀ (ns : List Int) (l : List α), ∀ x ∈ takesV ns l, x ∈ l
  | [], l, x, h => by cases h
  | n :: ns, l, x, h => by
    rw [takesV, List.mem_append] at h
    rcases h with h | h
    · split at h
      · cases h
      · exact List.mem_of_mem_take h
    · exact List.mem_of_mem_drop (takesV_mem ns _ x h)
theorem takesV_len {α : Type} : ∀ (ns : List Int) (l : List α), (takesV ns l).length ≤ l.length
  | [], l => Nat.zero_le _
  | n :: ns, l => by
    have := takesV_len ns (l.drop n.natAbs)
    rw [List.length_drop] at this
    rw [takesV, List.length_append]
    split
    · rw [List.length_nil]; omega
    · rw [List.length_take]; omega
theorem nums_is (dbs vs : List Nat) (ns : List Int) (N : Nat) (hv : ∀ x ∈ vs, x < N) : takesV ns (picked (floats (fun j => dbs.getD j 0) N) vs) = (nums dbs vs ns).map (Value.float .f64) := by
  unfold picked nums
  rw [takesV_map, List.map_map]
  refine List.map_congr_left fun k hk => ?_
  exact floats_get _ N k (hv k (takesV_mem ns vs k hk))
set_option maxRecDepth 100000 in
set_option maxHeartbeats 1000000 in
theorem dictRead_ok (N W c0 c6 bc : Nat) (A0 A6 bp : Option Addr) (ee eu : Addr) (dbs bs vs : List Nat) (ns : List Int) (w : World) (hE : Eofs w ee eu) (hg : 7 < w.heap.size)
    (hK0 : Kd.C (Kd.int .u8) w A0 (ints dbs).length (ints dbs)) (hc0 : (ints dbs).length ≤ c0) (hdb : ∀ x ∈ dbs, x < 256) (hdl : dbs.length = 8 * N) (hN1 : 1 ≤ N) (hN2 : N ≤ 1000)
    (hK6 : Kd.C (Kd.int .u8) w A6 (ints bs).length (ints bs)) (hc6 : (ints bs).length ≤ c6) (hb : ∀ x ∈ bs, x < 256) (L : Nat) (hbl : bs.length = 1 + L) (hL1 : 1 ≤ L) (hL2 : L ≤ 900000) (hW : bs.getD 0 0 = W) (hW1 : 1 ≤ W) (hW2 : W ≤ 31) (hr : Runs (fun j => bs.getD (1 + j) 0) L W 0 vs)
    (hv : ∀ x ∈ vs, x < N) (hvl : vs.length ≤ 1000000) (hns : Kd.C (Kd.int .i64) w bp ns.length ns) (hnc : ns.length ≤ 1000000) (hf : FitsN ns vs.length) :
    Calls Tryz.prog 17 #[.slice A0 (ints dbs).length c0, .int .i64 N, .slice A6 (ints bs).length c6, .int .i64 vs.length, .slice bp ns.length bc] w fun e w' =>
      ∃ v, e = .returned (.tuple #[v, .bool true]) ∧ w'.ownsRow w.heap.size 35 4 v (nums dbs vs ns).length (vcells (nums dbs vs ns)) ∧ Chg Nix w w' := by
  have he : ∀ f, (∃ fn c, Tryz.prog.funcs[f]? = some fn ∧ (fn.name == "runtime.NumGoroutine") = false ∧ fn.body = some c) → ∀ (args : Array Value) (w : World), (callFunc f args).run Tryz.prog w = .ok (.enter f args) w := fun f ⟨_, _, h1, h2, h3⟩ => enters_of h1 h2 h3
  have e41 := he 41 ⟨_, _, Tryz.func41, (by kernel_rfl), rfl⟩
  have e42 := he 42 ⟨_, _, Tryz.func42, (by kernel_rfl), rfl⟩
  have e44 := he 44 ⟨_, _, Tryz.func44, (by kernel_rfl), rfl⟩
  have E41 := Lib.hid e41
  have E42 := Lib.hid e42
  have E44 := Lib.hid e44
  clear he e41 e42 e44
  have hmf : ∀ (fn : Fn) (first cap : Array Value) (w : World), (Instr.makeFunc fn first cap).run Tryz.prog w = .ok (.func fn first cap) w := fun _ _ _ _ => rfl
  have hNs : ∀ j (hj : j < ns.length), ∃ g o, bp = some ⟨g, o, none⟩ ∧ w.cell? ⟨g, o + j, none⟩ = some (.int .i64 ns[j]) := fun j hj => C_addr hns j hj
  obtain ⟨w1, hw1⟩ : ∃ w1, w1 = (w.alloc (.cells #[.slice none 0 0] 22)).alloc (.cells #[.bool false] 4) := ⟨_, rfl⟩
  have hc1 : Chg Nix w w1 := by rw [hw1]; exact ((Chg.refl _ _).alloc _).alloc _
  have a1 : w1.cell? ⟨w.heap.size, 0, none⟩ = some (.slice none 0 0) := by rw [hw1]; exact cell_alloc _ (fresh_cell rfl rfl)
  have a2 : w1.cell? ⟨w.heap.size + 1, 0, none⟩ = some (.bool false) := by rw [hw1]; exact fresh_cell (by simp) rfl
  have b1 : w1.frozen? ⟨w.heap.size, 0, none⟩ = false := by rw [hw1]; exact frozen_alloc _ (by simp) (fresh_frozen rfl)
  have b2 : w1.frozen? ⟨w.heap.size + 1, 0, none⟩ = false := by rw [hw1]; exact fresh_frozen (by simp)
  have hs1 : w1.heap.size = w.heap.size + 2 := by rw [hw1]; simp
  have Hc1 := Lib.hid hc1
  have HN := Lib.hid hNs
  have HE := Lib.hid hE
  have Hb := Lib.hid hb
  have Hdb := Lib.hid hdb
  have Hf := Lib.hid hf
  have Hr := Lib.hid hr
  have Hv := Lib.hid hv
  have Hcop0 := Lib.hid (fun W (hW : Chg Nix w W) => copied_ok A0 c0 dbs W (Kd.C_below hK0 hW.toBelow) hc0 (by rintro rfl; simp at hdl; omega) (by omega))
  have Hcop6 := Lib.hid (fun W (hW : Chg Nix w W) => copied_ok A6 c6 bs W (Kd.C_below hK6 hW.toBelow) hc6 (by rintro rfl; simp at hbl; omega) (by omega))
  have Hdl := Lib.hid hdl
  have Hbl := Lib.hid hbl
  have HWe := Lib.hid hW
  clear hc1 hNs hE hb hdb hf hr hv hns hK0 hK6 hdl hbl hW
  go_enter_defers Tryz.func17, Tryz.ntmps17
  go_wp2_with fail
  rw [← hw1]
  have Hw1 := Lib.hid hw1
  clear hw1
  refine (newPlain_ok w1).mono ?_
  rintro e w2 ⟨vd, rfl, hd1, hd2, hc2, hu0, hu1, hfv⟩
  have Hc2 := Lib.hid hc2
  have Hu0 := Lib.hid hu0
  have Hu1 := Lib.hid hu1
  have Hfv := Lib.hid hfv
  clear hc2 hu0 hu1 hfv
  go_wp2_with fail
  have hcop := Lib.hid (Hcop0.out w2.drew (Hc1.out.trans Hc2.out).drew)
  go_region_held3 (fun _ => True) (trivial)
    (first
      | (go_at_call 25; refine (hcop.out).mono ?_; rintro e w3 ⟨g, c, rfl, h1, h2, h3, h4, h5, h6⟩; have H3 := Lib.hid (And.intro h1 (And.intro h2 (And.intro h3 (And.intro h4 (And.intro h5 h6))))); rw [Hdl.out]; clear h1 h2 h3 h4 h5 h6)
      | (go_at_call 24; obtain ⟨h1, h2, h3, h4, h5, h6⟩ := H3.out; refine (plainSet_ok (fun j => dbs.getD j 0) N g vd c w3 (Hu0.out.imp fun u hu => h6.undrew.keep hu (fun h => h)) (Hu1.out.imp fun u hu => h6.undrew.keep hu (fun h => h)) (fun j hj => (h6.undrew.frozen vd j hd2).trans (Hfv.out j hj)) (by have := (h5.data Hdb.out).bytes; rwa [Hdl.out] at this) (fun j => getD_lt Hdb.out j) (by have : w2.heap.size ≤ g := h3; omega) h4 hN2 (by rw [← Hdl.out]; exact h1) h2).mono ?_; rintro e w4 ⟨rfl, h7, h8⟩; have hA : AfterP dbs vd N w2 w4 := ⟨⟨g, h8, h3⟩, (h6.undrew.mono (fun _ _ _ h => h.elim)).trans h7⟩; have HA := Lib.hid hA; clear h1 h2 h3 h4 h5 h6 h7 h8 hA))
  clear hcop
  obtain ⟨g, hPD, hgw⟩ := HA.out.ex
  have hs2 := Hc2.out.size
  have hvdg : 7 < vd := by omega
  have hc14 : Chg (fun a _ => w1.heap.size ≤ a) w1 w4 := (Hc2.out.mono (fun _ _ _ h => h.elim)).comp HA.out.chg (fun _ _ _ h => h) (fun a x _ (hh : a = vd) => (by omega : w1.heap.size ≤ a))
  have HC14 := Lib.hid hc14
  have HPD := Lib.hid hPD
  have Hnd := Lib.hid (newDict_ok (floats (fun j => dbs.getD j 0) N) (fun a => a = vd ∨ a = g) (fun m w => PD (fun j => dbs.getD j 0) N g vd m w) vd (.agg #[]) w4 (plain_valD _ _ _ _) hPD)
  rw [floats_len] at Hnd
  clear hc14 hPD
  go_wp2_with fail
  refine Hnd.out.mono ?_
  rintro e w5 ⟨d, dc, rfl, hd3, hd4, hd5, hc5, hDN, hCV⟩
  have hs4 := HC14.out.size
  have hcw5 : Chg Nix w w5 := (Hc1.out.comp HC14.out (fun _ _ _ h => h) (fun a x _ (hh : w1.heap.size ≤ a) => by omega)).trans hc5
  have HDN := Lib.hid hDN
  have HCV := Lib.hid hCV
  have HC5 := Lib.hid hc5
  have HCW5 := Lib.hid hcw5
  have hgl4 : g < w4.heap.size := HPD.out.bl
  have hcop := Lib.hid (Hcop6.out w5.drew hcw5.drew)
  have hOl : ∀ a, XF.OD dc (fun a => a = vd ∨ a = g) (.slice none 0 0) a → a = dc ∨ a = vd ∨ a = g := by
    rintro a (hh | hh | hh)
    · exact .inl hh
    · exact .inr hh
    · simp [Value.ownBlock] at hh
  have HOl := Lib.hid hOl
  have hgg : w2.heap.size ≤ g := hgw
  clear hDN hCV hc5 hcw5 hOl hgw Hnd
  go_wp2_with fail
  go_region_held3 (fun _ => True) (trivial)
    (first
      | (go_at_call 25; refine (hcop.out).mono ?_; rintro e w6 ⟨g6, c', rfl, h1, h2, h3, h4, h5, h6⟩; have H6 := Lib.hid (And.intro h1 (And.intro h2 (And.intro h3 (And.intro h4 (And.intro h5 h6))))); rw [Hbl.out]; clear h1 h2 h3 h4 h5 h6)
      | (go_at_call 39; obtain ⟨h1, h2, h3, h4, h5, h6⟩ := H6.out; have h3' : w5.heap.size ≤ g6 := h3; refine (setDict_ok (floats (fun j => dbs.getD j 0) N) (fun a => a = vd ∨ a = g) (fun m w => PD (fun j => dbs.getD j 0) N g vd m w) vd d dc g6 L c' W ee eu bs vs w6 (plain_valD _ _ _ _) (HDN.out.keep h6.undrew) (HCV.out.keep (plain_valD _ _ _ _) h6.undrew (fun _ _ h => h.elim)) (HE.out.keep (HCW5.out.trans h6.undrew) (fun h => h) (fun h => h)) (by have := (h5.data Hb.out).bytes; rwa [Hbl.out] at this) Hb.out Hbl.out HWe.out hW1 hW2 hL1 (by omega) (by rw [← Hbl.out]; exact h1) h2 Hr.out (by omega) (by omega) (by omega) h4 (by intro a ha; rcases HOl.out a ha with hh | hh | hh <;> (subst hh; exact ⟨by omega, by omega, by omega⟩))).mono ?_; rintro e w7 ⟨rfl, h7, cc, R, h8, h9, h10⟩; have hA : AfterD (floats (fun j => dbs.getD j 0) N) (fun a => a = vd ∨ a = g) (fun m w => PD (fun j => dbs.getD j 0) N g vd m w) W vd d dc vs w5 w7 := ⟨⟨cc, R, _, h8, h9, fun a ha => by rcases h10 a ha with hh | hh | hh | hh | hh; exact .inl hh; exact .inr (.inl hh); exact .inr (.inr (.inr (by omega))); exact .inr (.inr (.inl hh)); exact .inr (.inr (.inr (Nat.le_trans h6.size hh)))⟩, (h6.undrew.mono (fun _ _ _ h => h.elim)).trans h7⟩; have HAd := Lib.hid hA; clear h1 h2 h3 h3' h4 h5 h6 h7 h8 h9 h10 hA))
  obtain ⟨cc, R, O, rfl, hSD, hO⟩ := HAd.out.ex
  have hs5 := HC5.out.size
  have hO2 : ∀ a, O a → 7 < a → w1.heap.size ≤ a := by
    intro a ha hga
    rcases hO a ha with hh | hh | hh | hh
    · omega
    · omega
    · rcases HOl.out a hh with hh | hh | hh <;> omega
    · omega
  have hc17 : Chg (fun a _ => w1.heap.size ≤ a) w1 w7 := (HC14.out.comp HC5.out (fun _ _ _ h => h) (fun _ _ _ h => h.elim)).comp HAd.out.chg (fun _ _ _ h => h) (fun a x _ (hh : a = cc.rb) => (by omega : w1.heap.size ≤ a))
  have hcw7 : Chg Nix w w7 := Hc1.out.comp hc17 (fun _ _ _ h => h) (fun a x _ (hh : w1.heap.size ≤ a) => by omega)
  have hN7 : ∀ j (hj : j < ns.length), ∃ g o, bp = some ⟨g, o, none⟩ ∧ w7.cell? ⟨g, o + j, none⟩ = some (.int .i64 ns[j]) ∧ ¬ (O g ∧ 7 < g) := by
    intro j hj
    obtain ⟨g', o, h1, h2⟩ := HN.out j hj
    have hgl : g' < w.heap.size := World.block_lt_of_cell? _ _ h2
    exact ⟨g', o, h1, hcw7.keep h2 (fun h => h), fun hh => by have := hO2 g' hh.1 hh.2; omega⟩
  have hus : (floats (fun j => dbs.getD j 0) N).length = N := floats_len _ _
  have hdG := dictG cc W R (floats (fun j => dbs.getD j 0) N) (fun a => a = vd ∨ a = g) (fun m w => PD (fun j => dbs.getD j 0) N g vd m w) vd dc vs (plain_valD _ _ _ _) (floats_is _ _) (by omega) (fun x hx => by rw [hus]; exact Hv.out x hx) hvl hW1 hW2
  have Hdec := Lib.hid (XF.decoded_ok (fun O p w => XF.SDs cc W R (floats (fun j => dbs.getD j 0) N) (fun a => a = vd ∨ a = g) (fun m w => PD (fun j => dbs.getD j 0) N g vd m w) vd dc vs O p w) O (picked (floats (fun j => dbs.getD j 0) N) vs) _ _ cc.rb bc bp ns w7 hSD hdG (by rw [picked_len]; omega) (fun u hu => by
      obtain ⟨k, hk, rfl⟩ := List.mem_map.1 hu
      rw [floats_get _ N k (Hv.out k hk)]; rfl) E41.out E42.out hN7 hnc (by rw [picked_len]; exact Hf.out))
  have HO2 := Lib.hid hO2
  have HC17 := Lib.hid hc17
  have HCW7 := Lib.hid hcw7
  clear hSD hO hO2 hc17 hcw7 hN7 hus hdG HAd H6
  go_wp2_with fail
  refine Hdec.out.mono ?_
  rintro e w8 ⟨v8, rfl, hOwn, hC8⟩
  have hC18 : Chg (fun a _ => w1.heap.size ≤ a) w1 w8 := HC17.out.comp hC8 (fun _ _ _ h => h) (fun a x _ hh => HO2.out a hh.1 hh.2)
  rw [nums_is dbs vs ns N Hv.out] at hOwn
  obtain ⟨p8, c8, rfl, -⟩ := hOwn.reads
  have hlm : ((nums dbs vs ns).map (Value.float .f64)).length = (nums dbs vs ns).length := List.length_map ..
  rw [hlm] at hOwn ⊢
  have hnl : (nums dbs vs ns).length ≤ 1000000 := by
    unfold nums; rw [List.length_map]; have := takesV_len ns vs; omega
  have n8 : ¬ w1.heap.size ≤ w.heap.size := by omega
  have n9 : ¬ w1.heap.size ≤ w.heap.size + 1 := by omega
  have q8 := hC18.keep a1 n8
  have q9 := hC18.keep a2 n9
  have f8 := (hC18.frozen _ _ (World.block_lt_of_cell? _ _ a1)).trans b1
  have f9 := (hC18.frozen _ _ (World.block_lt_of_cell? _ _ a2)).trans b2
  have HC18 := Lib.hid hC18
  have HOwn := Lib.hid hOwn
  have Hnl := Lib.hid hnl
  have hs7 := HC17.out.size
  clear hOwn hC8 hC18 hlm Hdec
  go_wp2_with fail
  obtain ⟨w9, hw9⟩ : ∃ w9, w9 = w8.setCell ⟨w.heap.size + 1, 0, none⟩ (.bool true) := ⟨_, rfl⟩
  have hab : w.heap.size ≠ w.heap.size + 1 := by omega
  have hRs9 : Res w.heap.size (w.heap.size + 1) w9 := by rw [hw9]; exact ⟨cell_is' _ ⟨_, q8⟩, World.cell?_setCell_same _ _ _ q9, by rw [World.frozen?_setCell]; exact f8, by rw [World.frozen?_setCell]; exact f9⟩
  have hc89 : Chg (fun a _ => w.heap.size ≤ a) w8 w9 := by rw [hw9]; exact (Chg.refl _ _).setCell _ _ (fun _ => by omega) _
  rw [← hw9]
  have hc19 : Chg Nix w w9 := (Hc1.out.comp HC18.out (fun _ _ _ h => h) (fun a x _ (hh : w1.heap.size ≤ a) => by omega)).comp hc89 (fun _ _ _ h => h) (fun a x ha (hh : w.heap.size ≤ a) => by omega)
  have hrd9 : ∀ W : World, Chg (fun a _ => a = w.heap.size + 1) w8 W → Reads W (.slice p8 (nums dbs vs ns).length c8) ((nums dbs vs ns).map (Value.float .f64)) := by
    intro W hW
    obtain ⟨p', c', hpe, hp⟩ := (HOwn.out.keep hW (fun g hg o (hh : g = w.heap.size + 1) => by omega)).reads
    exact ⟨p', c', hpe, hp⟩
  have hs9 : w8.heap.size ≤ w9.heap.size := hc89.size
  have hs8 := HC18.out.size
  have hsame : Chg (fun a _ => a = w.heap.size + 1) w8 w9 := by rw [hw9]; exact (Chg.refl (fun (a _ : Nat) => a = w.heap.size + 1) w8).setCell (w.heap.size + 1) 0 (fun _ => rfl) _
  have hval : ∀ W, Chg (fun a _ => a = w.heap.size + 1) w9 W → Res w.heap.size (w.heap.size + 1) W → Calls Tryz.prog 43 #[.slice p8 (nums dbs vs ns).length c8, .func (.func 44) #[] #[]] W fun e w' => ∃ p c, e = .returned (.slice p (nums dbs vs ns).length c) ∧ Made dbs vs ns w w' (.slice p (nums dbs vs ns).length c) := by
    intro W hW hR
    refine (valued_ok (nums dbs vs ns) p8 c8 W (hrd9 W (hsame.trans hW)) Hnl.out E44.out).mono ?_
    rintro e w' ⟨v, rfl, ho, hB⟩
    obtain ⟨p, c, rfl, -⟩ := ownsRow_slice ho
    have hsW := hW.size
    exact ⟨p, c, rfl, ⟨W.heap.size, by omega, ho⟩, (hc19.comp hW (fun _ _ _ h => h) (fun a x ha (hh : a = w.heap.size + 1) => by omega)).trans (Chg.ofBelow hB), hR.keep (Chg.ofBelow hB) (fun h => h) (fun h => h)⟩
  have Hval := Lib.hid hval
  clear hw9 hc19 hrd9 hc89 HOwn hsame hval
  go_region_held3 (fun W => W.cell? ⟨w.heap.size + 1, 0, none⟩ = some (.bool true) ∧ W.frozen? ⟨w.heap.size, 0, none⟩ = false ∧ W.frozen? ⟨w.heap.size + 1, 0, none⟩ = false ∧ Res w.heap.size (w.heap.size + 1) W) ((refine Res.pair ?_; repeat (first | exact HM.out.res | exact hRs9 | exact hRs9.drew | (refine Res.put0 hab ?_ _) | (refine Res.put1 ?_) | (refine Res.drew ?_))))
    (first
      | (go_at_call 43; refine (Hval.out _ (by first | exact (Chg.refl _ _).drew | exact (Chg.refl _ _) | exact ((Chg.refl (fun (a _ : Nat) => a = w.heap.size + 1) w9).drew).setCell (w.heap.size + 1) 0 (fun _ => rfl) _) (by repeat (first | exact hRs9 | exact hRs9.drew | (refine Res.put1 ?_) | (refine Res.drew ?_)))).mono ?_; rintro e w10 ⟨p10, c10, rfl, hM⟩; have HM := Lib.hid hM; obtain ⟨u10, k10⟩ := hM.res.r0; have m10 := hM.res.r1; have z10 := hM.res.z0; have y10 := hM.res.z1; clear hM))
  all_goals
    go_wp2_with fail
    refine leaves_cons (f := 22) (args := #[.pointer (some ⟨w.heap.size, 0, none⟩), .pointer (some ⟨w.heap.size + 1, 0, none⟩)]) (by simp) (by simp [go_sem]) ?_
    refine (noVals_idle ⟨w.heap.size, 0, none⟩ ⟨w.heap.size + 1, 0, none⟩ _).mono ?_
    rintro e u' w'' ⟨rfl, rfl, rfl⟩
    have hcz : Chg (fun a _ => a = w.heap.size ∨ a = w.heap.size + 1) w10 ((w10.setCell ⟨w.heap.size, 0, none⟩ (.slice p10 (nums dbs vs ns).length c10)).setCell ⟨w.heap.size + 1, 0, none⟩ (.bool true)) := ((Chg.refl (fun (a _ : Nat) => a = w.heap.size ∨ a = w.heap.size + 1) w10).setCell w.heap.size 0 (fun _ => .inl rfl) _).setCell (w.heap.size + 1) 0 (fun _ => .inr rfl) _
    have z1 : ((w10.setCell ⟨w.heap.size, 0, none⟩ (.slice p10 (nums dbs vs ns).length c10)).setCell ⟨w.heap.size + 1, 0, none⟩ (.bool true)).cell? ⟨w.heap.size, 0, none⟩ = some (.slice p10 (nums dbs vs ns).length c10) := cell_ne _ (World.cell?_setCell_same _ _ _ k10) (by rintro ⟨hh, -⟩; omega)
    have z2 : ((w10.setCell ⟨w.heap.size, 0, none⟩ (.slice p10 (nums dbs vs ns).length c10)).setCell ⟨w.heap.size + 1, 0, none⟩ (.bool true)).cell? ⟨w.heap.size + 1, 0, none⟩ = some (.bool true) := World.cell?_setCell_same _ _ _ (cell_ne _ m10 (by rintro ⟨hh, -⟩; omega))
    have hfin := HM.out.fin hcz
    simp [Leaves, settle, results, Tryz.results17, go_sem, z1, z2]
    exact hfin
end Go.Proofs.YtmcjpnijldhelaaGreatDoor
/- The plain law: values by their numbers, values in batches, runs behind the byte of their width. -/
namespace Go.Proofs.YtmcjpnijldhelaaGreatDoor
open Go Go.RowKit Go.Proofs.YtmcjpnijldhelaaGreatDoor.PFnDictionaryFloat64Read Go.Proofs.YtmcjpnijldhelaaGreatDoorW.PrintWords Go.Proofs.YtmcjpnijldhelaaGreatDoorW.PrintMore
/-- The value of a number. -/
def pick (l : List S35) (x : Nat) : S35 := l.getD x z35
theorem rd_pick (l : List S35) (x : Nat) : rd_T35 l (x : Int) = pick l x := by unfold rd_T35; rw [Int.toNat_natCast]; rfl
theorem eta_V (v : S35) : (⟨v.f0, v.f1, v.f2, v.f3⟩ : S35) = v := by cases v; rfl
theorem rdV_app (pre suf : List Nat) (x : Nat) : rd (ints (pre ++ x :: suf)) (pre.length : Int) = x := by
  rw [ints_app]
  have := rd_app (ints pre) (ints suf) x
  rw [ints_len] at this
  exact this
theorem byIndex_ev (l : List S53) (a1 : Int) (hI : ∀ r ∈ l, IsRun r) :
    ∃ res : List Int × List Int × Bool, Ev (fun k => laws_byIndex.f k l a1) res ∧ (res.2.2 = false → res.2.1 = []) ∧ (res.2.2 = true → ∃ W : Nat, a1 = W ∧ 1 ≤ W ∧ W ≤ 20 ∧ l.length ≤ 40 ∧ (∀ r ∈ l, FitR W r) ∧ res.2.1 = ints (allOf l) ∧ ∃ bs : List Nat, res.1 = ints (W :: bs) ∧ (∀ x ∈ bs, x < 256) ∧ bs.length ≤ 80000 ∧ (l ≠ [] → bs ≠ []) ∧ ∀ D L, StandB D 0 bs → bs.length ≤ L → Runs D L W 0 (allOf l)) := by
  by_cases h1 : a1 < 1
  · exact ⟨([], [], false), .congr (fun k => by unfold laws_byIndex.f; rw [if_pos h1]) (.now fun k => by rw [laws_byIndex.j0, if_pos rfl]), (fun _ => rfl), fun h => by cases h⟩
  · by_cases h2 : a1 > 20
    · exact ⟨([], [], false), .congr (fun k => by unfold laws_byIndex.f; rw [if_neg h1, decide_eq_true h2]) (.now fun k => by rw [laws_byIndex.j0, if_pos rfl]), (fun _ => rfl), fun h => by cases h⟩
    · obtain ⟨⟨all, fit⟩, hev, hfit⟩ := runsFit_ev l a1 hI
      have start : ∀ {res : List Int × List Int × Bool}, Ev (fun k => (spec_RunsFit.f k l a1).bind fun bt178 => (if bt178.2 = true then ((some (([(a1) % 256] : List Int) : List Int)).bind fun y182 => ((spec_PutRuns.f k l a1).bind fun t185 => (if y182.length + t185.length < 140737488355328 then (some ((y182 ++ t185), bt178.1, true)) else (none)))) else (some (([] : List Int), ([] : List Int), false)))) res → Ev (fun k => laws_byIndex.f k l a1) res := fun h => .congr (fun k => by unfold laws_byIndex.f; rw [if_neg h1, decide_eq_false h2]) (.step (fun k => by rw [laws_byIndex.j0, if_neg (by decide)]) h)
      cases fit with
      | false => exact ⟨([], [], false), start (.bind hev (.congr (fun k => if_neg Bool.false_ne_true) .const)), (fun _ => rfl), fun h => by cases h⟩
      | true =>
        obtain ⟨W, rfl, hW1, hW2, hL, hF, hall⟩ := hfit rfl
        obtain ⟨bs, hbv, hbs, hbl, hne, hruns⟩ := putRuns_ev W hW1 hW2 l hL hI hF
        have hw : ([((W : Int)) % 256] : List Int) ++ ints bs = ints (W :: bs) := by
          rw [show ((W : Int)) % 256 = W by omega]; rfl
        refine ⟨(ints (W :: bs), all, true), start (.bind hev (.congr (fun k => if_pos rfl) (.bind .const (.bind hbv (.congr (fun k => ?_) .const))))), (fun h => by cases h), fun _ => ⟨W, rfl, hW1, by omega, hL, hF, hall, bs, rfl, hbs, hbl, hne, hruns⟩⟩
        rw [if_pos (by rw [ints_len, List.length_singleton]; omega), hw]
theorem indexed_l0 (l : List S35) (at_ : List Nat) (hl : l.length ≤ 2147483647) (ha : at_.length ≤ 1000000) : ∀ (suf pre : List Nat) (done : List S35), pre ++ suf = at_ → done.length = pre.length →
    ∃ res : List S35 × Bool, Ev (fun k => laws_indexed.l0 k l done (ints at_) ((ints at_).length : Int) (pre.length : Int)) res ∧ (res.2 = true → (∀ x ∈ suf, x < l.length) ∧ res.1 = done ++ suf.map (pick l)) := by
  intro suf
  induction suf with
  | nil =>
    intro pre done h hd
    rw [List.append_nil] at h
    subst h
    exact ⟨(done, true), .now fun k => by rw [laws_indexed.l0, if_neg (by rw [ints_len]; omega)], fun _ => ⟨fun x hx => (by cases hx), by simp⟩⟩
  | cons x suf ih =>
    intro pre done h hd
    have hlen : pre.length + suf.length + 1 = at_.length := by rw [← h, List.length_append, List.length_cons]; omega
    have hrd : rd (ints at_) (pre.length : Int) = x := by rw [← h]; exact rdV_app pre suf x
    have hw : IntKind.u64.wrap ((l.length : Int)) = l.length := by rw [IntKind.wrap_u64]; omega
    have head : ∀ k, laws_indexed.l0 (k + 1) l done (ints at_) ((ints at_).length : Int) (pre.length : Int) = _ := fun k => by rw [laws_indexed.l0, if_pos (by rw [ints_len]; omega), if_pos (by omega), if_pos (by rw [ints_len]; omega), hrd, hw]
    by_cases hx : (x : Int) ≥ l.length
    · exact ⟨([], false), .now fun k => by rw [head k, if_pos hx], fun h => by cases h⟩
    · obtain ⟨res, he, hr⟩ := ih (pre ++ [x]) (done ++ [pick l x]) (by rw [List.append_assoc]; exact h) (by rw [List.length_append, List.length_append, hd]; rfl)
      rw [List.length_append, List.length_singleton] at he
      refine ⟨res, .step (fun k => ?_) he, fun h2 => ?_⟩
      · rw [head k, if_neg hx, if_pos (by omega), if_pos (by omega), if_pos (by omega), show (pre.length : Int) + 1 = (pre.length + 1 : Nat) by push_cast; rfl, w64 _ (by omega)]
        rw [rd_pick, eta_V]
      · obtain ⟨q1, q2⟩ := hr h2
        refine ⟨fun y hy => ?_, by rw [q2, List.append_assoc]; rfl⟩
        rcases List.mem_cons.1 hy with rfl | hy
        · omega
        · exact q1 y hy
theorem indexed_ev (l : List S35) (at_ : List Nat) (hl : l.length ≤ 2147483647) (ha : at_.length ≤ 1000000) :
    ∃ res : List S35 × Bool, Ev (fun k => laws_indexed.f k l (ints at_)) res ∧ (res.2 = true → (∀ x ∈ at_, x < l.length) ∧ res.1 = at_.map (pick l)) := by
  obtain ⟨res, h1, h2⟩ := indexed_l0 l at_ hl ha at_ [] [] rfl rfl
  exact ⟨res, .congr (fun k => by unfold laws_indexed.f; rfl) h1, fun h => by have := h2 h; rwa [List.nil_append] at this⟩
theorem counted_l0 (n : Nat) (hn : n ≤ 1000000) : ∀ (m j : Nat), j + m = n → Ev (fun k => spec_Counted0.l0 k (n : Int) (ints (List.range j)) (j : Int)) (ints (List.range n)) := by
  intro m
  induction m with
  | zero =>
    intro j h
    rw [Nat.add_zero] at h
    subst h
    exact .now fun k => by rw [spec_Counted0.l0, if_neg (by omega)]
  | succ m ih =>
    intro j h
    have he := ih (j + 1) (by omega)
    refine .step (fun k => ?_) he
    rw [spec_Counted0.l0, if_pos (by omega), if_pos (by rw [ints_len, List.length_range]; omega), show (j : Int) + 1 = (j + 1 : Nat) by push_cast; rfl, w64 _ (by omega), List.range_succ, ints_app]
    rw [show IntKind.u64.wrap (j : Int) = j by rw [IntKind.wrap_u64]; omega]
    rfl
theorem values_l0 (l : List S35) (at_ : List Nat) (hl : l.length ≤ 1000000) (ha : at_.length ≤ 1000000) (hm : ∀ x ∈ at_, x < l.length) : ∀ (suf pre : List Nat) (done : List S35), pre ++ suf = at_ → done.length = pre.length →
    Ev (fun k => spec_BatchedValues.l0 k l done (ints at_) ((ints at_).length : Int) (pre.length : Int)) (done ++ suf.map (pick l), true) := by
  intro suf
  induction suf with
  | nil =>
    intro pre done h hd
    rw [List.append_nil] at h
    subst h
    exact .now fun k => by rw [spec_BatchedValues.l0, if_neg (by rw [ints_len]; omega)]; simp
  | cons x suf ih =>
    intro pre done h hd
    have hlen : pre.length + suf.length + 1 = at_.length := by rw [← h, List.length_append, List.length_cons]; omega
    have hrd : rd (ints at_) (pre.length : Int) = x := by rw [← h]; exact rdV_app pre suf x
    have hx := hm x (by rw [← h]; simp)
    have he := ih (pre ++ [x]) (done ++ [pick l x]) (by rw [List.append_assoc]; exact h) (by rw [List.length_append, List.length_append, hd]; rfl)
    rw [List.length_append, List.length_singleton, List.append_assoc] at he
    refine .step (fun k => ?_) he
    rw [spec_BatchedValues.l0, if_pos (by rw [ints_len]; omega), if_pos (by omega), if_pos (by rw [ints_len]; omega), hrd, if_pos (by omega), if_pos (by omega), if_pos (by omega), show (pre.length : Int) + 1 = (pre.length + 1 : Nat) by push_cast; rfl, w64 _ (by omega)]
    rw [rd_pick, eta_V]
theorem takes_V : ∀ (ns : List Int) (vs : List Nat), takes ns vs = takesV ns vs
  | [], _ => rfl
  | n :: ns, vs => by rw [takes, takesV, takes_V ns]
theorem takes_len' : ∀ (ns : List Int) (vs : List Nat), (takes ns vs).length ≤ vs.length
  | [], vs => Nat.zero_le _
  | n :: ns, vs => by
    have := takes_len' ns (vs.drop n.natAbs)
    rw [List.length_drop] at this
    rw [takes, List.length_append]
    split
    · rw [List.length_nil]; omega
    · rw [List.length_take]; omega
theorem fits_N : ∀ (ns : List Int) (vs : List Nat), Fits ns vs → FitsN ns vs.length
  | [], _, _ => trivial
  | n :: ns, vs, ⟨h1, h2, h3⟩ => ⟨h1, h2, by have := fits_N ns _ h3; rwa [List.length_drop] at this⟩
theorem pick_range (l : List S35) : (List.range l.length).map (pick l) = l := by
  refine List.ext_getElem (by rw [List.length_map, List.length_range]) fun i h1 h2 => ?_
  rw [List.getElem_map, List.getElem_range]
  unfold pick
  rw [List.getD_eq_getElem?_getD, List.getElem?_eq_getElem h2]
  rfl
theorem batchedValues_ev (l : List S35) (ns : List Int) (hN : ∀ n ∈ ns, -9223372036854775808 ≤ n ∧ n ≤ 9223372036854775807) (hL : l.length ≤ 1000000) :
    ∃ res : List S35 × Bool, Ev (fun k => spec_BatchedValues.f k l ns) res ∧ (res.2 = true → ns.length ≤ 50 ∧ FitsN ns l.length ∧ res.1 = takesV ns l) := by
  obtain ⟨⟨at_, fit⟩, he, hr⟩ := batched_ev (List.range l.length) ns hN (by rw [List.length_range]; omega)
  have hc : Ev (fun k => spec_Counted0.f k (l.length : Int)) (ints (List.range l.length)) := .congr (fun k => by unfold spec_Counted0.f; rfl) (counted_l0 l.length hL l.length 0 (by omega))
  cases fit with
  | false => exact ⟨([], false), .congr (fun k => by unfold spec_BatchedValues.f; rfl) (.bind hc (.bind he (.congr (fun k => if_neg Bool.false_ne_true) .const))), fun h => by cases h⟩
  | true =>
    obtain ⟨h50, hf, hat⟩ := hr rfl
    have hat' : at_ = ints (takes ns (List.range l.length)) := hat
    subst hat'
    have hmem : ∀ x ∈ takes ns (List.range l.length), x < l.length := fun x hx => by
      rw [takes_V] at hx
      exact List.mem_range.1 (takesV_mem ns _ x hx)
    have hlen := takes_len' ns (List.range l.length)
    rw [List.length_range] at hlen
    have hv := values_l0 l (takes ns (List.range l.length)) hL (by omega) hmem (takes ns (List.range l.length)) [] [] rfl rfl
    refine ⟨_, .congr (fun k => by unfold spec_BatchedValues.f; rfl) (.bind hc (.bind he (.congr (fun k => if_pos rfl) hv))), fun _ => ⟨h50, ?_, ?_⟩⟩
    · have := fits_N ns _ hf
      rwa [List.length_range] at this
    · rw [List.nil_append, takes_V, ← takesV_map, pick_range]
end Go.Proofs.YtmcjpnijldhelaaGreatDoor
