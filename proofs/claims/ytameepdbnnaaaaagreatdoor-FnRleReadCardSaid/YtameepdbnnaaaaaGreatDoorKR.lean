/- Part 18 of the proof: the texts CG, CH, CI, PA, joined. What each proves stands ahead of it. -/
import Derived.Test.YtameepdbnnaaaaaGreatDoorKQ
import Derived.Test.YtameepdbnnaaaaaGreatDoorPFnRleReadx1
import Derived.Test.YtameepdbnnaaaaaGreatDoorPFnRleReadx2
import Derived.Test.YtameepdbnnaaaaaGreatDoorPFnRleReadx4
set_option linter.unusedVariables false
set_option linter.unusedSimpArgs false
/- impl.RleRead. -/
namespace Go.Proofs.YtameepdbnnaaaaaGreatDoor
open Go Go.RowKit
/-- What holds at the head of impl.RleRead's loop. -/
structure RR (c : RC) (W R A how : Nat) (ns : List Int) (vs : List Nat) (w2 wx : World) (k : Nat) (v : Value) (done rest : List Nat) (rep lit cur o f : Nat) : Prop where
  ca : wx.cell? ⟨A, 0, none⟩ = some v
  own : Own1 wx w2.heap.size 30 v (u64s done)
  rd : RD c W R rep lit cur o f wx
  pos : Pos c.D c.L W rep lit cur o f rest
  hh : HowOk how W rest
  fits : Fits (ns.drop k) rest
  sum : done ++ takes (ns.drop k) rest = takes ns vs
  len : done.length + rest.length ≤ 10000000
  tab : Tabs wx
  chg : Chg (fun a x => OwnRR c R a x ∨ a = A) w2 wx
/-- Where the reader's blocks lie. -/
structure At (c : RC) (R A : Nat) (w w2 : World) : Prop where
  eA : A = w.heap.size
  hB : A + 1 < c.B
  hrb : A + 1 < c.rb
  hR : A + 1 < R
  hb : c.b < A
  lB : c.B < w2.heap.size
  lrb : c.rb < w2.heap.size
  lR : R < w2.heap.size
  hg : 8 < A
/-- The next batch. -/
theorem drop_getElem (ns : List Int) (k : Nat) (h : k < ns.length) : ns.drop k = ns[k] :: ns.drop (k + 1) := List.drop_eq_getElem_cons h
theorem RR.step {c : RC} {W R A how : Nat} {ns : List Int} {vs : List Nat} {w2 wx w3 : World} {k : Nat} {v v' : Value} {done rest : List Nat} {rep lit cur o f rep' lit' cur' o' f' : Nat} (h : RR c W R A how ns vs w2 wx k v done rest rep lit cur o f) (hk : k < ns.length)
    (hca : w3.cell? ⟨A, 0, none⟩ = some v') (hown : Own1 w3 w2.heap.size 30 v' (u64s (done ++ if ns[k] < 0 then [] else rest.take (ns[k]).natAbs))) (hrd : RD c W R rep' lit' cur' o' f' w3) (hpos : Pos c.D c.L W rep' lit' cur' o' f' (rest.drop (ns[k]).natAbs)) (hT : Tabs w3) (hc : Chg (fun a x => OwnRR c R a x ∨ a = A) w2 w3) :
    RR c W R A how ns vs w2 w3 (k + 1) v' (done ++ if ns[k] < 0 then [] else rest.take (ns[k]).natAbs) (rest.drop (ns[k]).natAbs) rep' lit' cur' o' f' := by
  have h1 := h.fits
  have h2 := h.sum
  rw [drop_getElem ns k hk] at h1 h2
  obtain ⟨g1, g2, g3⟩ := h1
  refine ⟨hca, hown, hrd, hpos, h.hh.drop _, g3, by rw [← h2]; simp [takes], ?_, hT, hc⟩
  have := h.len
  rw [List.length_append, List.length_drop]
  split
  · simp; omega
  · rw [List.length_take]; omega
theorem new_cell {w : World} {cs : Array Value} {t : TypeId} {n i : Nat} {v : Value} (hn : n = w.heap.size) (hv : cs[i]? = some v) : (w.alloc (.cells cs t)).cell? ⟨n, i, none⟩ = some v := by
  subst hn; rw [World.cell?_alloc_new]; exact hv
theorem new_frozen {w : World} {cs : Array Value} {t : TypeId} {n i : Nat} (hn : n = w.heap.size) : (w.alloc (.cells cs t)).frozen? ⟨n, i, none⟩ = false := by
  subst hn; simp
theorem rd_start (b bo L C : Nat) (ee eu : Addr) (W R : Nat) (D : Nat → Nat) (w W1 w2 : World) (hD : Data w b bo L D) (hE : Eofs w ee eu) (hT : Tabs w) (hLC : L ≤ C) (hC : C ≤ 9223372036854775807) (hLb : L ≤ 1000000000000000000) (hg : 8 < w.heap.size) (hbl : b < w.heap.size)
    (hW1 : W1 = ((w.alloc (.cells #[.slice none 0 0] 25)).alloc (.cells #[.bool false] 4)).alloc (.cells #[.slice (some ⟨b, bo, none⟩) L C, .int .i64 0, .int .i64 (-1)] 58))
    (hR1 : W1.heap.size < R) (hR2 : R < w2.heap.size) (hc : Chg Nix W1 w2) (h : RD0 W R W1.heap.size (w.heap.size + 1 + 1) w2) :
    RD ⟨W1.heap.size, w.heap.size + 1 + 1, 0, b, bo, L, C, ee, eu, D⟩ W R 0 0 0 0 0 w2 ∧ At ⟨W1.heap.size, w.heap.size + 1 + 1, 0, b, bo, L, C, ee, eu, D⟩ R w.heap.size w w2 ∧ w2.cell? ⟨w.heap.size, 0, none⟩ = some (.slice none 0 0) ∧ w2.frozen? ⟨w.heap.size, 0, none⟩ = false ∧ w2.cell? ⟨w.heap.size + 1, 0, none⟩ = some (.bool false) ∧ w2.frozen? ⟨w.heap.size + 1, 0, none⟩ = false ∧ Chg Nix w w2 ∧ Tabs w2 := by
  have hs : W1.heap.size = w.heap.size + 3 := by rw [hW1]; simp
  have hcw : Chg Nix w W1 := by rw [hW1]; exact (((Chg.refl _ _).alloc _).alloc _).alloc _
  have hcw2 := hcw.trans hc
  have keep : ∀ k o v, W1.cell? ⟨k, o, none⟩ = some v → w2.cell? ⟨k, o, none⟩ = some v := fun k o v hv => hc.keep hv (fun h => h)
  have keepf : ∀ k o, k < W1.heap.size → W1.frozen? ⟨k, o, none⟩ = false → w2.frozen? ⟨k, o, none⟩ = false := fun k o hk hv => (hc.frozen k o hk).trans hv
  have hr : Rdr W1 (w.heap.size + 1 + 1) 0 b bo L C 0 (-1) := by
    rw [hW1]
    exact ⟨new_cell (by simp) rfl, new_cell (by simp) rfl, new_cell (by simp) rfl, fun j hj => new_frozen (by simp)⟩
  have hl := h.br.lt
  have k1 : W1.cell? ⟨w.heap.size, 0, none⟩ = some (.slice none 0 0) := by rw [hW1]; exact (((Chg.refl Nix _).alloc _).alloc _).keep (by simp) (fun h => h)
  have k2 : W1.frozen? ⟨w.heap.size, 0, none⟩ = false := by rw [hW1]; exact ((((Chg.refl Nix (w.alloc (.cells #[.slice none 0 0] 25))).alloc _).alloc _).frozen _ _ (by simp)).trans (by simp)
  have k3 : W1.cell? ⟨w.heap.size + 1, 0, none⟩ = some (.bool false) := by rw [hW1]; exact ((Chg.refl Nix _).alloc _).keep (new_cell (by simp) rfl) (fun h => h)
  have k4 : W1.frozen? ⟨w.heap.size + 1, 0, none⟩ = false := by rw [hW1]; exact (((Chg.refl Nix ((w.alloc (.cells #[.slice none 0 0] 25)).alloc (.cells #[.bool false] 4))).alloc _).frozen _ _ (by simp)).trans (new_frozen (by simp))
  have hE1 : Env ⟨W1.heap.size, w.heap.size + 1 + 1, 0, b, bo, L, C, ee, eu, D⟩ w2 :=
    ⟨⟨_, _, hr.keep hc (fun _ _ h => h)⟩, hD.keep hcw2 (fun _ _ h => h), hE.keep hcw2 (fun h => h) (fun h => h), hLC, hC, hLb, Nat.ne_of_lt (by show b < W1.heap.size; omega), Nat.ne_of_lt (by show w.heap.size + 1 + 1 < W1.heap.size; omega), Nat.ne_of_lt (by show b < w.heap.size + 1 + 1; omega), by show _ < W1.heap.size; omega, by show _ < w.heap.size + 1 + 1; omega⟩
  refine ⟨⟨⟨hE1, by omega, ⟨_, _, h.br, fun h => by omega⟩⟩, h.p, h.wi, h.cu, h.re, h.li, h.fr, Nat.ne_of_gt hR1, Nat.ne_of_gt (by show w.heap.size + 1 + 1 < R; omega), Nat.ne_of_gt (by show b < R; omega), by omega⟩, ⟨rfl, by show _ < W1.heap.size; omega, by show _ < w.heap.size + 1 + 1; omega, by omega, hbl, hl, by show w.heap.size + 1 + 1 < _; omega, hR2, hg⟩, keep _ _ _ k1, keepf _ _ (by omega) k2, keep _ _ _ k3, keepf _ _ (by omega) k4, hcw2, hT.keep hcw2 (fun _ _ h => h.elim)⟩
set_option maxRecDepth 100000 in
set_option maxHeartbeats 1000000 in
theorem rleRead_ok (b bo L C : Nat) (ee eu : Addr) (how W bc : Nat) (bp : Option Addr) (ns : List Int) (D : Nat → Nat) (vs : List Nat) (w : World) (hD : Data w b bo L D) (hE : Eofs w ee eu) (hT : Tabs w) (hLC : L ≤ C) (hC : C ≤ 9223372036854775807) (hLb : L ≤ 1000000000000000000) (hg : 8 < w.heap.size) (hbl : b < w.heap.size)
    (hns : ∀ j (hj : j < ns.length), ∃ g o, bp = some ⟨g, o, none⟩ ∧ w.cell? ⟨g, o + j, none⟩ = some (.int .i64 ns[j])) (hnc : ns.length ≤ 1000000)
    (hW1 : 1 ≤ W) (hW2 : W ≤ 64) (hh : HowOk how W vs) (hr : Runs D L W 0 vs) (hf : Fits ns vs) (htot : vs.length ≤ 10000000) :
    Calls Tryz.prog 5 #[.slice (some ⟨b, bo, none⟩) L C, .int .i64 W, .int .i64 how, .slice bp ns.length bc] w fun e w' =>
      ∃ v, e = .returned (.tuple #[v, .bool true]) ∧ Reads2 w' v (u64s (takes ns vs)) ∧ Chg Nix w w' := by
  have hz0 : ∀ w : World, True := fun _ => trivial
  go_enter_defers Tryz.func5, Tryz.ntmps5
  go_wp2_with fail
  refine (newReader_any _ _ _ _).mono ?_
  rintro e w1 ⟨rfl, rfl⟩
  go_wp2_with fail
  obtain ⟨W1, hW⟩ : ∃ W1, W1 = ((w.alloc (.cells #[.slice none 0 0] 25)).alloc (.cells #[.bool false] 4)).alloc (.cells #[.slice (some ⟨b, bo, none⟩) L C, .int .i64 0, .int .i64 (-1)] 58) := ⟨_, rfl⟩
  rw [← hW]
  refine (newRle_ok _ _ _).mono ?_
  rintro e w2 ⟨R, rfl, hR1, hR2, hC2, hR0⟩
  obtain ⟨hRD, hAt, cA, fA, cB, fB, hCw, hT2⟩ := rd_start b bo L C ee eu W R D w W1 w2 hD hE hT hLC hC hLb hg hbl hW hR1 hR2 hC2 hR0
  obtain ⟨c, hc⟩ : ∃ c : RC, c = ⟨W1.heap.size, w.heap.size + 1 + 1, 0, b, bo, L, C, ee, eu, D⟩ := ⟨_, rfl⟩
  have hcD : c.D = D := by rw [hc]
  have hcL : c.L = L := by rw [hc]
  rw [← hc] at hRD hAt
  obtain ⟨A, hA⟩ : ∃ A, A = w.heap.size := ⟨_, rfl⟩
  rw [← hA] at hAt cA fA cB fB ⊢
  have h0 : RR c W R A how ns vs w2 w2 0 (.slice none 0 0) [] vs 0 0 0 0 0 := ⟨cA, Own1.nil _ _ _, hRD, .idle _ _ _ _ (by rw [hcD, hcL]; exact hr), hh, hf, rfl, by simpa using htot, hT2, Chg.refl _ _⟩
  have H0 := Lib.hid h0
  have HAt := Lib.hid hAt
  have Hns := Lib.hid hns
  have HCw := Lib.hid hCw
  have HlA := Lib.hid (World.block_lt_of_cell? _ _ cA : A < w2.heap.size)
  clear h0 hRD hAt hns hR0 hC2 hW hc hR1 hR2 hD hE hT hh hr hf cA hT2 hCw hcD hcL hz0 hg hbl hLC hC hLb htot
  go_wp2_with fail
  go_loopw [21] (fun i wx => ∃ k v done rest rep lit cur o f, k ≤ ns.length ∧ i = .int .i64 k ∧ RR c W R A how ns vs w2 wx k v done rest rep lit cur o f) (fun i _ => ns.length - (intOf i).toNat)
  case atStart => exact ⟨0, _, _, _, _, _, _, _, _, Nat.zero_le _, rfl, H0.out⟩
  case round =>
    obtain ⟨k, v, done, rest, rep, lit, cur, o, f, hk, rfl, hG⟩ := hrel
    clear H0
    by_cases hlt : k < ns.length
    · obtain ⟨g, go, rfl, hcell⟩ := Hns.out k hlt
      have hgl : g < w.heap.size := World.block_lt_of_cell? w _ hcell
      have hcell2 := hG.chg.keep (HCw.out.keep hcell (fun h => h)) (by
        have := HAt.out.eA
        have := HAt.out.hB
        have := HAt.out.hrb
        have := HAt.out.hR
        rintro ((hh | hh | ⟨hh, -⟩) | hh) <;> omega)
      obtain ⟨n, hn⟩ : ∃ n, n = ns[k] := ⟨_, rfl⟩
      rw [← hn] at hcell2
      have hfit := hG.fits
      rw [drop_getElem ns k hlt, ← hn] at hfit
      obtain ⟨g1, g2, -⟩ := hfit
      by_cases hneg : n < 0
      · obtain ⟨m, rfl⟩ : ∃ m : Nat, n = -(m : Int) := ⟨n.natAbs, by omega⟩
        have hm0 : 1 ≤ m := by omega
        have hm1 : m ≤ rest.length := by omega
        have Hcall := Lib.hid (rleDiscard_ok c W R rep lit cur o f m rest wr hG.rd hG.pos hW1 hW2 hm1 (by omega))
        have hlt' : (-(m : Int)) < 0 := by omega
        have hww : IntKind.i64.wrap (m : Int) = m := IntWalk.i64_in _ (by omega)
        have HG := Lib.hid hG
        have Hn := Lib.hid hn
        clear hG hn hcell g1 g2
        go_wp2_with fail
        refine Hcall.out.mono ?_
        rintro e w3 ⟨rfl, rep', lit', cur', o', f', hR3⟩
        have hca := hR3.chg.keep HG.out.ca (by
          have := HAt.out.hB
          have := HAt.out.hR
          rintro (hh | hh) <;> omega)
        have hown := HG.out.own.keep hR3.chg (by
          have := HAt.out.lB
          have := HAt.out.lR
          rintro g hg x (hh | hh) <;> omega)
        have hst := HG.out.step hlt hca (by rw [← Hn.out, if_pos hlt', List.append_nil]; exact hown) hR3.rd (by rw [← Hn.out, Int.natAbs_neg, Int.natAbs_natCast]; exact hR3.pos) (HG.out.tab.keep hR3.chg (by
          have := HAt.out.hB
          have := HAt.out.hR
          have := HAt.out.hg
          rintro a x (hh | hh) <;> omega)) (HG.out.chg.trans (hR3.chg.mono (by
          rintro a x - (hh | hh)
          · exact .inl (.inl hh)
          · exact .inl (.inr (.inl hh)))))
        have Hst := Lib.hid hst
        clear hst hown hca hR3
        go_wp2_with fail
        go_roundw
        case rel => exact ⟨k + 1, _, _, _, _, _, _, _, _, by omega, by go_num, Hst.out⟩
        case measure => simp [intOf]; omega
      · obtain ⟨m, rfl⟩ : ∃ m : Nat, n = (m : Int) := ⟨n.natAbs, by omega⟩
        have hm1 : m ≤ rest.length := by omega
        have hm2 : m ≤ 1000000 := by omega
        have Hcall := Lib.hid (batch_ok c how W R rep lit cur o f m rest wr hG.hh hG.rd hG.pos (by have := HAt.out.hb; have := HAt.out.eA; have := hG.chg.size; have := HCw.out.size; omega) hG.tab hW1 hW2 hm1 hm2)
        have hlt' : ¬ (m : Int) < 0 := by omega
        have HG := Lib.hid hG
        have Hn := Lib.hid hn
        clear hG hn hcell g1 g2
        go_wp2_with fail
        refine Hcall.out.mono ?_
        rintro e w3 ⟨v3, rfl, hv3, rep', lit', cur', o', f', hR3⟩
        obtain ⟨p3, c3, rfl, hp3⟩ := hv3
        have hlen3 : (u64s (rest.take m)).length = m := by rw [u64s_len, List.length_take]; omega
        have hrd3 : Reads w3 (.slice p3 m c3) (u64s (rest.take m)) := ⟨p3, c3, by rw [hlen3], hp3⟩
        rw [hlen3]
        have hca := hR3.chg.keep HG.out.ca (by
          have := HAt.out.hB
          have := HAt.out.hrb
          have := HAt.out.hR
          rintro (hh | hh | ⟨hh, -⟩) <;> omega)
        have hfa := (hR3.chg.frozen A 0 (World.block_lt_of_cell? _ _ HG.out.ca)).trans ((HG.out.chg.frozen A 0 HlA.out).trans fA)
        have hown := HG.out.own.keep hR3.chg (by
          have := HAt.out.lB
          have := HAt.out.lR
          have := HAt.out.lrb
          rintro g hg x (hh | hh | ⟨hh, -⟩) <;> omega)
        have htab := HG.out.tab.keep hR3.chg (by
          have := HAt.out.hB
          have := HAt.out.hR
          have := HAt.out.hrb
          have := HAt.out.hg
          rintro a x (hh | hh | ⟨hh, -⟩) <;> omega)
        have hchg := HG.out.chg.trans (hR3.chg.mono (fun _ _ _ hh => .inl hh))
        rw [hA] at hca hfa
        have Hrd3 := Lib.hid hrd3
        have Hown := Lib.hid hown
        have Htab := Lib.hid htab
        have Hchg := Lib.hid hchg
        have HR3 := Lib.hid hR3
        have Hlen3 := Lib.hid hlen3
        clear hrd3 hown htab hchg hR3 hp3 hlen3 Hcall
        go_wp2_with (at_builtin; go_loud (refine (wpList_append_u64 rfl (.tmp 42) (.tmp 43) rfl w2.heap.size _ (u64s done) rfl Hown.out _ (u64s (rest.take m)) rfl Hrd3.out (u64s_one _) (by rw [u64s_len, Hlen3.out]; have := HG.out.len; omega) Hchg.out.size ?_)))
        intro v' w' hO' hC'
        obtain ⟨pv, lv, cv, rfl⟩ : ∃ pv lv cv, v' = .slice pv lv cv := by
          obtain ⟨pv, cv, hh, -⟩ := hO'.reads
          exact ⟨_, _, _, hh⟩
        have hna : ∀ x : Nat, ¬ (v.ownBlock = some w.heap.size) := by
          intro _ hh
          have := (Hown.out.lt _ hh).1
          have := HlA.out
          omega
        have hca2 := hC'.keep hca (hna 0)
        have hfa2 := (hC'.frozen w.heap.size 0 (World.block_lt_of_cell? _ _ hca)).trans hfa
        have hR4 : RD c W R rep' lit' cur' o' f' w' := HR3.out.rd.keep hC' (by
          intro a x hh
          have := (Hown.out.lt a hh).1
          have := HAt.out
          have := this.lB
          have := HAt.out.lrb
          have := HAt.out.lR
          have := HAt.out.hb
          have := HAt.out.eA
          have := HAt.out.hg
          have := HlA.out
          omega)
        have hR5 : RD c W R rep' lit' cur' o' f' (w'.setCell ⟨w.heap.size, 0, none⟩ (.slice pv lv cv)) := hR4.keep ((Chg.refl (fun a _ => a = w.heap.size) w').setCell _ _ (fun _ => rfl) _) (by
          rintro a x rfl
          have := HAt.out.hB
          have := HAt.out.hrb
          have := HAt.out.hR
          have := HAt.out.hb
          have := HAt.out.eA
          have := HAt.out.hg
          omega)
        have hT5 : Tabs (w'.setCell ⟨w.heap.size, 0, none⟩ (.slice pv lv cv)) := (Htab.out.keep hC' (by
          intro a x hh
          have := (Hown.out.lt a hh).1
          have := HAt.out.hg
          have := HlA.out
          omega)).keep ((Chg.refl (fun a _ => a = w.heap.size) w').setCell _ _ (fun _ => rfl) _) (by
          rintro a x rfl
          have := HAt.out.eA
          have := HAt.out.hg
          omega)
        have hO5 : Own1 (w'.setCell ⟨w.heap.size, 0, none⟩ (.slice pv lv cv)) w2.heap.size 30 (.slice pv lv cv) (u64s (done ++ if ns[k] < 0 then [] else rest.take (ns[k]).natAbs)) := by
          rw [← Hn.out, if_neg (by omega), Int.natAbs_natCast, show u64s (done ++ rest.take m) = u64s done ++ u64s (rest.take m) by unfold u64s; exact List.map_append]
          exact hO'.keep ((Chg.refl (fun a _ => a = w.heap.size) w').setCell _ _ (fun _ => rfl) _) (by
            rintro g hg x rfl
            have := HlA.out
            have := HAt.out.eA
            omega)
        have hC5 : Chg (fun a x => OwnRR c R a x ∨ a = A) w2 (w'.setCell ⟨w.heap.size, 0, none⟩ (.slice pv lv cv)) := (Hchg.out.comp hC' (fun _ _ _ h => h) (by
          intro a x ha hh
          have := (Hown.out.lt a hh).1
          omega)).setCell _ _ (fun _ => .inr hA.symm) _
        have hst := HG.out.step hlt (by rw [hA]; exact World.cell?_setCell_same _ _ _ hca2) hO5 hR5 (by rw [← Hn.out, Int.natAbs_natCast]; exact HR3.out.pos) hT5 hC5
        have Hst := Lib.hid hst
        clear hst hO5 hR4 hR5 hT5 hC5 hO' hC' hna hca hfa Hown Htab Hchg HR3
        go_wp2_with fail
        go_roundw
        case rel => exact ⟨k + 1, _, _, _, _, _, _, _, _, by omega, by go_num, Hst.out⟩
        case measure => simp [intOf]; omega
    · have hke : k = ns.length := by omega
      subst hke
      have hne := HAt.out.eA
      have hca := hG.ca
      have hfa := (hG.chg.frozen A 0 HlA.out).trans fA
      have hnB : ¬ (OwnRR c R (A + 1) 0 ∨ A + 1 = A) := by
        have := HAt.out.hB
        have := HAt.out.hrb
        have := HAt.out.hR
        rintro ((hh | hh | ⟨hh, -⟩) | hh) <;> omega
      have hcb := hG.chg.keep cB hnB
      have hfb := (hG.chg.frozen (A + 1) 0 (World.block_lt_of_cell? _ _ cB)).trans fB
      have hsum := hG.sum
      rw [List.drop_length] at hsum
      simp only [takes, List.append_nil] at hsum
      obtain ⟨pv, lv, cv, rfl⟩ : ∃ pv lv cv, v = .slice pv lv cv := by
        obtain ⟨pv, cv, hh, -⟩ := hG.own.reads
        exact ⟨_, _, _, hh⟩
      rw [hA] at hca hfa hcb hfb
      have HG := Lib.hid hG
      have Hsum := Lib.hid hsum
      clear hG hsum hnB
      go_wp2_with fail
      refine leaves_cons (f := 11) (args := #[.pointer (some ⟨w.heap.size, 0, none⟩), .pointer (some ⟨w.heap.size + 1, 0, none⟩)]) (by simp) (by simp [go_sem]) ?_
      refine (noNumbers_idle ⟨w.heap.size, 0, none⟩ ⟨w.heap.size + 1, 0, none⟩ _).mono ?_
      obtain ⟨wz, hwz⟩ : ∃ wz, wz = (wr.setCell ⟨w.heap.size, 0, none⟩ (.slice pv lv cv)).setCell ⟨w.heap.size + 1, 0, none⟩ (.bool true) := ⟨_, rfl⟩
      have z1 : wz.cell? ⟨w.heap.size, 0, none⟩ = some (.slice pv lv cv) := by
        rw [hwz]
        exact cell_ne _ (World.cell?_setCell_same _ _ _ hca) (by rintro ⟨hh, -⟩; omega)
      have z2 : wz.cell? ⟨w.heap.size + 1, 0, none⟩ = some (.bool true) := by
        rw [hwz]
        exact World.cell?_setCell_same _ _ _ (cell_ne _ hcb (by rintro ⟨hh, -⟩; omega))
      have hcz : Chg (fun a _ => a = w.heap.size ∨ a = w.heap.size + 1) wr wz := by
        rw [hwz]
        exact ((Chg.refl _ _).setCell _ _ (fun _ => .inl rfl) _).setCell _ _ (fun _ => .inr rfl) _
      have Hcz := Lib.hid hcz
      rw [← hwz]
      clear hwz hcz
      rintro e u' w'' ⟨rfl, rfl, rfl⟩
      simp [Leaves, settle, results, Tryz.results5, go_sem, z1, z2]
      have hr := (HG.out.own.keep Hcz.out (by
        have := HlA.out
        have := World.block_lt_of_cell? _ _ cB
        rintro g hg x (hh | hh)
        · omega
        · simp only [] at this; omega)).reads2
      rw [Hsum.out] at hr
      refine ⟨hr, (HCw.out.comp HG.out.chg (fun _ _ _ h => h) ?_).comp Hcz.out (fun _ _ _ h => h) ?_⟩
      · have := HAt.out.hB
        have := HAt.out.hrb
        have := HAt.out.hR
        rintro a x ha ((hh | hh | ⟨hh, -⟩) | hh) <;> omega
      · rintro a x ha (hh | hh) <;> omega
end Go.Proofs.YtameepdbnnaaaaaGreatDoor
/- Batches of nothing: they read nothing, whatever the reader stands on. -/
namespace Go.Proofs.YtameepdbnnaaaaaGreatDoor
open Go Go.RowKit
set_option maxRecDepth 100000 in
set_option maxHeartbeats 1000000 in
theorem getBatch_nil (R W : Nat) (p : Option Addr) (c : Nat) (w : World) (hwi : w.cell? ⟨R, 1, none⟩ = some (.int .i64 W)) :
    Calls Tryz.prog 22 #[.pointer (some ⟨R, 0, none⟩), .slice p 0 c] w fun e w' => e = .returned (.tuple #[.int .i64 0, .nilIface]) ∧ Chg Nix w w' := by
  go_enter Tryz.func22, Tryz.ntmps22
  go_wp2_with fail
  go_loopw [6, 8] (fun i s wx => i = .int .i64 0 ∧ Chg Nix w wx) (fun _ _ _ => 0)
  case atStart => exact ⟨rfl, Chg.refl _ _⟩
  case round =>
    obtain ⟨rfl, hC⟩ := hrel
    have HC := Lib.hid hC; clear hC
    go_wp2_with fail
    go_ret2
    exact ⟨rfl, HC.out⟩
set_option maxRecDepth 100000 in
set_option maxHeartbeats 1000000 in
theorem getLevels_nil (R W : Nat) (p : Option Addr) (c : Nat) (w : World) (hwi : w.cell? ⟨R, 1, none⟩ = some (.int .i64 W)) :
    Calls Tryz.prog 23 #[.pointer (some ⟨R, 0, none⟩), .slice p 0 c, .int .i16 0] w fun e w' => LevEnd 0 e ∧ Chg Nix w w' := by
  go_enter Tryz.func23, Tryz.ntmps23
  go_wp2_with fail
  go_loopw [9, 10, 11] (fun i z s wx => i = .int .i64 0 ∧ Num z ∧ Chg Nix w wx) (fun _ _ _ _ => 0)
  case atStart => exact ⟨rfl, ⟨_, rfl⟩, Chg.refl _ _⟩
  case round =>
    obtain ⟨rfl, ⟨z, rfl⟩, hC⟩ := hrel
    have HC := Lib.hid hC; clear hC
    go_wp2_with fail
    go_ret3
    exact ⟨⟨_, rfl⟩, HC.out⟩
set_option maxRecDepth 100000 in
set_option maxHeartbeats 1000000 in
theorem getBitmap_nil (R W : Nat) (p : Option Addr) (m c d : Nat) (w : World) (hwi : w.cell? ⟨R, 1, none⟩ = some (.int .i64 1)) :
    Calls Tryz.prog 24 #[.pointer (some ⟨R, 0, none⟩), .slice p m c, .int .i64 d, .int .i64 0] w fun e w' => e = .returned (.tuple #[.int .i64 0, .nilIface]) ∧ Chg Nix w w' := by
  go_enter Tryz.func24, Tryz.ntmps24
  go_wp2_with fail
  go_loopw [10] (fun i wx => i = .int .i64 0 ∧ Chg Nix w wx) (fun _ _ => 0)
  case atStart => exact ⟨rfl, Chg.refl _ _⟩
  case round =>
    obtain ⟨rfl, hC⟩ := hrel
    have HC := Lib.hid hC; clear hC
    go_wp2_with fail
    go_ret2
    exact ⟨rfl, HC.out⟩
/-- A batch of nothing. -/
def BatchNil (w : World) (e : Ending) (w' : World) : Prop := ∃ p c, e = .returned (.tuple #[.slice p 0 c, .nilIface]) ∧ Chg Nix w w'
set_option maxRecDepth 100000 in
set_option maxHeartbeats 1000000 in
theorem batch0_nil (R W : Nat) (w : World) (hwi : w.cell? ⟨R, 1, none⟩ = some (.int .i64 W)) :
    Calls Tryz.prog 15 #[.pointer (some ⟨R, 0, none⟩), .int .i64 0, .int .i64 0] w (BatchNil w) := by
  have hmk : ∀ W : World, (Instr.makeSlice 25 (.int .i64 0) (.int .i64 0)).run Tryz.prog W = _ := make_u64 0 (by omega)
  have Hcall := fun X => Lib.hid (getBatch_nil R W (some ⟨w.heap.size, 0, none⟩) 0 (w.alloc X) ((Chg.new w X).keep hwi (fun h => h)))
  clear hwi
  go_enter Tryz.func15, Tryz.ntmps15
  go_wp2_with fail
  refine (Hcall _).out.mono ?_
  rintro e w1 ⟨rfl, hC⟩
  have HC := Lib.hid ((Chg.new w _).trans hC); clear hC
  go_wp2_with fail
  go_ret2
  exact ⟨_, _, rfl, HC.out⟩
set_option maxRecDepth 100000 in
set_option maxHeartbeats 1000000 in
theorem batch1_nil (R W : Nat) (w : World) (hwi : w.cell? ⟨R, 1, none⟩ = some (.int .i64 W)) :
    Calls Tryz.prog 15 #[.pointer (some ⟨R, 0, none⟩), .int .i64 1, .int .i64 0] w (BatchNil w) := by
  have hmk : ∀ W : World, (Instr.makeSlice 63 (.int .i64 0) (.int .i64 0)).run Tryz.prog W = _ := make_i16 0 (by omega)
  have Hcall := fun X => Lib.hid (getLevels_nil R W (some ⟨w.heap.size, 0, none⟩) 0 (w.alloc X) ((Chg.new w X).keep hwi (fun h => h)))
  clear hwi
  go_enter Tryz.func15, Tryz.ntmps15
  go_wp2_with fail
  refine (Hcall _).out.mono ?_
  rintro e w1 ⟨⟨y, rfl⟩, hC⟩
  have HC := Lib.hid ((Chg.new w _).trans hC); clear hC
  go_wp2_with fail
  go_loopw [47, 6] (fun i v wx => i = .int .i64 0 ∧ v = .slice none 0 0 ∧ Chg Nix w wx) (fun _ _ _ => 0)
  case atStart => exact ⟨rfl, rfl, HC.out⟩
  case round =>
    obtain ⟨rfl, rfl, hC⟩ := hrel
    have HC2 := Lib.hid hC; clear hC
    go_wp2_with fail
    go_ret2
    exact ⟨_, _, rfl, HC2.out⟩
set_option maxRecDepth 100000 in
set_option maxHeartbeats 1000000 in
theorem batch2_nil (R : Nat) (w : World) (hwi : w.cell? ⟨R, 1, none⟩ = some (.int .i64 1)) :
    Calls Tryz.prog 15 #[.pointer (some ⟨R, 0, none⟩), .int .i64 2, .int .i64 0] w (BatchNil w) := by
  have hmk : ∀ W : World, (Instr.makeSlice 28 (.int .i64 0) (.int .i64 0)).run Tryz.prog W = _ := make_bytes 0 (by omega)
  have Hcall := fun X => Lib.hid (getBitmap_nil R 1 (some ⟨w.heap.size, 0, none⟩) 0 0 0 (w.alloc X) ((Chg.new w X).keep hwi (fun h => h)))
  clear hwi
  go_enter Tryz.func15, Tryz.ntmps15
  go_wp2_with fail
  refine (Hcall _).out.mono ?_
  rintro e w1 ⟨rfl, hC⟩
  have HC := Lib.hid ((Chg.new w _).trans hC); clear hC
  go_wp2_with fail
  go_loopw [71, 6] (fun i v wx => i = .int .i64 0 ∧ v = .slice none 0 0 ∧ Chg Nix w wx) (fun _ _ _ => 0)
  case atStart => exact ⟨rfl, rfl, HC.out⟩
  case round =>
    obtain ⟨rfl, rfl, hC⟩ := hrel
    have HC2 := Lib.hid hC; clear hC
    go_wp2_with fail
    go_ret2
    exact ⟨_, _, rfl, HC2.out⟩
set_option maxRecDepth 100000 in
set_option maxHeartbeats 1000000 in
theorem batch3_nil (R : Nat) (w : World) :
    Calls Tryz.prog 15 #[.pointer (some ⟨R, 0, none⟩), .int .i64 3, .int .i64 0] w (BatchNil w) := by
  go_enter Tryz.func15, Tryz.ntmps15
  go_wp2_with fail
  go_loopw [86, 6, 7] (fun i v u wx => i = .int .i64 0 ∧ v = .slice none 0 0 ∧ u = .nilIface ∧ Chg Nix w wx) (fun _ _ _ _ => 0)
  case atStart => exact ⟨rfl, rfl, rfl, Chg.refl _ _⟩
  case round =>
    obtain ⟨rfl, rfl, rfl, hC⟩ := hrel
    have HC2 := Lib.hid hC; clear hC
    go_wp2_with fail
    go_ret2
    exact ⟨_, _, rfl, HC2.out⟩
theorem batch_nil (how W R : Nat) (w : World) (hwi : w.cell? ⟨R, 1, none⟩ = some (.int .i64 W)) (hh : how = 0 ∨ how = 1 ∨ (how = 2 ∧ W = 1) ∨ how = 3) :
    Calls Tryz.prog 15 #[.pointer (some ⟨R, 0, none⟩), .int .i64 how, .int .i64 0] w (BatchNil w) := by
  rcases hh with rfl | rfl | ⟨rfl, rfl⟩ | rfl
  · exact batch0_nil R W w hwi
  · exact batch1_nil R W w hwi
  · exact batch2_nil R w hwi
  · exact batch3_nil R w
end Go.Proofs.YtameepdbnnaaaaaGreatDoor
/- impl.RleRead where nothing stands. -/
namespace Go.Proofs.YtameepdbnnaaaaaGreatDoor
open Go Go.RowKit
theorem nil_start (pp : Option Addr) (C W R : Nat) (w W1 w2 : World) 
    (hW1 : W1 = ((w.alloc (.cells #[.slice none 0 0] 25)).alloc (.cells #[.bool false] 4)).alloc (.cells #[.slice pp 0 C, .int .i64 0, .int .i64 (-1)] 58))
    (hR1 : W1.heap.size < R) (hR2 : R < w2.heap.size) (hc : Chg Nix W1 w2) (h : RD0 W R W1.heap.size (w.heap.size + 1 + 1) w2) :
    w2.cell? ⟨R, 1, none⟩ = some (.int .i64 W) ∧ w.heap.size + 1 < R ∧ R < w2.heap.size ∧ w2.cell? ⟨w.heap.size, 0, none⟩ = some (.slice none 0 0) ∧ w2.frozen? ⟨w.heap.size, 0, none⟩ = false ∧ w2.cell? ⟨w.heap.size + 1, 0, none⟩ = some (.bool false) ∧ w2.frozen? ⟨w.heap.size + 1, 0, none⟩ = false ∧ Chg Nix w w2 := by
  have hs : W1.heap.size = w.heap.size + 3 := by rw [hW1]; simp
  have hcw : Chg Nix w W1 := by rw [hW1]; exact (((Chg.refl _ _).alloc _).alloc _).alloc _
  have keep : ∀ k o v, W1.cell? ⟨k, o, none⟩ = some v → w2.cell? ⟨k, o, none⟩ = some v := fun k o v hv => hc.keep hv (fun h => h)
  have keepf : ∀ k o, k < W1.heap.size → W1.frozen? ⟨k, o, none⟩ = false → w2.frozen? ⟨k, o, none⟩ = false := fun k o hk hv => (hc.frozen k o hk).trans hv
  have k1 : W1.cell? ⟨w.heap.size, 0, none⟩ = some (.slice none 0 0) := by rw [hW1]; exact (((Chg.refl Nix _).alloc _).alloc _).keep (by simp) (fun h => h)
  have k2 : W1.frozen? ⟨w.heap.size, 0, none⟩ = false := by rw [hW1]; exact ((((Chg.refl Nix (w.alloc (.cells #[.slice none 0 0] 25))).alloc _).alloc _).frozen _ _ (by simp)).trans (by simp)
  have k3 : W1.cell? ⟨w.heap.size + 1, 0, none⟩ = some (.bool false) := by rw [hW1]; exact ((Chg.refl Nix _).alloc _).keep (new_cell (by simp) rfl) (fun h => h)
  have k4 : W1.frozen? ⟨w.heap.size + 1, 0, none⟩ = false := by rw [hW1]; exact (((Chg.refl Nix ((w.alloc (.cells #[.slice none 0 0] 25)).alloc (.cells #[.bool false] 4))).alloc _).frozen _ _ (by simp)).trans (new_frozen (by simp))
  exact ⟨h.wi, by omega, hR2, keep _ _ _ k1, keepf _ _ (by omega) k2, keep _ _ _ k3, keepf _ _ (by omega) k4, hcw.trans hc⟩
/-- What holds at the head of the loop. -/
structure RN (W R A : Nat) (w2 wx : World) (v : Value) : Prop where
  ca : wx.cell? ⟨A, 0, none⟩ = some v
  own : Own1 wx w2.heap.size 30 v []
  wi : wx.cell? ⟨R, 1, none⟩ = some (.int .i64 W)
  chg : Chg (fun a _ => a = A) w2 wx
set_option maxRecDepth 100000 in
set_option maxHeartbeats 1000000 in
theorem rleRead_nil (how W bc C : Nat) (pp bp : Option Addr) (ns : List Int) (w : World)
    (hns : ∀ j (hj : j < ns.length), ∃ g o, bp = some ⟨g, o, none⟩ ∧ w.cell? ⟨g, o + j, none⟩ = some (.int .i64 ns[j])) (hnc : ns.length ≤ 1000000)
    (hh : how = 0 ∨ how = 1 ∨ (how = 2 ∧ W = 1) ∨ how = 3) (hz : ∀ n ∈ ns, n = 0) :
    Calls Tryz.prog 5 #[.slice pp 0 C, .int .i64 W, .int .i64 how, .slice bp ns.length bc] w fun e w' =>
      ∃ v, e = .returned (.tuple #[v, .bool true]) ∧ Reads2 w' v (u64s []) ∧ Chg Nix w w' := by
  go_enter_defers Tryz.func5, Tryz.ntmps5
  go_wp2_with fail
  refine (newReader_any _ _ _ _).mono ?_
  rintro e w1 ⟨rfl, rfl⟩
  go_wp2_with fail
  obtain ⟨W1, hW⟩ : ∃ W1, W1 = ((w.alloc (.cells #[.slice none 0 0] 25)).alloc (.cells #[.bool false] 4)).alloc (.cells #[.slice pp 0 C, .int .i64 0, .int .i64 (-1)] 58) := ⟨_, rfl⟩
  rw [← hW]
  refine (newRle_ok _ _ _).mono ?_
  rintro e w2 ⟨R, rfl, hR1, hR2, hC2, hR0⟩
  obtain ⟨hwi, hAR, hRl, cA, fA, cB, fB, hCw⟩ := nil_start pp C W R w W1 w2 hW hR1 hR2 hC2 hR0
  have HlA := Lib.hid (World.block_lt_of_cell? _ _ cA : w.heap.size < w2.heap.size)
  have HlB := Lib.hid (World.block_lt_of_cell? _ _ cB : w.heap.size + 1 < w2.heap.size)
  have h0 : RN W R w.heap.size w2 w2 (.slice none 0 0) := ⟨cA, Own1.nil _ _ _, hwi, Chg.refl _ _⟩
  have H0 := Lib.hid h0
  have HAR := Lib.hid hAR
  have HRl := Lib.hid hRl
  have Hns := Lib.hid hns
  have Hz := Lib.hid hz
  have HCw := Lib.hid hCw
  clear h0 hns hR0 hC2 hW hR1 hR2 cA hCw hz hwi hAR hRl
  go_wp2_with fail
  go_loopw [21] (fun i wx => ∃ k v, k ≤ ns.length ∧ i = .int .i64 k ∧ RN W R w.heap.size w2 wx v) (fun i _ => ns.length - (intOf i).toNat)
  case atStart => exact ⟨0, _, Nat.zero_le _, rfl, H0.out⟩
  case round =>
    obtain ⟨k, v, hk, rfl, hG⟩ := hrel
    clear H0
    by_cases hlt : k < ns.length
    · obtain ⟨g, go, rfl, hcell⟩ := Hns.out k hlt
      have hgl : g < w.heap.size := World.block_lt_of_cell? w _ hcell
      have hn0 : ns[k] = 0 := Hz.out _ (List.getElem_mem _)
      rw [hn0] at hcell
      have hcell2 := hG.chg.keep (HCw.out.keep hcell (fun h => h)) (by rintro hh; omega)
      have Hcall := Lib.hid (batch_nil how W R wr hG.wi hh)
      have HG := Lib.hid hG
      clear hG hcell
      go_wp2_with fail
      refine Hcall.out.mono ?_
      rintro e w3 ⟨p3, c3, rfl, hC3⟩
      have hca := hC3.keep HG.out.ca (fun h => h)
      have hfa := (hC3.frozen w.heap.size 0 (World.block_lt_of_cell? _ _ HG.out.ca)).trans ((HG.out.chg.frozen w.heap.size 0 HlA.out).trans fA)
      have Hown := Lib.hid (HG.out.own.keep hC3 (fun _ _ _ h => h))
      have HC3 := Lib.hid hC3
      clear hC3 Hcall
      go_wp2_with (at_builtin; refine (wpList_append_u64 rfl (.tmp 42) (.tmp 43) rfl w2.heap.size _ [] rfl Hown.out _ [] rfl ⟨_, _, rfl, .inl rfl⟩ (by intro u hu; cases hu) (by simp) (HG.out.chg.trans (HC3.out.mono (fun _ _ _ h => h.elim))).size ?_))
      intro v' w' hO' hC'
      obtain ⟨pv, lv, cv, rfl⟩ : ∃ pv lv cv, v' = .slice pv lv cv := by
        obtain ⟨pv, cv, hh, -⟩ := hO'.reads
        exact ⟨_, _, _, hh⟩
      have hne : ∀ g, v.ownBlock = some g → w2.heap.size ≤ g := fun g hg => (Hown.out.lt g hg).1
      have hca2 := hC'.keep hca (by intro hh; have := hne _ hh; have := HlA.out; omega)
      have hfa2 := (hC'.frozen w.heap.size 0 (World.block_lt_of_cell? _ _ hca)).trans hfa
      have hO5 : Own1 (w'.setCell ⟨w.heap.size, 0, none⟩ (.slice pv lv cv)) w2.heap.size 30 (.slice pv lv cv) [] := hO'.keep ((Chg.refl (fun a _ => a = w.heap.size) w').setCell _ _ (fun _ => rfl) _) (by
        rintro g hg x rfl
        have := HlA.out
        omega)
      have hwi5 : (w'.setCell ⟨w.heap.size, 0, none⟩ (.slice pv lv cv)).cell? ⟨R, 1, none⟩ = some (.int .i64 W) := cell_ne _ (hC'.keep (HC3.out.keep HG.out.wi (fun h => h)) (by intro hh; have := hne _ hh; have := HRl.out; omega)) (by rintro ⟨hh, -⟩; have := HAR.out; omega)
      have hC5 : Chg (fun a _ => a = w.heap.size) w2 (w'.setCell ⟨w.heap.size, 0, none⟩ (.slice pv lv cv)) := ((HG.out.chg.trans (HC3.out.mono (fun _ _ _ h => h.elim))).comp hC' (fun _ _ _ h => h) (by
        intro a x ha hh
        have := hne _ hh
        omega)).setCell _ _ (fun _ => rfl) _
      have Hst := Lib.hid (⟨World.cell?_setCell_same _ _ _ hca2, hO5, hwi5, hC5⟩ : RN W R w.heap.size w2 (w'.setCell ⟨w.heap.size, 0, none⟩ (.slice pv lv cv)) (.slice pv lv cv))
      clear hO5 hwi5 hC5 hO' hC' hne hca hfa Hown
      go_wp2_with fail
      go_roundw
      case rel => exact ⟨k + 1, _, by omega, by go_num, Hst.out⟩
      case measure => simp [intOf]; omega
    · have hke : k = ns.length := by omega
      subst hke
      have hca := hG.ca
      have hfa := (hG.chg.frozen w.heap.size 0 HlA.out).trans fA
      have hcb := hG.chg.keep cB (by intro hh; omega)
      have hfb := (hG.chg.frozen (w.heap.size + 1) 0 HlB.out).trans fB
      obtain ⟨pv, lv, cv, rfl⟩ : ∃ pv lv cv, v = .slice pv lv cv := by
        obtain ⟨pv, cv, hh, -⟩ := hG.own.reads
        exact ⟨_, _, _, hh⟩
      have HG := Lib.hid hG
      clear hG
      go_wp2_with fail
      refine leaves_cons (f := 11) (args := #[.pointer (some ⟨w.heap.size, 0, none⟩), .pointer (some ⟨w.heap.size + 1, 0, none⟩)]) (by simp) (by simp [go_sem]) ?_
      refine (noNumbers_idle ⟨w.heap.size, 0, none⟩ ⟨w.heap.size + 1, 0, none⟩ _).mono ?_
      obtain ⟨wz, hwz⟩ : ∃ wz, wz = (wr.setCell ⟨w.heap.size, 0, none⟩ (.slice pv lv cv)).setCell ⟨w.heap.size + 1, 0, none⟩ (.bool true) := ⟨_, rfl⟩
      have z1 : wz.cell? ⟨w.heap.size, 0, none⟩ = some (.slice pv lv cv) := by
        rw [hwz]
        exact cell_ne _ (World.cell?_setCell_same _ _ _ hca) (by rintro ⟨hh, -⟩; omega)
      have z2 : wz.cell? ⟨w.heap.size + 1, 0, none⟩ = some (.bool true) := by
        rw [hwz]
        exact World.cell?_setCell_same _ _ _ (cell_ne _ hcb (by rintro ⟨hh, -⟩; omega))
      have hcz : Chg (fun a _ => a = w.heap.size ∨ a = w.heap.size + 1) wr wz := by
        rw [hwz]
        exact ((Chg.refl _ _).setCell _ _ (fun _ => .inl rfl) _).setCell _ _ (fun _ => .inr rfl) _
      have Hcz := Lib.hid hcz
      rw [← hwz]
      clear hwz hcz
      rintro e u' w'' ⟨rfl, rfl, rfl⟩
      simp [Leaves, settle, results, Tryz.results5, go_sem, z1, z2]
      have hr := (HG.out.own.keep Hcz.out (by
        have := HlA.out
        have := HlB.out
        rintro g hg x (hh | hh) <;> omega)).reads2
      refine ⟨hr, (HCw.out.comp HG.out.chg (fun _ _ _ h => h) (by rintro a x ha rfl; omega)).comp Hcz.out (fun _ _ _ h => h) ?_⟩
      rintro a x ha (hh | hh) <;> omega
end Go.Proofs.YtameepdbnnaaaaaGreatDoor
/- The plain law: what an evaluation with enough fuel gives; the sizes; the same words; the batches. -/
namespace Go.Proofs.YtameepdbnnaaaaaGreatDoor
open Go Go.RowKit Go.Proofs.YtameepdbnnaaaaaGreatDoor.PFnRleRead Go.Proofs.YtameepdbnnaaaaaGreatDoorW.PrintWords
/-- From some fuel on. -/
def Ev {α : Type} (F : Nat → Option α) (r : α) : Prop := ∃ k0, ∀ k, k0 ≤ k → F k = some r
theorem Ev.step {α : Type} {F G : Nat → Option α} {r : α} (h : ∀ k, F (k + 1) = G k) (hg : Ev G r) : Ev F r := by
  obtain ⟨k0, hk⟩ := hg
  refine ⟨k0 + 1, fun k hk1 => ?_⟩
  obtain ⟨m, rfl⟩ : ∃ m, k = m + 1 := ⟨k - 1, by omega⟩
  rw [h]; exact hk m (by omega)
theorem Ev.now {α : Type} {F : Nat → Option α} {r : α} (h : ∀ k, F (k + 1) = some r) : Ev F r :=
  ⟨1, fun k hk1 => by obtain ⟨m, rfl⟩ : ∃ m, k = m + 1 := ⟨k - 1, by omega⟩; exact h m⟩
theorem Ev.const {α : Type} {r : α} : Ev (fun _ => some r) r := ⟨0, fun _ _ => rfl⟩
theorem Ev.get {α : Type} {F : Nat → Option α} {r : α} (h : Ev F r) : ∃ k, F k = some r := ⟨_, h.choose_spec _ (Nat.le_refl _)⟩
theorem Ev.bind {α β : Type} {F : Nat → Option α} {a : α} {G : Nat → α → Option β} {b : β} (h : Ev F a) (hg : Ev (fun k => G k a) b) : Ev (fun k => (F k).bind (G k)) b := by
  obtain ⟨k0, h0⟩ := h
  obtain ⟨k1, h1⟩ := hg
  exact ⟨k0 + k1, fun k hk => by show (F k).bind (G k) = _; rw [h0 k (by omega)]; exact h1 k (by omega)⟩
theorem Ev.congr {α : Type} {F G : Nat → Option α} {r : α} (h : ∀ k, F k = G k) (hg : Ev G r) : Ev F r := by
  obtain ⟨k0, hk⟩ := hg
  exact ⟨k0, fun k hk1 => (h k).trans (hk k hk1)⟩
theorem w64 (n : Nat) (h : n ≤ 9223372036854775807) : RowKit.wrap64 (n : Int) = n := IntWalk.wrap64_in _ (by omega)
theorem rd_app (pre suf : List Int) (x : Int) : rd (pre ++ x :: suf) (pre.length : Int) = x := by
  unfold rd
  rw [Int.toNat_natCast, List.getD_eq_getElem?_getD, List.getElem?_append_right (Nat.le_refl _), Nat.sub_self]; rfl
/-- The same words. -/
theorem same_l0 (ys : List Int) (hb : ys.length ≤ 1000000000) : ∀ (suf pre : List Int), pre ++ suf = ys → Ev (fun k => laws_sameWords.l0 k ys ys (ys.length : Int) (pre.length : Int)) true := by
  intro suf
  induction suf with
  | nil =>
    intro pre h
    rw [List.append_nil] at h
    subst h
    exact .now fun k => by rw [laws_sameWords.l0, if_neg (by omega)]
  | cons x suf ih =>
    intro pre h
    have hl : pre.length + suf.length + 1 = ys.length := by rw [← h, List.length_append, List.length_cons]; omega
    have := ih (pre ++ [x]) (by rw [List.append_assoc]; exact h)
    rw [List.length_append, List.length_singleton] at this
    refine .step (fun k => ?_) this
    rw [laws_sameWords.l0, if_pos (by omega), if_pos (by omega), if_pos (by omega), if_pos (by omega), if_pos rfl]
    rw [show (pre.length : Int) + 1 = (pre.length + 1 : Nat) by push_cast; rfl, w64 _ (by omega)]
theorem same_ev (ys : List Int) (hb : ys.length ≤ 1000000000) : Ev (fun k => laws_sameNumbers.f k ys ys) true := by
  have h := same_l0 ys hb ys [] rfl
  refine .congr (fun k => ?_) (.bind (G := fun _ t => some t) h .const)
  unfold laws_sameNumbers.f laws_sameWords.f
  rw [if_pos rfl]; rfl
/-- The sizes: one answer or the other. -/
theorem fits_l0 (l : List S36) (hb : l.length ≤ 2147483647) : ∀ n i, i + n = l.length → ∃ b, Ev (fun k => laws_zzFits5.l0 k l (l.length : Int) (i : Int)) b := by
  intro n
  induction n with
  | zero => exact fun i h => ⟨true, .now fun k => by rw [laws_zzFits5.l0, if_neg (by omega)]⟩
  | succ n ih =>
    intro i h
    obtain ⟨b, hb2⟩ := ih (i + 1) (by omega)
    by_cases hc : ((rd_T36 l i).f2.length : Int) > 2147483647
    · refine ⟨false, .now fun k => ?_⟩
      rw [laws_zzFits5.l0, if_pos (by omega), if_pos (by omega), if_pos (by omega)]
      simp only [laws_zzFits6.f, if_pos hc, Option.bind_some]
      rfl
    · refine ⟨b, .step (fun k => ?_) hb2⟩
      rw [laws_zzFits5.l0, if_pos (by omega), if_pos (by omega), if_pos (by omega)]
      simp only [laws_zzFits6.f, if_neg hc, Option.bind_some]
      rw [show (i : Int) + 1 = (i + 1 : Nat) by push_cast; rfl, w64 _ (by omega)]
      rfl
theorem fits_ev (l : List S36) : ∃ b, Ev (fun k => laws_zzFits5.f k l) b := by
  by_cases hc : (l.length : Int) > 2147483647
  · exact ⟨false, .congr (fun k => by unfold laws_zzFits5.f; rw [if_pos hc]) .const⟩
  · obtain ⟨b, hb⟩ := fits_l0 l (by omega) l.length 0 (by omega)
    exact ⟨b, .congr (fun k => by unfold laws_zzFits5.f; rw [if_neg hc]; rfl) hb⟩
end Go.Proofs.YtameepdbnnaaaaaGreatDoor
