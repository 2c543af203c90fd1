/- Part 16 of the proof: the texts LP, joined. What each proves stands ahead of it. -/
import Derived.Test.YtaageikelkcphaaGreatDoorKO
set_option linter.unusedVariables false
set_option linter.unusedSimpArgs false
/- The decoder of prefixes: texts are left out (Discard). -/
namespace Go.Proofs.YtaageikelkcphaaGreatDoor
open Go Go.RowKit
theorem Prefs.head {last n : List Nat} {rs ls : List (List Nat)} (h : Prefs last n rs ls) (h0 : ls ≠ []) : ∃ m ns' r rs' l ls', n = m :: ns' ∧ rs = r :: rs' ∧ ls = l :: ls' ∧ m ≤ last.length ∧ l = last.take m ++ r ∧ Prefs l ns' rs' ls' := by
  cases h with
  | nil => exact absurd rfl h0
  | cons hn h => exact ⟨_, _, _, _, _, _, rfl, rfl, rfl, hn, rfl, h⟩
/-- One text further. -/
theorem PS.next {K K' : Nat → Nat → Prop} {w w' : World} {d d2 b lb pb : Nat} {last l : List Nat} {lastV lastV' : Value} {n : Nat} {ns : List Nat} {r : List Nat} {rs ls : List (List Nat)} {k k' pc po R C lo lc po' R' C' lo' lc' : Nat}
    (h : PS K w d d2 b lb pb last lastV (n :: ns) (r :: rs) (l :: ls) k pc po R C lo lc) (hrow : Row w' d (pl d2 (.slice (some ⟨pb, k', none⟩) ns.length (pc - 1)) lastV')) (hk : ns ≠ [] → k' = k + 1) (hd : d < w'.heap.size)
    (hls : LS w' d2 b lb rs po' R' C' lo' lc') (hpre : ∀ x v, w.cell? ⟨pb, x, none⟩ = some v → w'.cell? ⟨pb, x, none⟩ = some v) (hba : BA K' w' lastV' l) : PS K' w' d d2 b lb pb l lastV' ns rs ls k' (pc - 1) po' R' C' lo' lc' := by
  have hllc := h.llc
  have hlcc := h.lcc
  have hcnt := h.cnt
  have htot := h.tot
  simp only [List.length_cons, asz] at hllc hcnt htot
  have hp : Prefs l ns rs ls := by
    cases h.prefs with
    | cons hn hp => exact hp
  refine ⟨hrow, hd, by omega, by omega, fun t m ht => ?_, hls, hp, .inr hba, fun x hx => h.small x (List.mem_cons_of_mem _ hx), h.small l List.mem_cons_self, by omega, by omega, h.dd2, h.db, h.dlb, h.dpb, h.d2pb⟩
  have h1 := h.pre (t + 1) m (by simpa using ht)
  have hne : ns ≠ [] := by rintro rfl; simp at ht
  rw [hk hne, show k + 1 + t = k + (t + 1) by omega]
  exact hpre _ _ h1
theorem PS.keep {K : Nat → Nat → Prop} {w w' : World} {d d2 b lb pb : Nat} {last : List Nat} {lastV : Value} {ns : List Nat} {rs ls : List (List Nat)} {k pc po R C lo lc : Nat} (h : PS K w d d2 b lb pb last lastV ns rs ls k pc po R C lo lc) {S : Nat → Nat → Prop} (hc : Chg S w w')
    (hS : ∀ a x, S a x → a ≠ d ∧ a ≠ d2 ∧ a ≠ b ∧ a ≠ lb ∧ a ≠ pb ∧ ¬ K a x) : PS K w' d d2 b lb pb last lastV ns rs ls k pc po R C lo lc :=
  ⟨h.row.keep h.dlt hc (fun x e => (hS _ _ e).1 rfl), hc.lt h.dlt, h.llc, h.lcc, fun t n ht => hc.keep (h.pre t n ht) (fun e => (hS _ _ e).2.2.2.2.1 rfl), h.st.keep hc (fun k x e => ⟨(hS _ _ e).2.1, (hS _ _ e).2.2.1, (hS _ _ e).2.2.2.1⟩), h.prefs, h.lv.imp id (fun hb => hb.keep hc (fun a x e => (hS _ _ e).2.2.2.2.2)), h.small, h.lsm, h.tot, h.cnt, h.dd2, h.db, h.dlb, h.dpb, h.d2pb⟩
/-- Behind t texts that were left out. -/
def PAt (V : Nat → Prop) (w w1 : World) (d d2 b lb pb ob : Nat) (ns : List Nat) (rs ls : List (List Nat)) (t : Nat) (wx : World) : Prop :=
  ∃ V' last' lastV' k' pc' po' R' C' lo' lc', Grow V w V' ∧ (∀ a, V a → V' a) ∧ (∀ a, V' a → a < wx.heap.size ∧ a ≠ d ∧ a ≠ d2 ∧ a ≠ ob) ∧ Chg (fun a _ => a = d ∨ a = d2 ∨ a = ob) w1 wx ∧ (∃ u, wx.cell? ⟨ob, 0, none⟩ = some u) ∧ PS (fun g _ => V' g) wx d d2 b lb pb last' lastV' (ns.drop t) (rs.drop t) (ls.drop t) k' pc' po' R' C' lo' lc' ∧ BA (fun g _ => V' g) wx lastV' last'
theorem BA.take {K : Nat → Nat → Prop} {w : World} {g o n : Nat} {bs : List Nat} (hn : n ≤ bs.length) (h : ∀ (j x : Nat), bs[j]? = some x → K g (o + j) ∧ w.cell? ⟨g, o + j, none⟩ = some (.int .u8 (x : Int))) (hb : bs.length ≤ 1000000000000000000) : BA K w (.slice (some ⟨g, o, none⟩) n n) (bs.take n) := by
  have hl : (bs.take n).length = n := by rw [List.length_take]; omega
  refine ⟨g, o, n, by rw [hl], by omega, by omega, fun j x hx => ?_⟩
  have hj : j < n := by have := (List.getElem?_eq_some_iff.1 hx).1; omega
  rw [List.getElem?_take_of_lt hj] at hx
  exact h j x hx
theorem dropc {α : Type} {l : List α} {t : Nat} {x : α} {xs : List α} (h : l.drop t = x :: xs) : l.drop (t + 1) = xs := by
  rw [← List.drop_drop, h]; rfl
theorem PAt.step {V V' V2 : Nat → Prop} {w w1 wx w' : World} {d d2 b lb pb ob : Nat} {ns ns' : List Nat} {rs ls rs' ls' : List (List Nat)} {t n : Nat} {r l last' : List Nat} {lastV' v : Value} {k' pc' po' R' C' lo' lc' k2 : Nat}
    (hG : Grow V w V') (hVV : ∀ a, V a → V' a) (hch : Chg (fun a _ => a = d ∨ a = d2 ∨ a = ob) w1 wx) (hw : w.heap.size ≤ wx.heap.size) (hps : PS (fun g _ => V' g) wx d d2 b lb pb last' lastV' (n :: ns') (r :: rs') (l :: ls') k' pc' po' R' C' lo' lc')
    (e1 : ns.drop t = n :: ns') (e2 : rs.drop t = r :: rs') (e3 : ls.drop t = l :: ls') (hG2 : Grow V' wx V2) (hVV2 : ∀ a, V' a → V2 a) (hVl : ∀ a, V2 a → a < w'.heap.size ∧ a ≠ d ∧ a ≠ d2 ∧ a ≠ ob)
    (hc : Chg (fun a _ => a = d ∨ a = d2 ∨ a = ob) wx w') (hob : ∃ u, w'.cell? ⟨ob, 0, none⟩ = some u) (hpb : pb ≠ ob) (hrow : Row w' d (pl d2 (.slice (some ⟨pb, k2, none⟩) ns'.length (pc' - 1)) v)) (hk : ns' ≠ [] → k2 = k' + 1)
    (hls : ∃ po2 R2 C2 lo2 lc2, LS w' d2 b lb rs' po2 R2 C2 lo2 lc2) (hba : BA (fun g _ => V2 g) w' v l) : PAt V w w1 d d2 b lb pb ob ns rs ls (t + 1) w' := by
  obtain ⟨po2, R2, C2, lo2, lc2, hls⟩ := hls
  refine ⟨V2, l, v, k2, pc' - 1, po2, R2, C2, lo2, lc2, hG.trans hG2 hw, fun a ha => hVV2 a (hVV a ha), hVl, hch.trans hc, hob, ?_, hba⟩
  rw [dropc e1, dropc e2, dropc e3]
  exact hps.next hrow hk (hc.lt hps.dlt) hls (fun x u hu => hc.keep hu (by rintro (e | e | e); exact hps.dpb e.symm; exact hps.d2pb e.symm; exact hpb e)) hba
set_option maxRecDepth 100000 in
set_option maxHeartbeats 1000000 in
theorem prefDiscard_ok (V : Nat → Prop) (w : World) (d d2 b lb pb : Nat) (last : List Nat) (lastV : Value) (ns : List Nat) (rs ls : List (List Nat)) (k pc po R C lo lc n m : Nat) (h : PS (fun g _ => V g) w d d2 b lb pb last lastV ns rs ls k pc po R C lo lc) (hV : ∀ a, V a → a < w.heap.size ∧ a ≠ d ∧ a ≠ d2) (hVb : V b) (hbl : b < w.heap.size) (hm : m = min n ls.length) (hm1 : 1 ≤ m) (hn2 : n ≤ 5000) :
    Calls Tryz.prog 19 #[.pointer (some ⟨d, 0, none⟩), .int .i64 n] w fun e w' => e = .returned (.tuple #[.int .i64 m, .nilIface]) ∧ Chg (fun a _ => a = d ∨ a = d2) w w' ∧
      ∃ V' last' lastV' k' pc' po' R' C' lo' lc', Grow V w V' ∧ (∀ a, V a → V' a) ∧ (∀ a, V' a → a < w'.heap.size ∧ a ≠ d ∧ a ≠ d2) ∧ PS (fun g _ => V' g) w' d d2 b lb pb last' lastV' (ns.drop m) (rs.drop m) (ls.drop m) k' pc' po' R' C' lo' lc' := by
  have q0 := h.row.at 0 rfl
  have q1 := h.row.at 1 rfl
  have q2 := h.row.at 2 rfl
  have q3 := h.st.row.at 0 rfl
  obtain ⟨l1, l2⟩ := h.prefs.len
  have hcnt := h.cnt
  have hmi : (if rs.length < n then (rs.length : Int) else (n : Int)) = (m : Int) := by split <;> omega
  have Hmi := Lib.hid hmi
  have hml : m ≤ ls.length := by omega
  have hm5 : m ≤ 5000 := by omega
  have hdl := h.dlt
  have hd2l := h.st.dlt
  have hlbl : lb < w.heap.size := by
    have hr0 : ∃ r, rs[0]? = some r := ⟨_, List.getElem?_eq_getElem (by omega)⟩
    obtain ⟨r, hr⟩ := hr0
    exact World.block_lt_of_cell? _ _ (h.st.lens 0 r hr)
  have hpbl : pb < w.heap.size := by
    have hr0 : ∃ r, ns[0]? = some r := ⟨_, List.getElem?_eq_getElem (by omega)⟩
    obtain ⟨r, hr⟩ := hr0
    exact World.block_lt_of_cell? _ _ (h.pre 0 r hr)
  obtain ⟨pz, lz, cz, rfl, hlz⟩ : ∃ pz lz cz, lastV = .slice pz lz cz ∧ lz = last.length := by
    rcases h.lv with ⟨e, e2⟩ | ⟨g, o, c, e, -⟩
    · exact ⟨_, _, _, e, by rw [e2]; rfl⟩
    · exact ⟨_, _, _, e, rfl⟩
  obtain ⟨z, hz, hg, hzc, hzf⟩ : ∃ z : Bool, (∀ W, (binOp .eql 51 (.slice pz lz cz) (.slice none 0 0)).run Tryz.prog W = .ok (.bool z) W) ∧ (∀ W x y, (eqGuard .eql 51 x y (.slice pz lz cz) (.slice none 0 0)).run Tryz.prog W = .ok () W) ∧ (z = true → last = []) ∧ (z = false → BA (fun g _ => V g) w (.slice pz lz cz) last) := by
    rcases h.lv with ⟨e, e2⟩ | hb
    · injection e with e1 e2' e3
      subst e1; subst e2'; subst e3
      exact ⟨true, ba_nil0, (fun W x y => by kernel_rfl), (fun _ => e2), (fun hh => by cases hh)⟩
    · have hb' := hb
      obtain ⟨g, o, c, e, -⟩ := hb
      injection e with e1 e2' e3
      subst e1
      exact ⟨false, (fun W => ba_nil _ _ _ W), (fun W x y => by kernel_rfl), (fun hh => by cases hh), (fun _ => hb')⟩
  obtain ⟨X, hX⟩ : ∃ X, X = Obj.cells (madeCells #[.slice none 0 0] 1) 51 := ⟨_, rfl⟩
  have hmk : ∀ W : World, (Instr.makeSlice 48 (.int .i64 1) (.int .i64 1)).run Tryz.prog W = .ok (.slice (some ⟨W.heap.size, 0, none⟩) 1 1) (W.alloc X) := by
    rw [hX]
    exact fun W => run_make_row' (P := Tryz.prog) 48 51 (.slice none 0 0) 24 (by kernel_rfl) (by kernel_rfl) rfl .i64 .i64 1 (by omega) (by omega) W
  obtain ⟨ob, hob⟩ : ∃ ob, ob = w.heap.size := ⟨_, rfl⟩
  have hcel : (w.alloc X).cell? ⟨ob, 0, none⟩ = some (.slice none 0 0) := by rw [hX, hob]; exact made_cell w _ 1 0 _ (by omega)
  have hfr : ∀ j, (w.alloc X).frozen? ⟨ob, j, none⟩ = false := fun j => by rw [hX, hob]; exact fresh_frozenL rfl j
  have hc1 : Chg (fun a _ => a = d ∨ a = d2 ∨ a = ob) w (w.alloc X) := (Chg.refl _ _).alloc _
  have h1 : PS (fun g _ => V g) (w.alloc X) d d2 b lb pb last (.slice pz lz cz) ns rs ls k pc po R C lo lc := h.keep (Chg.new w X) (fun _ _ hh => hh.elim)
  have hs1 : (w.alloc X).heap.size = ob + 1 := by rw [hob]; simp
  have hN1 : ((m : Int) == 0) = false := beq_eq_false_iff_ne.2 (by omega)
  have hN2 : ¬ (m : Int) = 0 := by omega
  have Hob := Lib.hid hob
  have Hnn := Lib.hid (show ns.length = ls.length from l1)
  have Hrr := Lib.hid (show rs.length = ls.length from l2)
  have Hlz := Lib.hid hlz
  have Hm := Lib.hid hm
  have H := Lib.hid h
  have H1 := Lib.hid h1
  have Hc1 := Lib.hid hc1
  have HV := Lib.hid hV
  have HVb := Lib.hid hVb
  have Hfr := Lib.hid hfr
  have Hzf := Lib.hid hzf
  have Hcel := Lib.hid hcel
  have Hs1 := Lib.hid hs1
  have Hzc := Lib.hid hzc
  clear h h1 hc1 hV hVb hfr hzf hcel hs1 l1 l2 hlz hm hX hob hmi hzc
  go_enter Tryz.func19, Tryz.ntmps19
  go_upto_region 2 with fail
  rw [Hmi.out]
  go_upto_region 6 with fail
  rw [← Hob.out]
  obtain ⟨w1, hw1⟩ : ∃ w1, w1 = w.alloc X := ⟨_, rfl⟩
  rw [← hw1] at H1 Hc1 Hfr Hcel Hs1 ⊢
  have hwsz : w.heap.size + 1 = w1.heap.size := by rw [Hs1.out, Hob.out]
  have hob1 : ob < w1.heap.size := by rw [Hs1.out]; omega
  have hoblt : ob = w.heap.size := Hob.out
  have Hoblt := Lib.hid hoblt
  have hobd : ob ≠ d := by omega
  have hobd2 : ob ≠ d2 := by omega
  have hobb : ob ≠ b := by omega
  have hoblb : ob ≠ lb := by omega
  have hobpb : pb ≠ ob := by omega
  have Hwsz := Lib.hid hwsz
  clear hoblt hwsz hw1 q0 q1 q2 q3 hmk
  have q0 := H1.out.row.at 0 rfl
  have q1 := H1.out.row.at 1 rfl
  have q2 := H1.out.row.at 2 rfl
  have f1 := H1.out.row.fr 1
  have f2 := H1.out.row.fr 2
  go_upto_if 32 with fail
  go_cut [4, 5, 6] (fun v4 v5 v6 wx => v4 = .int .i64 0 ∧ v5 = .nilIface ∧ ∃ t : Nat, t ≤ m ∧ v6 = .int .i64 ((m - t : Nat) : Int) ∧ PAt V w w1 d d2 b lb pb ob ns rs ls t wx)
  case first =>
    cases z with
    | false =>
      go_wp2_with fail
      go_meet
      refine ⟨rfl, rfl, 0, Nat.zero_le _, rfl, V, last, _, k, pc, po, R, C, lo, lc, Grow.refl _ _, fun a ha => ha, fun a ha => ?_, Chg.refl _ _, ⟨_, Hcel.out⟩, H1.out, (Hzf.out (by trivial)).keep Hc1.out (fun a x e ha => ?_)⟩
      · obtain ⟨v1, v2, v3⟩ := HV.out a ha
        have := Hwsz.out
        have := Hoblt.out
        exact ⟨by omega, v2, v3, by omega⟩
      · obtain ⟨v1, v2, v3⟩ := HV.out a ha
        have := Hoblt.out
        rcases e with e | e | e <;> omega
    | true =>
      obtain ⟨n', ns', r, rs', l, ls', e1, e2, e3, hn, hl, -⟩ := H1.out.prefs.head (by intro e; rw [e] at hml; simp at hml; omega)
      have hl0 := Hzc.out (by trivial)
      rw [hl0] at hn hl
      have hn0 : n' = 0 := Nat.le_zero.1 hn
      subst hn0
      have hlr : l = r := hl
      subst hlr
      have h1 := H1.out
      rw [e1, e2, e3] at h1
      have p1 := h1.pre 0 0 rfl
      rw [Nat.add_zero] at p1
      obtain ⟨N, hN⟩ : ∃ N, N = ns.length := ⟨_, rfl⟩
      have hN' : N = ns'.length + 1 := by rw [hN, e1]; rfl
      rw [← hN] at q1
      have hNne : ¬ (N : Int) = 0 := by omega
      have hNb : ((N : Int) == 0) = false := beq_eq_false_iff_ne.2 hNne
      have hN0 : (0 : Int) < N := by omega
      have hllc := H1.out.llc
      rw [← hN] at hllc
      have hN1 : (1 : Int) ≤ N := by omega
      have hcel0 : ∀ j, j < 1 → ∃ u, w1.cell? ⟨ob, 0 + j, none⟩ = some u := fun j hj => by
        obtain rfl : j = 0 := by omega
        exact ⟨_, Hcel.out⟩
      have Hcall := Lib.hid (lenDecode_ok w1 d2 b lb (l :: rs') po R C lo lc ob 0 1 1 1 h1.st (by simp) (Nat.le_refl _) (by omega) (by rw [← e2]; have := Hrr.out; omega) hobd2 hobb hoblb hcel0 Hfr.out)
      have HN := Lib.hid hN
      have HN' := Lib.hid hN'
      have Hh1 := Lib.hid h1
      have He := Lib.hid (And.intro e1 (And.intro e2 e3))
      clear hN hN' h1 e1 e2 e3 hl0 hn hl
      go_wp2_with fail
      refine Hcall.out.mono ?_
      rintro e w2 ⟨rfl, hc2, ⟨po2, R2, C2, lo2, hLS2⟩, hout⟩
      obtain ⟨r', v, hr', hv, hbv⟩ := hout 0 (by omega)
      obtain rfl : l = r' := by simpa using hr'
      have hbv0 := hbv
      obtain ⟨gv, ov, cv, rfl, hv1, hv2, hvc⟩ := hbv
      rw [Nat.zero_add] at hv
      have hrow2 := Hh1.out.row.keep Hh1.out.dlt hc2 (by rintro x (e | ⟨e, -⟩); exact H1.out.dd2 e; exact hobd e.symm)
      have d1 := hrow2.at 1 rfl
      have d2f := hrow2.fr 2
      have d1f := hrow2.fr 1
      have d2c := hrow2.at 2 rfl
      rw [show (0 :: ns').length = N from HN'.out.symm] at d1
      have hend : ∀ k2 : Nat, (ns' ≠ [] → k2 = k + 1) → ∀ w3, w3 = (w2.setCell ⟨d, 2, none⟩ (.slice (some ⟨gv, ov, none⟩) l.length cv)).setCell ⟨d, 1, none⟩ (.slice (some ⟨pb, k2, none⟩) (N - 1) (pc - 1)) → PAt V w w1 d d2 b lb pb ob ns rs ls 1 w3 := by
        rintro k2 hk2 w3 rfl
        have hcw : Chg (Own d) w2 ((w2.setCell ⟨d, 2, none⟩ (.slice (some ⟨gv, ov, none⟩) l.length cv)).setCell ⟨d, 1, none⟩ (.slice (some ⟨pb, k2, none⟩) (N - 1) (pc - 1))) := ((Chg.refl _ _).own 2 _).own 1 _
        have hrw : Row ((w2.setCell ⟨d, 2, none⟩ (.slice (some ⟨gv, ov, none⟩) l.length cv)).setCell ⟨d, 1, none⟩ (.slice (some ⟨pb, k2, none⟩) (N - 1) (pc - 1))) d (pl d2 (.slice (some ⟨pb, k2, none⟩) (N - 1) (pc - 1)) (.slice (some ⟨gv, ov, none⟩) l.length cv)) := (hrow2.put 2 (.slice (some ⟨gv, ov, none⟩) l.length cv)).put 1 (.slice (some ⟨pb, k2, none⟩) (N - 1) (pc - 1))
        rw [show N - 1 = ns'.length by have := HN'.out; omega] at hrw hcw ⊢
        have hVV := HV.out
        have hws := Hwsz.out
        have hob' := Hoblt.out
        have hs2 := hc2.size
        obtain ⟨E1, E2, E3⟩ := He.out
        refine PAt.step (t := 0) (Grow.refl V w) (fun a ha => ha) (Chg.refl _ _) (by omega) Hh1.out (by simpa using E1) (by simpa using E2) (by simpa using E3) (Grow.refl V w1) (fun a ha => ha) (fun a ha => ?_) ((hc2.mono (fun a x _ e => e.elim (fun e => .inr (.inl e)) (fun e => .inr (.inr e.1)))).comp hcw (fun _ _ _ e => e) (fun a x _ (e : a = d) => .inl e)) ⟨_, hcw.keep hv (fun (e : ob = d) => hobd e)⟩ hobpb hrw hk2 ⟨_, _, _, _, _, hLS2.keep hcw (fun a x (e : a = d) => by have := H1.out.dd2; have := H1.out.db; have := H1.out.dlb; exact ⟨by omega, by omega, by omega⟩)⟩ ?_
        · obtain ⟨v1, v2, v3⟩ := hVV a ha
          exact ⟨hcw.lt (by omega), v2, v3, by omega⟩
        · refine (hbv0.keep hcw (fun a x (e : a = d) (e2 : a = b) => H1.out.db (e.symm.trans e2))).mono (fun a x _ (e : a = b) => by rw [e]; exact HVb.out)
      have Hend := Lib.hid hend
      clear hend hrow2 hLS2 hc2 hout hbv0 hvc He Hh1
      by_cases hpc : pc = 1
      · have hpt : (pc = 1) = True := eq_true hpc
        have Hpc := Lib.hid hpc
        clear hpc
        go_wp2_with fail
        go_meet
        exact ⟨rfl, rfl, 1, hm1, by first | rfl | (congr 1; omega), Hend.out k (fun hh => by have := HN'.out; have := Hpc.out; have := List.length_pos_iff.2 hh; omega) _ rfl⟩
      · go_wp2_with fail
        go_meet
        exact ⟨rfl, rfl, 1, hm1, by first | rfl | (congr 1; omega), Hend.out (k + 1) (fun _ => rfl) _ rfl⟩
  case rest =>
    obtain ⟨rfl, rfl, t0, ht0, rfl, hP0⟩ := hcut
    have HP0 := Lib.hid hP0
    clear hP0 q0 q1 q2 f1 f2 hz hg Hzc Hzf
    go_wp2_with fail
    go_loopw [4, 5, 6] (fun v4 v5 v6 wr => v4 = .int .i64 0 ∧ v5 = .nilIface ∧ ∃ t : Nat, t ≤ m ∧ v6 = .int .i64 ((m - t : Nat) : Int) ∧ PAt V w w1 d d2 b lb pb ob ns rs ls t wr) (fun _ _ v6 _ => (intOf v6).toNat)
    case atStart => exact ⟨rfl, rfl, t0, ht0, rfl, HP0.out⟩
    case round =>
      obtain ⟨rfl, rfl, t, htm, rfl, hP⟩ := hrel
      clear HP0
      obtain ⟨V', last', lastV', k', pc', po', R', C', lo', lc', hG, hVV, hVl, hch, hu0, hps, hba⟩ := hP
      by_cases hlt : t < m
      · obtain ⟨n', ns', r, rs', l, ls', e1, e2, e3, hn, hl, -⟩ := hps.prefs.head (by
          intro e
          have := congrArg List.length e
          rw [List.length_drop] at this
          simp at this
          omega)
        rw [e1, e2, e3] at hps
        have hn2' : n' ≤ 1000000 := Nat.le_trans hn hps.lsm
        have hsl := hps.small l List.mem_cons_self
        have hll : l.length = n' + r.length := by rw [hl, List.length_append, List.length_take]; omega
        obtain ⟨g, o, c, rfl, hc1, hc2, hcells⟩ := hba
        have q0 := hps.row.at 0 rfl
        have q1 := hps.row.at 1 rfl
        have q2 := hps.row.at 2 rfl
        have f1 := hps.row.fr 1
        have p1 := hps.pre 0 n' rfl
        rw [Nat.add_zero] at p1
        obtain ⟨N, hN⟩ : ∃ N, N = (n' :: ns').length := ⟨_, rfl⟩
        rw [← hN] at q1
        have hNl : N = ns'.length + 1 := hN
        have hllc : N ≤ pc' := by rw [hN]; exact hps.llc
        have i0 : (0 : Int) < ((m - t : Nat) : Int) := by omega
        have i1 : ¬ (N : Int) = 0 := by omega
        have i2 : ((N : Int) == 0) = false := beq_eq_false_iff_ne.2 i1
        have i3 : (0 : Int) < N := by omega
        have i4 : (1 : Int) ≤ N := by omega
        have i5 : 0 < N := by omega
        have i6 : 1 ≤ N := by omega
        have i7 : 1 ≤ pc' := by omega
        have Hps := Lib.hid hps
        have HN := Lib.hid hN
        have HNl := Lib.hid hNl
        have Hll := Lib.hid hll
        have Hl := Lib.hid hl
        have Hch := Lib.hid hch
        have Hcells := Lib.hid hcells
        have Hu0 := Lib.hid hu0
        have He := Lib.hid (And.intro e1 (And.intro e2 e3))
        have HG := Lib.hid (And.intro hG (And.intro hVV hVl))
        clear hps hN hNl hll hl hch hcells hu0 e1 e2 e3 hG hVV hVl
        go_upto_region 19 with fail
        go_cut [10] (fun v10 wx => v10 = .int .i32 n' ∧ ∃ k2 : Nat, (ns' ≠ [] → k2 = k' + 1) ∧ wx = (wr.setCell ⟨d, 1, none⟩ (.slice (some ⟨pb, k2, none⟩) (N - 1) (pc' - 1))).drew)
        case first =>
          by_cases hpc : pc' = 1
          · have hpt : (pc' = 1) = True := eq_true hpc
            have Hpc := Lib.hid hpc
            clear hpc
            (refine wp_region_txt [] (by kernel_rfl) (by kernel_rfl) ?_; repeat (first | (refine wpTxt_pure rfl rfl (fun K hK => ?_); go_simp; refine hK _ ?_; clear hK K) | (refine wpTxt_still rfl rfl (fun K hK => ?_); go_simp; refine hK _ ?_; clear hK K)))
            (refine wpTxt_effect rfl rfl (fun K hK => ?_); go_simp; refine hK _ _ ?_; clear hK K)
            refine wpTxt_nil ?_
            go_wp2_with fail
            go_meet
            exact ⟨rfl, k', fun hh => by have := HNl.out; have := Hpc.out; have := List.length_pos_iff.2 hh; omega, rfl⟩
          · (refine wp_region_txt [] (by kernel_rfl) (by kernel_rfl) ?_; repeat (first | (refine wpTxt_pure rfl rfl (fun K hK => ?_); go_simp; refine hK _ ?_; clear hK K) | (refine wpTxt_still rfl rfl (fun K hK => ?_); go_simp; refine hK _ ?_; clear hK K)))
            (refine wpTxt_effect rfl rfl (fun K hK => ?_); go_simp; refine hK _ _ ?_; clear hK K)
            refine wpTxt_nil ?_
            go_wp2_with fail
            go_meet
            exact ⟨rfl, k' + 1, fun _ => rfl, rfl⟩
        case rest =>
          obtain ⟨rfl, k2, hk2, hwx⟩ := hcut
          have hps := Hps.out
          have hdd2 := hps.dd2
          have hdb := hps.db
          have hdlb := hps.dlb
          have hcA : Chg (Own d) wr wc := by rw [hwx]; exact ((Chg.refl _ _).own 1 _).drew
          have hrA : Row wc d (pl d2 (.slice (some ⟨pb, k2, none⟩) (N - 1) (pc' - 1)) (.slice (some ⟨g, o, none⟩) last'.length c)) := by rw [hwx]; exact (hps.row.put 1 (.slice (some ⟨pb, k2, none⟩) (N - 1) (pc' - 1))).drew
          have hLA := hps.st.keep hcA (fun a x (e : a = d) => ⟨by omega, by omega, by omega⟩)
          have hcelA : ∀ j, j < 1 → ∃ u, wc.cell? ⟨ob, 0 + j, none⟩ = some u := fun j hj => by
            obtain rfl : j = 0 := by omega
            obtain ⟨u, hu⟩ := Hu0.out
            exact ⟨u, hcA.keep hu (fun (e : ob = d) => hobd e)⟩
          have hobr : ob < wr.heap.size := Nat.lt_of_lt_of_le hob1 Hch.out.size
          have hfrA : ∀ j, wc.frozen? ⟨ob, j, none⟩ = false := fun j => (hcA.frozen _ _ hobr).trans ((Hch.out.frozen _ _ hob1).trans (Hfr.out j))
          have hcnt2 := hps.cnt
          have hll2 := hps.prefs.len
          have Hcall := Lib.hid (lenDecode_ok wc d2 b lb (r :: rs') po' R' C' lo' lc' ob 0 1 1 1 hLA (by simp) (Nat.le_refl _) (by omega) (by omega) hobd2 hobb hoblb hcelA hfrA)
          have a0 := hrA.at 0 rfl
          have a2 := hrA.at 2 rfl
          have hdA := hcA.lt hps.dlt
          have HcA := Lib.hid hcA
          have HrA := Lib.hid hrA
          have Hk2 := Lib.hid hk2
          have j0 : ¬ (n' : Int) < 0 := by omega
          have j1 : (0 : Int) ≤ n' := by omega
          have j2 : (n' : Int).toNat = n' := by omega
          have j3 : ¬ (last'.length : Int) < n' := by omega
          have j4 : n' ≤ c := by omega
          have j5 : (n' : Int) ≤ c := by omega
          have j6 : IntKind.i64.wrap (n' : Int) = n' := IntWalk.i64_in _ (by omega)
          clear hps hcA hrA hLA hcelA hfrA hk2 hwx q0 q1 q2 f1 p1
          go_wp2_with fail
          refine Hcall.out.mono ?_
          rintro e1 w2 ⟨rfl, hc2, ⟨po2, R2, C2, lo2, hLS2⟩, hout⟩
          obtain ⟨r', v, hr', hv, hbv⟩ := hout 0 (by omega)
          obtain rfl : r = r' := by simpa using hr'
          obtain ⟨gv, ov, cv, rfl, hv1, hv2, hvc⟩ := hbv
          rw [Nat.zero_add] at hv
          have hr2 := HrA.out.keep hdA hc2 (by rintro x (e | ⟨e, -⟩); exact hdd2 e; exact hobd e.symm)
          have b0 := hr2.at 0 rfl
          have b2 := hr2.at 2 rfl
          have b2f := hr2.fr 2
          have hd2A := hc2.lt hdA
          have Hr2 := Lib.hid hr2
          have HLS2 := Lib.hid hLS2
          have Hc2 := Lib.hid hc2
          have Hvc := Lib.hid hvc
          clear hr2 hLS2 hc2 hvc hout Hcall a0 a2
          have hnext : ∀ (V2 : Nat → Prop) (v : Value) (w3 : World), Grow V' wr V2 → (∀ a, V' a → V2 a) → (∀ a, V2 a → a < w3.heap.size ∧ a ≠ d ∧ a ≠ d2 ∧ a ≠ ob) → Chg (Own d) w2 w3 → Row w3 d (pl d2 (.slice (some ⟨pb, k2, none⟩) (N - 1) (pc' - 1)) v) → BA (fun g _ => V2 g) w3 v l → PAt V w w1 d d2 b lb pb ob ns rs ls (t + 1) w3 := by
            intro V2 v w3 hG2 hVV2 hVl2 hc3 hr3 hb3
            obtain ⟨hG, hVV, hVl⟩ := HG.out
            obtain ⟨E1, E2, E3⟩ := He.out
            have hws := Hwsz.out
            have hs1 := Hch.out.size
            rw [show N - 1 = ns'.length by have := HNl.out; omega] at hr3
            refine PAt.step hG hVV Hch.out (by omega) Hps.out E1 E2 E3 hG2 hVV2 hVl2 (((HcA.out.comp Hc2.out (T := fun a _ => a = d ∨ a = d2 ∨ a = ob) (fun a x _ (e : a = d) => .inl e) (fun a x _ e => e.elim (fun e => .inr (.inl e)) (fun e => .inr (.inr e.1))))).comp hc3 (fun _ _ _ e => e) (fun a x _ (e : a = d) => .inl e)) ⟨_, hc3.keep hv (fun (e : ob = d) => hobd e)⟩ hobpb hr3 Hk2.out ⟨_, _, _, _, _, HLS2.out.keep hc3 (fun a x (e : a = d) => ⟨by omega, by omega, by omega⟩)⟩ hb3
          have Hnext := Lib.hid hnext
          clear hnext
          have hkeep : V' g → ∀ (x : Nat) (u : Value) {w3 : World}, Chg (Own d) w2 w3 → wr.cell? ⟨g, x, none⟩ = some u → w3.cell? ⟨g, x, none⟩ = some u := by
            intro hg' x u w3 hc3 hx
            obtain ⟨v1, v2, v3, v4⟩ := HG.out.2.2 g hg'
            exact hc3.keep (Hc2.out.keep (HcA.out.keep hx (fun (e : g = d) => v2 e)) (by rintro (e | ⟨e, -⟩); exact v3 e; exact v4 e)) (fun (e : g = d) => v2 e)
          have i0' : RowKit.wrap64 (((m - t : Nat) : Int) - 1) = ((m - (t + 1) : Nat) : Int) := by unfold RowKit.wrap64; omega
          have i0'' : ((m - t : Nat) : Int) - 1 = ((m - (t + 1) : Nat) : Int) := by omega
          have Hi0 := Lib.hid i0''
          clear i0' i0''
          by_cases hr : r = []
          · have hr0 : ((r.length : Int) == 0) = true := by rw [hr]; rfl
            have hll0 : l.length = n' := by rw [Hll.out, hr]; rfl
            have hl0 : l = last'.take n' := by rw [Hl.out, hr, List.append_nil]
            have Hl0 := Lib.hid hl0
            clear hr hl0 hll0
            go_wp2_with fail
            go_roundw
            case rel =>
              refine ⟨rfl, rfl, t + 1, hlt, by first | rw [Hi0.out] | rfl, ?_⟩
              obtain ⟨hG, hVV, hVl⟩ := HG.out
              have hs1 := HcA.out.size
              have hs2 := Hc2.out.size
              refine Hnext.out V' (.slice (some ⟨g, o, none⟩) n' n') _ (Grow.refl _ _) (fun a ha => ha) (fun a ha => ?_) ((Chg.refl _ _).own 2 _) (Hr2.out.put 2 (.slice (some ⟨g, o, none⟩) n' n')) ?_
              · obtain ⟨v1, v2, v3, v4⟩ := hVl a ha
                exact ⟨by simp; omega, v2, v3, v4⟩
              · rw [Hl0.out]
                exact BA.take hn (fun j x hx => ⟨(Hcells.out j x hx).1, hkeep (Hcells.out j x hx).1 _ _ (((Chg.refl _ _).own 2 _)) (Hcells.out j x hx).2⟩) (by omega)
            case measure => simp [intOf]; omega
          · have hr0 : ((r.length : Int) == 0) = false := beq_eq_false_iff_ne.2 (by have := List.length_pos_iff.2 hr; omega)
            have hr1 : 0 < r.length := List.length_pos_iff.2 hr
            clear hr
            obtain ⟨Lg, hLg⟩ : ∃ Lg, Lg = n' + r.length := ⟨_, rfl⟩
            have hLgl : Lg ≤ 1000000 := by have := Hll.out; omega
            obtain ⟨Y, hY⟩ : ∃ Y, Y = Obj.cells (madeCells #[.int .u8 0] Lg) 5 := ⟨_, rfl⟩
            have hsumI : (n' : Int) + r.length = Lg := by omega
            have hmk : ∀ W : World, (Instr.makeSlice 31 (.int .i64 ((n' : Int) + r.length)) (.int .i64 ((n' : Int) + r.length))).run Tryz.prog W = .ok (.slice (some ⟨W.heap.size, 0, none⟩) Lg Lg) (W.alloc Y) := by
              rw [hY, hsumI]; exact make_bytes Lg hLgl
            have HLg := Lib.hid hLg
            have HY := Lib.hid hY
            have HsumI := Lib.hid hsumI
            clear hLg hY hsumI
            go_upto_region 29 with fail
            obtain ⟨mb, hmb⟩ : ∃ mb, mb = w2.heap.size := ⟨_, rfl⟩
            rw [← hmb]
            have hmade : ∀ j, j < Lg → ((w2.setCell ⟨d, 2, none⟩ (.slice (some ⟨mb, 0, none⟩) Lg Lg)).alloc Y).cell? ⟨mb, j, none⟩ = some (.int .u8 0) := by
              intro j hj
              have := made_cell (w2.setCell ⟨d, 2, none⟩ (.slice (some ⟨mb, 0, none⟩) Lg Lg)) (.int .u8 0) Lg j 5 hj
              rw [World.size_setCell, ← hmb, ← HY.out] at this
              exact this
            have hmf : ∀ j, ((w2.setCell ⟨d, 2, none⟩ (.slice (some ⟨mb, 0, none⟩) Lg Lg)).alloc Y).frozen? ⟨mb, j, none⟩ = false := fun j => by rw [HY.out]; exact fresh_frozenL (by rw [World.size_setCell]; exact hmb) j
            have hc4 : Chg (Own d) w2 ((w2.setCell ⟨d, 2, none⟩ (.slice (some ⟨mb, 0, none⟩) Lg Lg)).alloc Y) := ((Chg.refl (Own d) w2).own 2 _).alloc _
            have hr4 : Row ((w2.setCell ⟨d, 2, none⟩ (.slice (some ⟨mb, 0, none⟩) Lg Lg)).alloc Y) d (pl d2 (.slice (some ⟨pb, k2, none⟩) (N - 1) (pc' - 1)) (.slice (some ⟨mb, 0, none⟩) Lg Lg)) := by
              have hp : Row (w2.setCell ⟨d, 2, none⟩ (.slice (some ⟨mb, 0, none⟩) Lg Lg)) d (pl d2 (.slice (some ⟨pb, k2, none⟩) (N - 1) (pc' - 1)) (.slice (some ⟨mb, 0, none⟩) Lg Lg)) := Hr2.out.put 2 (.slice (some ⟨mb, 0, none⟩) Lg Lg)
              exact hp.keep (by simpa using hd2A) (Chg.new _ _) (fun _ e => e)
            have hsz4 : mb < ((w2.setCell ⟨d, 2, none⟩ (.slice (some ⟨mb, 0, none⟩) Lg Lg)).alloc Y).heap.size := by simp; omega
            generalize ((w2.setCell ⟨d, 2, none⟩ (.slice (some ⟨mb, 0, none⟩) Lg Lg)).alloc Y) = w4 at hmade hmf hc4 hr4 hsz4 ⊢
            have hmbd : mb ≠ d := by omega
            have hmbob : mb ≠ ob := by have : ob < w2.heap.size := World.block_lt_of_cell? _ _ hv; omega
            have hmbg : mb ≠ gv := by
              have : gv < w2.heap.size := World.block_lt_of_cell? _ _ (Hvc.out 0 (r[0]'(by omega)) (List.getElem?_eq_getElem (by omega))).2
              omega
            have c2 := hr4.at 2 rfl
            have cv4 := hc4.keep hv (fun (e : ob = d) => hobd e)
            have hsrc : ∀ j, j < n' → w4.cell? ⟨g, o + j, none⟩ = some (.int .u8 ((last'.getD j 0 : Nat) : Int)) := by
              intro j hj
              have hx : last'[j]? = some (last'.getD j 0) := by rw [List.getD_eq_getElem?_getD, List.getElem?_eq_getElem (by omega)]; rfl
              obtain ⟨h1, h2⟩ := Hcells.out j _ hx
              exact hkeep h1 _ _ hc4 h2
            have hminA : Nat.min n' Lg = n' := Nat.min_eq_left (by have := HLg.out; omega)
            have Hmade := Lib.hid hmade
            have Hmf := Lib.hid hmf
            have Hc4 := Lib.hid hc4
            have Hr4 := Lib.hid hr4
            have Hsrc := Lib.hid hsrc
            have HminA := Lib.hid hminA
            have Hmb := Lib.hid hmb
            clear hmade hmf hc4 hr4 hsrc hminA hmk hmb b0 b2 b2f hv
            go_wp2_with (with_reducible refine wpList_copy_chg rfl (.tmp 164) (.tmp 165) 51 51 rfl 5 Tryz.underlying51 (by kernel_rfl) _ _ _ _ _ _ rfl rfl n' HminA.out mb 0 g o (fun j => .int .u8 ((last'.getD j 0 : Nat) : Int)) ?c1 ?c2 ?c3 ?c4 ?c5 ?_)
            case c2 => exact Hsrc.out
            case c3 => exact fun j hj => ⟨_, by rw [Nat.zero_add]; exact Hmade.out j (by have := HLg.out; omega)⟩
            case c4 => exact fun j hj => Hmf.out _
            case c5 => exact fun _ _ => rfl
            intro w5 hc5 hv5
            have e2 := hc5.keep c2 (by rintro ⟨e, -⟩; exact hmbd e.symm)
            have ev := hc5.keep cv4 (by rintro ⟨e, -⟩; exact hmbob e.symm)
            have k0 : n' ≤ Lg := by have := HLg.out; omega
            have k1 : ¬ Lg = n' := by have := HLg.out; omega
            have k3 : (n' : Int) ≤ Lg := by omega
            have hrb : Nat.min r.length (Lg - n') = r.length := by rw [show Lg - n' = r.length by have := HLg.out; omega]; exact Nat.min_self _
            have Hrb := Lib.hid hrb
            have Hc5 := Lib.hid hc5
            have Hv5 := Lib.hid hv5
            clear hc5 hv5 hrb c2 cv4
            go_wp2_with fail
            (refine wp_region_txt [] (by kernel_rfl) (by kernel_rfl) ?_; repeat (first | (refine wpTxt_pure rfl rfl (fun K hK => ?_); go_simp; refine hK _ ?_; clear hK K) | (refine wpTxt_still rfl rfl (fun K hK => ?_); go_simp; refine hK _ ?_; clear hK K)))
            refine wpTxt_copy_chg rfl (.tmp 172) (.tmp 175) 51 51 rfl 5 Tryz.underlying51 (by kernel_rfl) _ _ _ _ _ _ rfl rfl r.length Hrb.out mb n' gv ov (fun j => .int .u8 ((r.getD j 0 : Nat) : Int)) ?d1 ?d2 ?d3 ?d4 (fun _ _ => rfl) ?_
            case d1 => exact fun _ => ⟨rfl, rfl⟩
            case d2 =>
              intro j hj
              have hx : r[j]? = some (r.getD j 0) := by rw [List.getD_eq_getElem?_getD, List.getElem?_eq_getElem hj]; rfl
              obtain ⟨h1, h2⟩ := Hvc.out j _ hx
              exact Hc5.out.keep (Hc4.out.keep h2 (fun (e : gv = d) => hdb (e.symm.trans h1))) (by rintro ⟨e, -⟩; exact hmbg e.symm)
            case d3 =>
              intro j hj
              exact ⟨_, Hc5.out.keep (Hmade.out (n' + j) (by have := HLg.out; omega)) (by rintro ⟨-, hh⟩; omega)⟩
            case d4 =>
              intro j hj
              exact (Hc5.out.frozen _ _ hsz4).trans (Hmf.out _)
            intro w6 hc6 hv6
            refine wpTxt_nil ?_
            have hfin : PAt V w w1 d d2 b lb pb ob ns rs ls (t + 1) w6 := by
              obtain ⟨hG, hVV, hVl⟩ := HG.out
              have hmb' := Hmb.out
              have hsA := HcA.out.size
              have hs2 := Hc2.out.size
              have hs5 := Hc5.out.size
              have hs6 : w5.heap.size ≤ w6.heap.size := hc6.size
              have hd2l := Hps.out.st.dlt
              have hsw := Hch.out.size
              have hLg' := HLg.out
              have hll' := Hll.out
              have hc26 : Chg (Own d) w2 w6 := (Hc4.out.comp Hc5.out (fun _ _ _ e => e) (fun a x ha e => by have := e.1; omega)).comp hc6.undrew (fun _ _ _ e => e) (fun a x ha e => by have := e.1; omega)
              have hr6 := (Hr4.out.keep (by omega) Hc5.out (fun x e => hmbd e.1.symm)).keep (by omega) hc6.undrew (fun x e => hmbd e.1.symm)
              refine Hnext.out (fun a => V' a ∨ a = mb) _ w6 (fun a ha => ha.imp id (fun e => by omega)) (fun a ha => .inl ha) (fun a ha => ?_) hc26 hr6 ?_
              · rcases ha with ha | rfl
                · obtain ⟨v1, v2, v3, v4⟩ := hVl a ha
                  exact ⟨by omega, v2, v3, v4⟩
                · exact ⟨by omega, hmbd, by omega, hmbob⟩
              · refine ⟨mb, 0, Lg, by rw [hll', ← hLg'], by omega, by omega, fun j x hx => ⟨.inr rfl, ?_⟩⟩
                rw [Nat.zero_add]
                have hj : j < l.length := (List.getElem?_eq_some_iff.1 hx).1
                rw [Hl.out] at hx
                by_cases hjn : j < n'
                · rw [List.getElem?_append_left (by rw [List.length_take]; omega), List.getElem?_take_of_lt hjn] at hx
                  have h5 : w5.cell? ⟨mb, j, none⟩ = some (.int .u8 (((last'[j]?).getD 0 : Nat) : Int)) := by simpa using Hv5.out j hjn
                  rw [hx] at h5
                  exact hc6.keep (show w5.drew.cell? ⟨mb, j, none⟩ = some (.int .u8 (x : Int)) from h5) (by rintro ⟨-, hh⟩; omega)
                · rw [List.getElem?_append_right (by rw [List.length_take]; omega), List.length_take, Nat.min_eq_left hn] at hx
                  have h6 : w6.cell? ⟨mb, n' + (j - n'), none⟩ = some (.int .u8 (((r[j - n']?).getD 0 : Nat) : Int)) := by simpa using hv6 (j - n') (by omega)
                  rw [show n' + (j - n') = j by omega, hx] at h6
                  exact h6
            have Hfin := Lib.hid hfin
            clear hfin hc6 hv6 e2 ev
            go_wp2_with fail
            go_roundw
            case rel => exact ⟨rfl, rfl, t + 1, hlt, by first | rw [Hi0.out] | rfl, Hfin.out⟩
            case measure => simp [intOf]; omega
      · have hke : t = m := by omega
        subst hke
        have i0 : ¬ (0 : Int) < ((t - t : Nat) : Int) := by omega
        have hfin : Chg (fun a _ => a = d ∨ a = d2) w wr ∧ ∃ V2 last2 lastV2 k2 pc2 po2 R2 C2 lo2 lc2, Grow V w V2 ∧ (∀ a, V a → V2 a) ∧ (∀ a, V2 a → a < wr.heap.size ∧ a ≠ d ∧ a ≠ d2) ∧ PS (fun g _ => V2 g) wr d d2 b lb pb last2 lastV2 (ns.drop t) (rs.drop t) (ls.drop t) k2 pc2 po2 R2 C2 lo2 lc2 := by
          have hob' := Hoblt.out
          refine ⟨(Hc1.out.comp hch (T := fun a _ => a = d ∨ a = d2) (fun a x ha e => by rcases e with e | e | e; exact .inl e; exact .inr e; omega) (fun a x ha e => by rcases e with e | e | e; exact .inl e; exact .inr e; omega)), V', last', lastV', k', pc', po', R', C', lo', lc', hG, hVV, fun a ha => ⟨(hVl a ha).1, (hVl a ha).2.1, (hVl a ha).2.2.1⟩, hps⟩
        have Hfin := Lib.hid hfin
        clear hfin hps hch hu0 hba hG hVV hVl
        go_wp2_with fail
        go_ret2
        obtain ⟨f1, V2, x1, x2, x3, x4, x5, x6, x7, x8, x9, f2, f3, f4, f5⟩ := Hfin.out
        exact ⟨rfl, f1, V2, f2, f3, f4, x1, x2, x3, x4, x5, x6, x7, x8, x9, f5⟩
end Go.Proofs.YtaageikelkcphaaGreatDoor
