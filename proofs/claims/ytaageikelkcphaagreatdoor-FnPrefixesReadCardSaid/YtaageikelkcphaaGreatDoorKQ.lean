/- Part 17 of the proof: the texts LQ, joined. What each proves stands ahead of it. -/
import Derived.Test.YtaageikelkcphaaGreatDoorKP
set_option linter.unusedVariables false
set_option linter.unusedSimpArgs false
/- The decoder of prefixes: a batch (Decode): where its loop stands. -/
namespace Go.Proofs.YtaageikelkcphaaGreatDoor
open Go Go.RowKit
/-- What is settled behind off bytes of the arena. -/
def Kt (V : Nat → Prop) (ab off : Nat) : Nat → Nat → Prop := fun g x => V g ∨ (g = ab ∧ x < off)
/-- Behind t values of a batch of m. -/
structure PK (V : Nat → Prop) (w2 wr : World) (d d2 b pb ob ab A : Nat) (last : List Nat) (ns : List Nat) (rs ls : List (List Nat)) (k pc m t off : Nat) (last' : List Nat) (lastV' : Value) (k' : Nat) : Prop where
  chg : Chg (fun a x => a = d ∨ (a = ob ∧ x < m) ∨ a = ab) w2 wr
  row : Row wr d (pl d2 (.slice (some ⟨pb, k', none⟩) ((ns.length - t : Nat) : Nat) (pc - t)) lastV')
  dlt : d < wr.heap.size
  kk : t < ns.length → k' = k + t
  tm : t ≤ m
  hoff : off = asz (rs.take t) (ls.take t)
  lst : (last :: ls)[t]? = some last'
  lv : BA (Kt V ab off) wr lastV' last'
  outs : ∀ j, j < t → ∃ v l, ls[j]? = some l ∧ wr.cell? ⟨ob, j, none⟩ = some v ∧ BA (Kt V ab off) wr v l
  rest : ∀ j, t ≤ j → j < m → ∃ v r, rs[j]? = some r ∧ wr.cell? ⟨ob, j, none⟩ = some v ∧ BA (fun g _ => g = b) wr v r
  acel : ∀ j, j < A → ∃ u, wr.cell? ⟨ab, j, none⟩ = some u
theorem PK.next {V : Nat → Prop} {w2 wr wr' : World} {d d2 b pb ob ab A : Nat} {last : List Nat} {ns : List Nat} {rs ls : List (List Nat)} {k pc m t off off' : Nat} {last' l : List Nat} {lastV' v : Value} {k' k'' : Nat}
    (h : PK V w2 wr d d2 b pb ob ab A last ns rs ls k pc m t off last' lastV' k') (hV : ∀ a, V a → a ≠ d ∧ a ≠ ob ∧ a ≠ ab) (hd : d ≠ ob) (hda : d ≠ ab) (hoa : ob ≠ ab) (hbd : b ≠ d) (hbo : b ≠ ob) (hba : b ≠ ab) (htm : t < m)
    (hc : Chg (fun a x => a = d ∨ (a = ob ∧ x = t) ∨ (a = ab ∧ off ≤ x)) wr wr') (hrow : Row wr' d (pl d2 (.slice (some ⟨pb, k'', none⟩) ((ns.length - (t + 1) : Nat) : Nat) (pc - (t + 1))) v))
    (hk : t + 1 < ns.length → k'' = k + (t + 1)) (hob : wr'.cell? ⟨ob, t, none⟩ = some v) (hl : ls[t]? = some l) (hoff : off' = asz (rs.take (t + 1)) (ls.take (t + 1))) (hoo : off ≤ off') (hbv : BA (Kt V ab off') wr' v l)
    (hac : ∀ j, j < A → ∃ u, wr'.cell? ⟨ab, j, none⟩ = some u) : PK V w2 wr' d d2 b pb ob ab A last ns rs ls k pc m (t + 1) off' l v k'' := by
  refine ⟨h.chg.comp hc (fun _ _ _ e => e) (fun a x _ e => by rcases e with e | ⟨e, e2⟩ | ⟨e, -⟩; exact .inl e; exact .inr (.inl ⟨e, by omega⟩); exact .inr (.inr e)), hrow, hc.lt h.dlt, hk, htm, hoff, by simpa using hl, hbv, fun j hj => ?_, fun j hj hjm => ?_, hac⟩
  · by_cases hjt : j = t
    · subst hjt
      exact ⟨v, l, hl, hob, hbv⟩
    · obtain ⟨v0, l0, h1, h2, h3⟩ := h.outs j (by omega)
      refine ⟨v0, l0, h1, hc.keep h2 (by rintro (e | ⟨-, e⟩ | ⟨e, -⟩); exact hd e.symm; exact hjt e; exact hoa e), ?_⟩
      refine (h3.keep hc (fun a x e hK => ?_)).mono (fun a x _ hK => hK.imp id (fun e => ⟨e.1, by omega⟩))
      rcases e with e | ⟨e, -⟩ | ⟨e, e2⟩
      · rcases hK with hK | ⟨hK, -⟩
        · exact (hV a hK).1 e
        · exact hda (e.symm.trans hK)
      · rcases hK with hK | ⟨hK, -⟩
        · exact (hV a hK).2.1 e
        · exact hoa (e.symm.trans hK)
      · rcases hK with hK | ⟨-, hK⟩
        · exact (hV a hK).2.2 e
        · omega
  · obtain ⟨v0, r0, h1, h2, h3⟩ := h.rest j (by omega) hjm
    refine ⟨v0, r0, h1, hc.keep h2 (by rintro (e | ⟨-, e⟩ | ⟨e, -⟩); exact hd e.symm; omega; exact hoa e), h3.keep hc (fun a x e hK => ?_)⟩
    rcases e with e | ⟨e, -⟩ | ⟨e, -⟩
    · exact hbd (hK.symm.trans e)
    · exact hbo (hK.symm.trans e)
    · exact hba (hK.symm.trans e)
theorem asz_drop : ∀ (m : Nat) (rs ls : List (List Nat)), asz (rs.drop m) (ls.drop m) ≤ asz rs ls
  | 0, rs, ls => Nat.le_refl _
  | m + 1, [], ls => by simp [asz]
  | m + 1, r :: rs, [] => by
    simp only [List.drop_nil]
    cases List.drop (m + 1) (r :: rs) <;> simp [asz]
  | m + 1, r :: rs, l :: ls => by
    have := asz_drop m rs ls
    simp only [List.drop_succ_cons, asz]
    omega
/-- A slice's length. -/
def slLen : Value → Nat
  | .slice _ n _ => n
  | _ => 0
/-- What a batch of m values leaves. -/
def DecEnd (V : Nat → Prop) (w : World) (d d2 b lb pb ob m : Nat) (ns : List Nat) (rs ls : List (List Nat)) (w' : World) : Prop :=
  Chg (fun a x => a = d ∨ a = d2 ∨ (a = ob ∧ x < m)) w w' ∧
    ∃ V' last' lastV' k' pc' po' R' C' lo' lc', Grow V w V' ∧ (∀ a, V a → V' a) ∧ (∀ a, V' a → a < w'.heap.size ∧ a ≠ d ∧ a ≠ d2 ∧ a ≠ ob) ∧ PS (fun g _ => V' g) w' d d2 b lb pb last' lastV' (ns.drop m) (rs.drop m) (ls.drop m) k' pc' po' R' C' lo' lc' ∧
      ∀ j, j < m → ∃ v l, ls[j]? = some l ∧ w'.cell? ⟨ob, j, none⟩ = some v ∧ BA (fun g _ => V' g) w' v l
set_option maxRecDepth 100000 in
set_option maxHeartbeats 20000000 in
theorem prefDecode_ok (V : Nat → Prop) (w : World) (d d2 b lb pb : Nat) (last : List Nat) (lastV : Value) (ns : List Nat) (rs ls : List (List Nat)) (k pc po R C lo lc ob len m : Nat) (h : PS (fun g _ => V g) w d d2 b lb pb last lastV ns rs ls k pc po R C lo lc) (hV : ∀ a, V a → a < w.heap.size ∧ a ≠ d ∧ a ≠ d2 ∧ a ≠ ob) (hVb : V b) (hm : m = min len ls.length) (hm1 : 1 ≤ m) (hn2 : len ≤ 5000) (hA : asz rs ls ≤ 1000000)
    (hobd : ob ≠ d) (hobd2 : ob ≠ d2) (hobb : ob ≠ b) (hoblb : ob ≠ lb) (hobpb : pb ≠ ob) (hobl : ob < w.heap.size) (hcel : ∀ j, j < len → w.cell? ⟨ob, j, none⟩ = some (.slice none 0 0)) (hfr : ∀ j, w.frozen? ⟨ob, j, none⟩ = false) :
    Calls Tryz.prog 18 #[.pointer (some ⟨d, 0, none⟩), .slice (some ⟨ob, 0, none⟩) len len] w fun e w' => e = .returned (.tuple #[.int .i64 m, .nilIface]) ∧ DecEnd V w d d2 b lb pb ob m ns rs ls w' := by
  have q0 := h.row.at 0 rfl
  have q2 := h.row.at 2 rfl
  have q3 := h.st.row.at 0 rfl
  obtain ⟨l1, l2⟩ := h.prefs.len
  have hcnt := h.cnt
  have hmi : min (len : Int) rs.length = m := by omega
  have hml : m ≤ ls.length := by omega
  have hmle : m ≤ len := by omega
  have hdl := h.dlt
  have hd2l := h.st.dlt
  have hbl : b < w.heap.size := (hV b hVb).1
  have hlbl : lb < w.heap.size := by
    obtain ⟨r, hr⟩ : ∃ r, rs[0]? = some r := ⟨_, List.getElem?_eq_getElem (by omega)⟩
    exact World.block_lt_of_cell? _ _ (h.st.lens 0 r hr)
  have hpbl : pb < w.heap.size := by
    obtain ⟨r, hr⟩ : ∃ r, ns[0]? = some r := ⟨_, List.getElem?_eq_getElem (by omega)⟩
    exact World.block_lt_of_cell? _ _ (h.pre 0 r hr)
  obtain ⟨pz, lz, cz, rfl, hlz⟩ : ∃ pz lz cz, lastV = .slice pz lz cz ∧ lz = last.length := by
    rcases h.lv with ⟨e, e2⟩ | ⟨g, o, c, e, -⟩
    · exact ⟨_, _, _, e, by rw [e2]; rfl⟩
    · exact ⟨_, _, _, e, rfl⟩
  obtain ⟨z, hz, hg, hzc, hzf⟩ : ∃ z : Bool, (∀ W, (binOp .eql 51 (.slice pz lz cz) (.slice none 0 0)).run Tryz.prog W = .ok (.bool z) W) ∧ (∀ W x y, (eqGuard .eql 51 x y (.slice pz lz cz) (.slice none 0 0)).run Tryz.prog W = .ok () W) ∧ (z = true → last = []) ∧ (z = false → BA (fun g _ => V g) w (.slice pz lz cz) last) := by
    rcases h.lv with ⟨e, e2⟩ | hb
    · injection e with e1 e2' e3
      subst e1; subst e2'; subst e3
      exact ⟨true, ba_nil0, (fun W x y => by kernel_rfl), (fun _ => e2), (fun hh => by cases hh)⟩
    · have hb' := hb
      obtain ⟨g, o, c, e, -⟩ := hb
      injection e with e1 e2' e3
      subst e1
      exact ⟨false, (fun W => ba_nil _ _ _ W), (fun W x y => by kernel_rfl), (fun hh => by cases hh), (fun _ => hb')⟩
  have hAm := asz_mono rs ls m
  have Harena := Lib.hid (arena_ok _ w d d2 b lb pb last _ ns rs ls k pc po R C lo lc m h hm1 hml)
  obtain ⟨A, hAe⟩ : ∃ A, A = asz (rs.take m) (ls.take m) := ⟨_, rfl⟩
  rw [← hAe] at Harena hAm
  obtain ⟨Y, hY⟩ : ∃ Y, Y = Obj.cells (madeCells #[.int .u8 0] A) 5 := ⟨_, rfl⟩
  have hmk : ∀ W : World, (Instr.makeSlice 31 (.int .i64 (A : Int)) (.int .i64 (A : Int))).run Tryz.prog W = .ok (.slice (some ⟨W.heap.size, 0, none⟩) A A) (W.alloc Y) := by
    rw [hY]; exact make_bytes A (by omega)
  obtain ⟨ab, hab⟩ : ∃ ab, ab = w.heap.size := ⟨_, rfl⟩
  have hmade : ∀ j, j < A → (w.alloc Y).cell? ⟨ab, j, none⟩ = some (.int .u8 0) := fun j hj => by rw [hY, hab]; exact made_cell w _ A j _ hj
  have hmf : ∀ j, (w.alloc Y).frozen? ⟨ab, j, none⟩ = false := fun j => by rw [hY, hab]; exact fresh_frozenL rfl j
  have h1 : PS (fun g _ => V g) (w.alloc Y) d d2 b lb pb last (.slice pz lz cz) ns rs ls k pc po R C lo lc := h.keep (Chg.new w Y) (fun _ _ hh => hh.elim)
  have hcall := lenDecode_ok (w.alloc Y) d2 b lb rs po R C lo lc ob 0 m len m h1.st (by omega) hmle (by omega) (by omega) hobd2 hobb hoblb (fun j hj => ⟨_, by rw [Nat.zero_add]; exact cell_alloc Y (hcel j (by omega))⟩) (fun j => frozen_alloc Y hobl (hfr j))
  have Hcall := Lib.hid hcall
  have i1 : ¬ (m : Int) = 0 := by omega
  have i2 : ((m : Int) == 0) = false := beq_eq_false_iff_ne.2 i1
  have i3 : (0 : Int) ≤ m := by omega
  have i4 : (m : Int).toNat = m := by omega
  have i5 : (m : Int) ≤ len := by omega
  have Hmi := Lib.hid hmi
  have Hm := Lib.hid hm
  have Hl1 := Lib.hid l1
  have Hl2 := Lib.hid l2
  have H := Lib.hid h
  have H1 := Lib.hid h1
  have HV := Lib.hid hV
  have Hab := Lib.hid hab
  have HAe := Lib.hid hAe
  have Hmade := Lib.hid hmade
  have Hmf := Lib.hid hmf
  have Hzc := Lib.hid hzc
  have Hzf := Lib.hid hzf
  have Hlz := Lib.hid hlz
  have Hcel := Lib.hid hcel
  have Hfr := Lib.hid hfr
  clear h h1 hV hmi hm l1 l2 hab hAe hmade hmf hzc hzf hlz hcel hfr hcall hY
  go_enter Tryz.func18, Tryz.ntmps18
  go_wp2_with fail
  refine (min_ok _ _ _).mono ?_
  rintro e1 w0 ⟨rfl, rfl⟩
  rw [Hmi.out]
  go_wp2_with fail
  refine Harena.out.mono ?_
  rintro e1 w00 ⟨rfl, rfl⟩
  dsimp only
  go_upto_region 10 with fail
  rw [← Hab.out]
  obtain ⟨w1, hw1⟩ : ∃ w1, w1 = w00.alloc Y := ⟨_, rfl⟩
  rw [← hw1] at H1 Hmade Hmf Hcall ⊢
  have hc1 : Chg Nix w00 w1 := by rw [hw1]; exact Chg.new _ _
  have hs1 : w1.heap.size = ab + 1 := by rw [hw1, Hab.out]; simp
  have hab' : ab = w00.heap.size := Hab.out
  have habd : ab ≠ d := by omega
  have habd2 : ab ≠ d2 := by omega
  have habb : ab ≠ b := by omega
  have hablb : ab ≠ lb := by omega
  have habpb : ab ≠ pb := by omega
  have habob : ab ≠ ob := by omega
  have hobl1 : ob < w1.heap.size := by omega
  have habl1 : ab < w1.heap.size := by omega
  have hVab : ∀ a, V a → a ≠ ab := fun a ha => by have := (HV.out a ha).1; omega
  have Hc1 := Lib.hid hc1
  have Hs1 := Lib.hid hs1
  have HVab := Lib.hid hVab
  clear hw1 hc1 hs1 hab' hVab q0 q2 q3 hmk
  have q0 := H1.out.row.at 0 rfl
  go_wp2_with fail
  refine Hcall.out.mono ?_
  rintro e1 w2 ⟨rfl, hc2, ⟨po2, R2, C2, lo2, hLS2⟩, hout⟩
  have hr2 := H1.out.row.keep H1.out.dlt hc2 (by rintro x (e | ⟨e, -⟩); exact H1.out.dd2 e; exact hobd e.symm)
  have b0 := hr2.at 0 rfl
  have b1 := hr2.at 1 rfl
  have b2 := hr2.at 2 rfl
  have hdl2 := hc2.lt H1.out.dlt
  have hmade2 : ∀ j, j < A → w2.cell? ⟨ab, j, none⟩ = some (.int .u8 0) := fun j hj => hc2.keep (Hmade.out j hj) (by rintro (e | ⟨e, -⟩); exact habd2 e; exact habob e)
  have hmf2 : ∀ j, w2.frozen? ⟨ab, j, none⟩ = false := fun j => (hc2.frozen _ _ habl1).trans (Hmf.out j)
  have hob2 : ∀ j, w2.frozen? ⟨ob, j, none⟩ = false := fun j => (hc2.frozen _ _ hobl1).trans ((Hc1.out.frozen _ _ hobl).trans (Hfr.out j))
  have hpre2 : ∀ (t n : Nat), ns[t]? = some n → w2.cell? ⟨pb, k + t, none⟩ = some (.int .i32 (n : Int)) := fun t n hn => hc2.keep (H1.out.pre t n hn) (by rintro (e | ⟨e, -⟩); exact H1.out.d2pb e.symm; exact hobpb e)
  have hout2 : ∀ j, j < m → ∃ v r, rs[j]? = some r ∧ w2.cell? ⟨ob, j, none⟩ = some v ∧ BA (fun g _ => g = b) w2 v r := fun j hj => by
    obtain ⟨r, v, h1, h2, h3⟩ := hout j hj
    exact ⟨v, r, h1, by rwa [Nat.zero_add] at h2, h3⟩
  have hVk : ∀ a, V a → ∀ x, ¬ (a = d2 ∨ (a = ob ∧ 0 ≤ x ∧ x < 0 + m)) := fun a ha x hh => by
    obtain ⟨v1, v2, v3, v4⟩ := HV.out a ha
    rcases hh with e | ⟨e, -⟩
    · exact v3 e
    · exact v4 e
  have Hr2 := Lib.hid hr2
  have Hc2 := Lib.hid hc2
  have Hmade2 := Lib.hid hmade2
  have Hmf2 := Lib.hid hmf2
  have Hob2 := Lib.hid hob2
  have Hpre2 := Lib.hid hpre2
  have Hout2 := Lib.hid hout2
  have HLS2 := Lib.hid hLS2
  have HVk := Lib.hid hVk
  clear hr2 hc2 hmade2 hmf2 hob2 hpre2 hout2 hout hLS2 hVk q0 Hmade Hmf
  go_upto_if 65 with fail
  go_cut [1, 4, 5, 10] (fun v1 v4 v5 v10 wx => v4 = .int .i64 0 ∧ v5 = .nilIface ∧ ∃ (t off : Nat) (last' : List Nat) (lastV' : Value) (k' o' : Nat), v1 = .slice (some ⟨ob, o', none⟩) (m - t) (len - t) ∧ (t < m → o' = t) ∧ v10 = .int .i64 off ∧ PK V w2 wx d d2 b pb ob ab A last ns rs ls k pc m t off last' lastV' k')
  case first =>
    cases z with
    | false =>
      go_wp2_with fail
      go_meet
      refine ⟨rfl, rfl, 0, 0, last, _, k, 0, rfl, fun _ => rfl, rfl, Chg.refl _ _, Hr2.out, hdl2, fun _ => rfl, Nat.zero_le _, by simp [asz], rfl, (((Hzf.out (by trivial)).keep Hc1.out (fun _ _ e => e.elim)).keep Hc2.out (fun a x e ha => HVk.out a ha x e)).mono (fun a x _ ha => .inl ha), fun j hj => by omega, fun j _ hjm => Hout2.out j hjm, fun j hj => ⟨_, Hmade2.out j hj⟩⟩
    | true =>
      obtain ⟨n', r, l, p, g1, g2, g3, g4, g5, g6⟩ := H1.out.prefs.get 0 (by omega)
      have hl0 := Hzc.out (by trivial)
      have g4' : last = p := Option.some.inj g4
      rw [← g4', hl0] at g5 g6
      have hn0 : n' = 0 := Nat.le_zero.1 g5
      subst hn0
      have hlr : l = r := g6
      subst hlr
      clear g4 g4' g5 g6
      have p1 := Hpre2.out 0 0 g1
      rw [Nat.add_zero] at p1
      obtain ⟨v, r', e1, e2, hbv⟩ := Hout2.out 0 (by omega)
      obtain rfl : l = r' := Option.some.inj (g2.symm.trans e1)
      obtain ⟨gv, ov, cv, rfl, hv1, hv2, hvc⟩ := hbv
      have hsl := H1.out.small l (List.mem_of_getElem? g3)
      obtain ⟨rl, hrl⟩ : ∃ rl, rl = l.length := ⟨_, rfl⟩
      rw [← hrl] at hsl e2 hv1
      have hasz : asz (rs.take 1) (ls.take 1) = rl := by
        rw [asz_take rs ls 0 l l g2 g3]
        simp only [List.take_zero, asz, Nat.zero_add]
        split
        · rename_i e; rw [hrl, e]; rfl
        · exact hrl.symm
      have hrA : rl ≤ A := by
        have := asz_mono (rs.take m) (ls.take m) 1
        rw [List.take_take, List.take_take, Nat.min_eq_left (by omega), hasz, ← HAe.out] at this
        exact this
      obtain ⟨N, hN⟩ : ∃ N, N = ns.length := ⟨_, rfl⟩
      rw [← hN] at b1
      have hllc := H1.out.llc
      have hNn : N ≤ pc := by rw [hN]; exact hllc
      have hN1 : 1 ≤ N := by have := Hl1.out; omega
      have f1 := Hr2.out.fr 1
      have f2 := Hr2.out.fr 2
      have fo := Hob2.out 0
      have x1 : (1 : Int) ≤ N := by omega
      have x2 : 0 < N := by omega
      have x3 : 1 ≤ pc := by omega
      have x4 : 0 < m := by omega
      have x5 : 1 ≤ len := by omega
      have x6 : (1 : Int) ≤ m := by omega
      have y1 : (0 : Int) ≤ rl := by omega
      have y2 : (rl : Int).toNat = rl := by omega
      have y3 : (rl : Int) ≤ A := by omega
      have hlO : ob < w2.heap.size := World.block_lt_of_cell? _ _ e2
      have hlA : ab < w2.heap.size := Nat.lt_of_lt_of_le habl1 Hc2.out.size
      have hgab : rl ≠ 0 → gv ≠ ab := fun h0 => by
        have h1 : gv = b := (hvc 0 (l[0]'(by omega)) (List.getElem?_eq_getElem (by omega))).1
        omega
      have hvcd : ∀ (j x : Nat), l[j]? = some x → gv = b := fun j x hx => (hvc j x hx).1
      have Hrl := Lib.hid hrl
      have Hasz := Lib.hid hasz
      have HN := Lib.hid hN
      have Hg2 := Lib.hid g2
      have Hg3 := Lib.hid g3
      have Hvc := Lib.hid hvc
      have Hgab := Lib.hid hgab
      have Hmin := Lib.hid (Nat.min_self rl)
      clear hrl hasz hN g1 g2 g3 hvc hvcd hgab e1 hllc hl0
      go_wp2_with (with_reducible refine wpList_copy_chg rfl (.tmp 79) (.tmp 82) 31 51 rfl 5 Tryz.underlying31 (by kernel_rfl) _ _ _ _ _ _ rfl rfl rl Hmin.out ab 0 gv ov (fun j => .int .u8 ((l.getD j 0 : Nat) : Int)) ?m1 ?m2 ?m3 ?m4 ?m5 ?_)
      case m2 =>
        intro j hj
        have hx : l[j]? = some (l.getD j 0) := by rw [List.getD_eq_getElem?_getD, List.getElem?_eq_getElem (by have := Hrl.out; omega)]; rfl
        exact (Hvc.out j _ hx).2
      case m3 => exact fun j hj => ⟨_, by first | exact Hmade2.out j (by omega) | (rw [Nat.zero_add]; exact Hmade2.out j (by omega))⟩
      case m4 => exact fun j hj => Hmf2.out _
      case m5 => exact fun _ _ => rfl
      intro w5 hc5 hv5
      have e5 := hc5.keep e2 (by rintro ⟨e, -⟩; exact habob e.symm)
      have d1 := hc5.keep b1 (by rintro ⟨e, -⟩; exact habd e.symm)
      have d2c := hc5.keep b2 (by rintro ⟨e, -⟩; exact habd e.symm)
      have f15 := (hc5.frozen _ _ hdl2).trans f1
      have f25 := (hc5.frozen _ _ hdl2).trans f2
      have fo5 := (hc5.frozen _ _ hlO).trans fo
      have hfin : ∀ k2 : Nat, (1 < ns.length → k2 = k + 1) → ∀ w', w' = ((w5.setCell ⟨ob, 0, none⟩ (.slice (some ⟨ab, 0, none⟩) rl rl)).setCell ⟨d, 2, none⟩ (.slice (some ⟨ab, 0, none⟩) rl rl)).setCell ⟨d, 1, none⟩ (.slice (some ⟨pb, k2, none⟩) (N - 1) (pc - 1)) →
          PK V w2 w' d d2 b pb ob ab A last ns rs ls k pc m 1 rl l (.slice (some ⟨ab, 0, none⟩) rl rl) k2 := by
        rintro k2 hk2 w' rfl
        have hcz : Chg (fun a x => (a = ob ∧ x = 0) ∨ a = d) w5 (((w5.setCell ⟨ob, 0, none⟩ (.slice (some ⟨ab, 0, none⟩) rl rl)).setCell ⟨d, 2, none⟩ (.slice (some ⟨ab, 0, none⟩) rl rl)).setCell ⟨d, 1, none⟩ (.slice (some ⟨pb, k2, none⟩) (N - 1) (pc - 1))) :=
          (((Chg.refl _ _).setCell ob 0 (fun _ => .inl ⟨rfl, rfl⟩) _).setCell d 2 (fun _ => .inr rfl) _).setCell d 1 (fun _ => .inr rfl) _
        have hcA : Chg (fun a x => a = d ∨ (a = ob ∧ x = 0) ∨ a = ab) w2 (((w5.setCell ⟨ob, 0, none⟩ (.slice (some ⟨ab, 0, none⟩) rl rl)).setCell ⟨d, 2, none⟩ (.slice (some ⟨ab, 0, none⟩) rl rl)).setCell ⟨d, 1, none⟩ (.slice (some ⟨pb, k2, none⟩) (N - 1) (pc - 1))) :=
          hc5.comp hcz (fun a x _ e => .inr (.inr e.1)) (fun a x _ e => e.elim (fun e => .inr (.inl e)) .inl)
        have hr5 := Hr2.out.keep hdl2 hc5 (fun x e => habd e.1.symm)
        have hd5 := hc5.lt hdl2
        have hrB : Row (((w5.setCell ⟨ob, 0, none⟩ (.slice (some ⟨ab, 0, none⟩) rl rl)).setCell ⟨d, 2, none⟩ (.slice (some ⟨ab, 0, none⟩) rl rl)).setCell ⟨d, 1, none⟩ (.slice (some ⟨pb, k2, none⟩) (N - 1) (pc - 1))) d (pl d2 (.slice (some ⟨pb, k2, none⟩) (N - 1) (pc - 1)) (.slice (some ⟨ab, 0, none⟩) rl rl)) :=
          ((hr5.keep hd5 ((Chg.refl (fun a x => a = ob) _).setCell ob 0 (fun _ => rfl) _) (fun x e => hobd e.symm)).put 2 (.slice (some ⟨ab, 0, none⟩) rl rl)).put 1 (.slice (some ⟨pb, k2, none⟩) (N - 1) (pc - 1))
        have hrl' := Hrl.out
        have hN' := HN.out
        have hcab : ∀ (x : Nat) (u : Value), w5.cell? ⟨ab, x, none⟩ = some u → (((w5.setCell ⟨ob, 0, none⟩ (.slice (some ⟨ab, 0, none⟩) rl rl)).setCell ⟨d, 2, none⟩ (.slice (some ⟨ab, 0, none⟩) rl rl)).setCell ⟨d, 1, none⟩ (.slice (some ⟨pb, k2, none⟩) (N - 1) (pc - 1))).cell? ⟨ab, x, none⟩ = some u := fun x u hu => hcz.keep hu (by rintro (⟨e, -⟩ | e); exact habob e; exact habd e)
        have hba : BA (Kt V ab rl) (((w5.setCell ⟨ob, 0, none⟩ (.slice (some ⟨ab, 0, none⟩) rl rl)).setCell ⟨d, 2, none⟩ (.slice (some ⟨ab, 0, none⟩) rl rl)).setCell ⟨d, 1, none⟩ (.slice (some ⟨pb, k2, none⟩) (N - 1) (pc - 1))) (.slice (some ⟨ab, 0, none⟩) rl rl) l := by
          refine ⟨ab, 0, rl, by rw [hrl'], by omega, by omega, fun j x hx => ?_⟩
          have hj : j < l.length := (List.getElem?_eq_some_iff.1 hx).1
          refine ⟨.inr ⟨rfl, by omega⟩, hcab _ _ ?_⟩
          have h5 : w5.cell? ⟨ab, 0 + j, none⟩ = some (.int .u8 (((l[j]?).getD 0 : Nat) : Int)) := by simpa using hv5 j (by omega)
          rw [hx] at h5
          exact h5
        refine ⟨hcA.mono (fun a x _ e => by rcases e with e | ⟨e, e2⟩ | e; exact .inl e; exact .inr (.inl ⟨e, by omega⟩); exact .inr (.inr e)), by rw [← hN']; exact hrB, hcz.lt hd5, hk2, hm1, Hasz.out.symm, by simpa using Hg3.out, hba, fun j hj => ?_, fun j hj hjm => ?_, fun j hj => ?_⟩
        · obtain rfl : j = 0 := by omega
          exact ⟨_, l, Hg3.out, cell_ne _ (cell_ne _ (World.cell?_setCell_same _ _ _ e5) (by rintro ⟨e, -⟩; exact hobd e)) (by rintro ⟨e, -⟩; exact hobd e), hba⟩
        · obtain ⟨v0, r0, h1, h2, h3⟩ := Hout2.out j hjm
          exact ⟨v0, r0, h1, hcA.keep h2 (by rintro (e | ⟨-, e⟩ | e); exact hobd e; omega; exact habob e.symm), h3.keep hcA (fun a x e (e2 : a = b) => by
            rcases e with e | ⟨e, -⟩ | e
            · have := H1.out.db; omega
            · omega
            · omega)⟩
        · by_cases hjr : j < rl
          · have h5 : w5.cell? ⟨ab, j, none⟩ = some (.int .u8 (((l[j]?).getD 0 : Nat) : Int)) := by simpa using hv5 j hjr
            exact ⟨_, hcab _ _ h5⟩
          · exact ⟨_, hcab _ _ (hc5.keep (Hmade2.out j hj) (by rintro ⟨-, hh⟩; omega))⟩
      have Hfin := Lib.hid hfin
      clear hfin hc5 hv5 f1 f2 fo b0 b1 b2 e2 p1
      by_cases hpc : pc = 1
      · have hpt : (pc = 1) = True := eq_true hpc
        have Hpc := Lib.hid hpc
        clear hpc
        by_cases hz2 : len = 1
        · have hzt : (len = 1) = True := eq_true hz2
          have Hz2 := Lib.hid hz2
          clear hz2
          go_wp2_with fail
          go_meet
          exact ⟨rfl, rfl, 1, rl, l, _, k, 0, rfl, fun hh => by have := Hz2.out; omega, rfl, Hfin.out k (fun hh => by have := HN.out; have := Hpc.out; omega) _ rfl⟩
        · go_wp2_with fail
          go_meet
          exact ⟨rfl, rfl, 1, rl, l, _, k, 1, rfl, fun hh => rfl, rfl, Hfin.out k (fun hh => by have := HN.out; have := Hpc.out; omega) _ rfl⟩
      · by_cases hz2 : len = 1
        · have hzt : (len = 1) = True := eq_true hz2
          have Hz2 := Lib.hid hz2
          clear hz2
          go_wp2_with fail
          go_meet
          exact ⟨rfl, rfl, 1, rl, l, _, k + 1, 0, rfl, fun hh => by have := Hz2.out; omega, rfl, Hfin.out (k + 1) (fun hh => rfl) _ rfl⟩
        · go_wp2_with fail
          go_meet
          exact ⟨rfl, rfl, 1, rl, l, _, k + 1, 1, rfl, fun hh => rfl, rfl, Hfin.out (k + 1) (fun hh => rfl) _ rfl⟩
  case rest =>
    obtain ⟨rfl, rfl, t0, off0, last0, lastV0, k0, o0, rfl, ho0, rfl, hP0⟩ := hcut
    have HP0 := Lib.hid hP0
    have Ho0 := Lib.hid ho0
    clear hP0 ho0 b0 b1 b2 hz hg Hzc Hzf
    go_wp2_with fail
    go_loopw [1, 4, 5, 10] (fun v1 v4 v5 v10 wr => v4 = .int .i64 0 ∧ v5 = .nilIface ∧ ∃ (t off : Nat) (last' : List Nat) (lastV' : Value) (k' o' : Nat), v1 = .slice (some ⟨ob, o', none⟩) (m - t) (len - t) ∧ (t < m → o' = t) ∧ v10 = .int .i64 off ∧ PK V w2 wr d d2 b pb ob ab A last ns rs ls k pc m t off last' lastV' k') (fun v1 _ _ _ _ => slLen v1)
    case atStart => exact ⟨rfl, rfl, t0, off0, last0, lastV0, k0, o0, rfl, Ho0.out, rfl, HP0.out⟩
    case round =>
      obtain ⟨rfl, rfl, t, off, last', lastV', k', o', rfl, ho', rfl, hP⟩ := hrel
      clear HP0 Ho0
      by_cases hlt : t < m
      · obtain rfl := ho' hlt
        obtain ⟨n', r, l, p, g1, g2, g3, g4, g5, g6⟩ := H1.out.prefs.get o' (by omega)
        obtain rfl : last' = p := Option.some.inj (hP.lst.symm.trans g4)
        have hat := asz_take rs ls o' r l g2 g3
        rw [← hP.hoff] at hat
        have hatm : asz (rs.take (o' + 1)) (ls.take (o' + 1)) ≤ A := by
          rw [HAe.out]
          have := asz_mono (rs.take m) (ls.take m) (o' + 1)
          rwa [List.take_take, List.take_take, Nat.min_eq_left (by omega)] at this
        obtain ⟨v, r', e1, e2, hbv⟩ := hP.rest o' (Nat.le_refl _) hlt
        obtain rfl : r = r' := Option.some.inj (g2.symm.trans e1)
        have hsl := H1.out.small l (List.mem_of_getElem? g3)
        have hll : l.length = n' + r.length := by rw [g6, List.length_append, List.length_take]; omega
        obtain ⟨g, o, c, rfl, hc1, hcc2, hcells⟩ := hP.lv
        obtain ⟨gv, ov, cv, rfl, hv1, hv2, hvc⟩ := hbv
        have hnn : o' < ns.length := by have := Hl1.out; omega
        obtain rfl := hP.kk hnn
        have p1 := hP.chg.keep (Hpre2.out o' n' g1) (by rintro (e | ⟨e, -⟩ | e); exact H1.out.dpb e.symm; exact hobpb e; exact habpb e.symm)
        have q0 := hP.row.at 0 rfl
        have q1 := hP.row.at 1 rfl
        have q2 := hP.row.at 2 rfl
        have f1 := hP.row.fr 1
        obtain ⟨N, hN⟩ : ∃ N, N = ns.length - o' := ⟨_, rfl⟩
        obtain ⟨P1, hP1⟩ : ∃ P1, P1 = pc - o' := ⟨_, rfl⟩
        rw [← hN, ← hP1] at q1
        obtain ⟨Q, hQ⟩ : ∃ Q, Q = m - o' := ⟨_, rfl⟩
        obtain ⟨Z, hZ⟩ : ∃ Z, Z = len - o' := ⟨_, rfl⟩
        rw [← hQ, ← hZ]
        have hllc := H1.out.llc
        have i0 : (0 : Int) < Q := by omega
        have i1 : ¬ (N : Int) = 0 := by omega
        have i2 : ((N : Int) == 0) = false := beq_eq_false_iff_ne.2 i1
        have i3 : 0 < N := by omega
        have i4 : 1 ≤ N := by omega
        have i5 : (1 : Int) ≤ N := by omega
        have i6 : 1 ≤ P1 := by omega
        have i7 : (0 : Int) < N := by omega
        have i8 : 0 < Q := by omega
        have i9 : 1 ≤ Q := by omega
        have i10 : 1 ≤ Z := by omega
        have i11 : (1 : Int) ≤ Q := by omega
        have j1 : (0 : Int) ≤ n' := by omega
        have j2 : (n' : Int).toNat = n' := by omega
        have j4 : n' ≤ c := by omega
        have j5 : (n' : Int) ≤ c := by omega
        have j6 : IntKind.i64.wrap (n' : Int) = n' := IntWalk.i64_in _ (by omega)
        have HP := Lib.hid hP
        have HN := Lib.hid hN
        have HP1 := Lib.hid hP1
        have HQ := Lib.hid hQ
        have HZ := Lib.hid hZ
        have Hll := Lib.hid hll
        have Hg3 := Lib.hid g3
        have Hg6 := Lib.hid g6
        have Hat := Lib.hid hat
        have Hatm := Lib.hid hatm
        have Hcells := Lib.hid hcells
        have Hvc := Lib.hid hvc
        clear hP hN hP1 hQ hZ hll g1 g2 g3 g4 g6 hat hatm hcells hvc ho' e1
        go_upto_region 28 with fail
        go_cut [14] (fun v14 wx => v14 = .int .i32 n' ∧ ∃ k2 : Nat, (o' + 1 < ns.length → k2 = k + (o' + 1)) ∧ wx = wr.setCell ⟨d, 1, none⟩ (.slice (some ⟨pb, k2, none⟩) (N - 1) (P1 - 1)))
        case first =>
          by_cases hpc : P1 = 1
          · have hpt : (P1 = 1) = True := eq_true hpc
            have Hpc := Lib.hid hpc
            clear hpc
            go_wp2_with fail
            go_meet
            exact ⟨rfl, _, fun hh => by have := HP1.out; have := Hpc.out; omega, rfl⟩
          · go_wp2_with fail
            go_meet
            exact ⟨rfl, _, fun hh => by omega, rfl⟩
        case rest =>
          obtain ⟨rfl, k2, hk2, hwx⟩ := hcut
          have hP := HP.out
          have hcA : Chg (Own d) wr wc := by rw [hwx]; exact (Chg.refl _ _).own 1 _
          have hrA : Row wc d (pl d2 (.slice (some ⟨pb, k2, none⟩) (N - 1) (P1 - 1)) (.slice (some ⟨g, o, none⟩) last'.length c)) := by
            rw [hwx, HN.out, HP1.out]
            exact hP.row.put 1 (.slice (some ⟨pb, k2, none⟩) (ns.length - o' - 1) (pc - o' - 1))
          have a2 := hrA.at 2 rfl
          have a2f := hrA.fr 2
          have eA := hcA.keep e2 (fun (e : ob = d) => hobd e)
          have hobr : ob < wr.heap.size := World.block_lt_of_cell? _ _ e2
          have hw2 := hP.chg.size
          have hob2l : ob < w2.heap.size := Nat.lt_of_lt_of_le hobl1 Hc2.out.size
          have hfA : ∀ j, wc.frozen? ⟨ob, j, none⟩ = false := fun j => (hcA.frozen _ _ hobr).trans ((hP.chg.frozen _ _ hob2l).trans (Hob2.out j))
          have fA := hfA o'
          have hdA := hcA.lt hP.dlt
          have hnext : ∀ (off' : Nat) (v : Value) (w' : World), Chg (fun a x => a = d ∨ (a = ob ∧ x = o') ∨ (a = ab ∧ off ≤ x)) wr w' → Row w' d (pl d2 (.slice (some ⟨pb, k2, none⟩) (N - 1) (P1 - 1)) v) → w'.cell? ⟨ob, o', none⟩ = some v → off' = asz (rs.take (o' + 1)) (ls.take (o' + 1)) → off ≤ off' → BA (Kt V ab off') w' v l → (∀ j, j < A → ∃ u, w'.cell? ⟨ab, j, none⟩ = some u) → PK V w2 w' d d2 b pb ob ab A last ns rs ls k pc m (o' + 1) off' l v k2 := by
            intro off' v w' hc hr ho1 ho2 ho3 hb hac
            rw [show N - 1 = ns.length - (o' + 1) by have := HN.out; omega, show P1 - 1 = pc - (o' + 1) by have := HP1.out; omega] at hr
            exact HP.out.next (fun a ha => ⟨(HV.out a ha).2.1, (HV.out a ha).2.2.2, HVab.out a ha⟩) hobd.symm habd.symm habob.symm (fun e => by have := H1.out.db; omega) (fun e => hobb e.symm) (fun e => habb e.symm) hlt hc hr hk2 ho1 Hg3.out ho2 ho3 hb hac
          have Hnext := Lib.hid hnext
          have HcA := Lib.hid hcA
          have HrA := Lib.hid hrA
          have HfA := Lib.hid hfA
          have h0l : ¬ (last'.length : Int) < n' := by omega
          clear hnext hcA hrA hfA hwx hk2 q0 q1 q2 f1 p1 e2 hP
          go_upto_if 139 with fail
          by_cases hr : r = []
          · have hr0 : ((r.length : Int) == 0) = true := by rw [hr]; rfl
            have hl0 : l = last'.take n' := by rw [Hg6.out, hr, List.append_nil]
            have hat0 : asz (rs.take (o' + 1)) (ls.take (o' + 1)) = off := by rw [Hat.out, if_pos hr]; rfl
            have hfin : ∀ w', w' = ((wc.setCell ⟨d, 2, none⟩ (.slice (some ⟨g, o, none⟩) n' n')).setCell ⟨ob, o', none⟩ (.slice (some ⟨g, o, none⟩) n' n')).drew → PK V w2 w' d d2 b pb ob ab A last ns rs ls k pc m (o' + 1) off l (.slice (some ⟨g, o, none⟩) n' n') k2 := by
              rintro w' rfl
              have hcB : Chg (fun a x => a = d ∨ (a = ob ∧ x = o') ∨ (a = ab ∧ off ≤ x)) wr ((wc.setCell ⟨d, 2, none⟩ (.slice (some ⟨g, o, none⟩) n' n')).setCell ⟨ob, o', none⟩ (.slice (some ⟨g, o, none⟩) n' n')).drew :=
                ((HcA.out.mono (fun a x _ (e : a = d) => .inl e)).setCell d 2 (fun _ => .inl rfl) _).setCell ob o' (fun _ => .inr (.inl ⟨rfl, rfl⟩)) _ |>.drew
              have hrB : Row ((wc.setCell ⟨d, 2, none⟩ (.slice (some ⟨g, o, none⟩) n' n')).setCell ⟨ob, o', none⟩ (.slice (some ⟨g, o, none⟩) n' n')).drew d (pl d2 (.slice (some ⟨pb, k2, none⟩) (N - 1) (P1 - 1)) (.slice (some ⟨g, o, none⟩) n' n')) := by
                have h1 : Row (wc.setCell ⟨d, 2, none⟩ (.slice (some ⟨g, o, none⟩) n' n')) d (pl d2 (.slice (some ⟨pb, k2, none⟩) (N - 1) (P1 - 1)) (.slice (some ⟨g, o, none⟩) n' n')) := HrA.out.put 2 (.slice (some ⟨g, o, none⟩) n' n')
                exact (h1.keep (by simpa using hdA) ((Chg.refl (fun a x => a = ob) _).setCell ob o' (fun _ => rfl) _) (fun x e => hobd e.symm)).drew
              refine Hnext.out off _ _ hcB hrB (World.cell?_setCell_same _ _ _ (cell_ne _ eA (by rintro ⟨e, -⟩; exact hobd e))) hat0.symm (Nat.le_refl _) ?_ (fun j hj => ?_)
              · rw [hl0]
                refine BA.take g5 (fun j x hx => ?_) (by omega)
                obtain ⟨h1, h2⟩ := Hcells.out j x hx
                refine ⟨h1, hcB.keep h2 ?_⟩
                rintro (e | ⟨e, -⟩ | ⟨e, e2⟩)
                · rcases h1 with h1 | ⟨h1, -⟩
                  · exact (HV.out g h1).2.1 e
                  · exact habd (h1.symm.trans e)
                · rcases h1 with h1 | ⟨h1, -⟩
                  · exact (HV.out g h1).2.2.2 e
                  · exact habob (h1.symm.trans e)
                · rcases h1 with h1 | ⟨-, h1⟩
                  · exact HVab.out g h1 e
                  · omega
              · obtain ⟨u, hu⟩ := HP.out.acel j hj
                by_cases hjo : off ≤ j
                · exact ⟨u, cell_ne _ (cell_ne _ (HcA.out.keep hu (fun (e : ab = d) => habd e)) (by rintro ⟨e, -⟩; exact habd e)) (by rintro ⟨e, -⟩; exact habob e)⟩
                · exact ⟨u, hcB.keep hu (by rintro (e | ⟨e, -⟩ | ⟨-, e⟩); exact habd e; exact habob e; omega)⟩
            have Hfin := Lib.hid hfin
            clear hfin hr hl0 hat0
            by_cases hz : Z = 1
            · have hzt : (Z = 1) = True := eq_true hz
              have Hz := Lib.hid hz
              clear hz
              go_wp2_with fail
              (refine wp_region_txt [] (by kernel_rfl) (by kernel_rfl) ?_; repeat (first | (refine wpTxt_pure rfl rfl (fun K hK => ?_); go_simp; refine hK _ ?_; clear hK K) | (refine wpTxt_still rfl rfl (fun K hK => ?_); go_simp; refine hK _ ?_; clear hK K)))
              (refine wpTxt_effect rfl rfl (fun K hK => ?_); go_simp; refine hK _ _ ?_; clear hK K)
              repeat (first | (refine wpTxt_pure rfl rfl (fun K hK => ?_); go_simp; refine hK _ ?_; clear hK K) | (refine wpTxt_still rfl rfl (fun K hK => ?_); go_simp; refine hK _ ?_; clear hK K))
              refine wpTxt_nil ?_
              go_wp2_with fail
              go_roundw
              case rel => exact ⟨rfl, rfl, o' + 1, off, l, _, k2, o', by rw [show Q - 1 = m - (o' + 1) by have := HQ.out; omega, show Z - 1 = len - (o' + 1) by have := HZ.out; omega], fun hh => by have := Hz.out; have := HZ.out; omega, rfl, Hfin.out _ rfl⟩
              case measure => simp [slLen]; omega
            · go_wp2_with fail
              (refine wp_region_txt [] (by kernel_rfl) (by kernel_rfl) ?_; repeat (first | (refine wpTxt_pure rfl rfl (fun K hK => ?_); go_simp; refine hK _ ?_; clear hK K) | (refine wpTxt_still rfl rfl (fun K hK => ?_); go_simp; refine hK _ ?_; clear hK K)))
              (refine wpTxt_effect rfl rfl (fun K hK => ?_); go_simp; refine hK _ _ ?_; clear hK K)
              repeat (first | (refine wpTxt_pure rfl rfl (fun K hK => ?_); go_simp; refine hK _ ?_; clear hK K) | (refine wpTxt_still rfl rfl (fun K hK => ?_); go_simp; refine hK _ ?_; clear hK K))
              refine wpTxt_nil ?_
              go_wp2_with fail
              go_roundw
              case rel => exact ⟨rfl, rfl, o' + 1, off, l, _, k2, o' + 1, by rw [show Q - 1 = m - (o' + 1) by have := HQ.out; omega, show Z - 1 = len - (o' + 1) by have := HZ.out; omega], fun _ => rfl, rfl, Hfin.out _ rfl⟩
              case measure => simp [slLen]; omega
          · have hr0 : ((r.length : Int) == 0) = false := beq_eq_false_iff_ne.2 (by have := List.length_pos_iff.2 hr; omega)
            have hr1 : 0 < r.length := List.length_pos_iff.2 hr
            have hat1 : asz (rs.take (o' + 1)) (ls.take (o' + 1)) = off + l.length := by rw [Hat.out, if_neg hr]
            clear hr
            obtain ⟨vl, hvl⟩ : ∃ vl, vl = l.length := ⟨_, rfl⟩
            rw [← hvl] at hat1 hsl
            have hsumI : (n' : Int) + r.length = vl := by have := Hll.out; omega
            have hoA : off + vl ≤ A := by rw [← hat1]; exact Hatm.out
            have k1 : (0 : Int) ≤ (off : Int) + vl := by omega
            have k2' : ((off : Int) + vl).toNat = off + vl := by omega
            have k3 : (off : Int) + vl ≤ A := by omega
            have k4 : off + vl ≤ A := by omega
            have k5 : off ≤ off + vl := by omega
            have k7 : (0 : Int) ≤ off := by omega
            have k8 : (off : Int).toNat = off := by omega
            have k9 : ¬ vl = 0 := by have := Hll.out; omega
            have HsumI := Lib.hid hsumI
            have Hvl := Lib.hid hvl
            have Hat1 := Lib.hid hat1
            clear hsumI hvl hat1 hoA
            go_upto_region 34 with fail
            rw [HsumI.out]
            go_cut [17] (fun v17 wx => v17 = .slice (some ⟨ab, off, none⟩) vl vl ∧ wx = wc)
            case first =>
              go_wp2_with fail
              go_meet
              exact ⟨rfl, rfl⟩
            case rest =>
              obtain ⟨rfl, rfl⟩ := hcut
              have hP := HP.out
              have hgk : ∀ (x : Nat) (u : Value), Kt V ab off g x → wr.cell? ⟨g, x, none⟩ = some u → wc.cell? ⟨g, x, none⟩ = some u := fun x u hk hu => HcA.out.keep hu (fun (e : g = d) => by
                rcases hk with hk | ⟨hk, -⟩
                · exact (HV.out g hk).2.1 e
                · exact habd (hk.symm.trans e))
              have hsrc : ∀ j, j < n' → wc.cell? ⟨g, o + j, none⟩ = some (.int .u8 ((last'.getD j 0 : Nat) : Int)) := by
                intro j hj
                have hx : last'[j]? = some (last'.getD j 0) := by rw [List.getD_eq_getElem?_getD, List.getElem?_eq_getElem (by omega)]; rfl
                obtain ⟨h1, h2⟩ := Hcells.out j _ hx
                exact hgk _ _ h1 h2
              have hac : ∀ j, j < A → ∃ u, wc.cell? ⟨ab, j, none⟩ = some u := fun j hj => by
                obtain ⟨u, hu⟩ := hP.acel j hj
                exact ⟨u, HcA.out.keep hu (fun (e : ab = d) => habd e)⟩
              have habl2 : ab < w2.heap.size := Nat.lt_of_lt_of_le habl1 Hc2.out.size
              have hwr := hP.chg.size
              have hwcs := HcA.out.size
              have hmfA : ∀ j, wc.frozen? ⟨ab, j, none⟩ = false := fun j => (HcA.out.frozen _ _ (by omega)).trans ((hP.chg.frozen _ _ habl2).trans (Hmf2.out j))
              have hvcA : ∀ (j x : Nat), r[j]? = some x → gv = b ∧ wc.cell? ⟨gv, ov + j, none⟩ = some (.int .u8 (x : Int)) := fun j x hx => ⟨(Hvc.out j x hx).1, HcA.out.keep (Hvc.out j x hx).2 (fun (e : gv = d) => by have := (Hvc.out j x hx).1; have := H1.out.db; omega)⟩
              have hminA : Nat.min n' vl = n' := Nat.min_eq_left (by have := Hvl.out; have := Hll.out; omega)
              have hnv : n' + r.length = vl := by have := Hvl.out; have := Hll.out; omega
              have habl : ab < wc.heap.size := by omega
              have hgab : gv ≠ ab := by
                have := (hvcA 0 (r[0]'(by omega)) (List.getElem?_eq_getElem (by omega))).1
                omega
              have Hsrc := Lib.hid hsrc
              have Hac := Lib.hid hac
              have HmfA := Lib.hid hmfA
              have HvcA := Lib.hid hvcA
              have HminA := Lib.hid hminA
              have Hnv := Lib.hid hnv
              clear hP hgk hsrc hac hmfA hvcA hminA hnv
              go_wp2_with (with_reducible refine wpList_copy_chg rfl (.tmp 165) (.tmp 166) 31 51 rfl 5 Tryz.underlying31 (by kernel_rfl) _ _ _ _ _ _ rfl rfl n' HminA.out ab off g o (fun j => .int .u8 ((last'.getD j 0 : Nat) : Int)) ?c1 ?c2 ?c3 ?c4 ?c5 ?_)
              case c2 => exact Hsrc.out
              case c3 => exact fun j hj => Hac.out _ (by have := Hnv.out; omega)
              case c4 => exact fun j hj => HmfA.out _
              case c5 => exact fun _ _ => rfl
              intro w5 hc5 hv5
              have ev := hc5.keep eA (by rintro ⟨e, -⟩; exact habob e.symm)
              have ev2 := hc5.keep a2 (by rintro ⟨e, -⟩; exact habd e.symm)
              have m0 : n' ≤ vl := by have := Hnv.out; omega
              have m1 : ¬ vl = n' := by have := Hnv.out; omega
              have m2 : (n' : Int) ≤ vl := by omega
              have hrb : Nat.min r.length (vl - n') = r.length := by rw [show vl - n' = r.length by have := Hnv.out; omega]; exact Nat.min_self _
              have hd5 := hc5.lt hdA
              have Hrb := Lib.hid hrb
              have Hc5 := Lib.hid hc5
              have Hv5 := Lib.hid hv5
              clear hc5 hv5 hrb a2 eA
              go_upto_region 36 with fail
              (refine wp_region_txt [] (by kernel_rfl) (by kernel_rfl) ?_; repeat (first | (refine wpTxt_pure rfl rfl (fun K hK => ?_); go_simp; refine hK _ ?_; clear hK K) | (refine wpTxt_still rfl rfl (fun K hK => ?_); go_simp; refine hK _ ?_; clear hK K)))
              refine wpTxt_copy_chg rfl (.tmp 171) (.tmp 174) 31 51 rfl 5 Tryz.underlying31 (by kernel_rfl) _ _ _ _ _ _ rfl rfl r.length Hrb.out ab (off + n') gv ov (fun j => .int .u8 ((r.getD j 0 : Nat) : Int)) ?d1 ?d2 ?d3 ?d4 (fun _ _ => rfl) ?_
              case d1 => exact fun _ => ⟨rfl, rfl⟩
              case d2 =>
                intro j hj
                have hx : r[j]? = some (r.getD j 0) := by rw [List.getD_eq_getElem?_getD, List.getElem?_eq_getElem hj]; rfl
                obtain ⟨h1, h2⟩ := HvcA.out j _ hx
                exact Hc5.out.keep h2 (by rintro ⟨e, -⟩; exact hgab e)
              case d3 =>
                intro j hj
                obtain ⟨u, hu⟩ := Hac.out (off + n' + j) (by have := Hnv.out; omega)
                exact ⟨u, Hc5.out.keep hu (by rintro ⟨-, hh⟩; omega)⟩
              case d4 =>
                intro j hj
                exact (Hc5.out.frozen _ _ habl).trans (HmfA.out _)
              intro w6 hc6 hv6
              refine wpTxt_nil ?_
              have ev6 := hc6.keep (show w5.drew.cell? ⟨ob, o', none⟩ = _ from ev) (by rintro ⟨e, -⟩; exact habob e.symm)
              have ed6 := hc6.keep (show w5.drew.cell? ⟨d, 2, none⟩ = _ from ev2) (by rintro ⟨e, -⟩; exact habd e.symm)
              have hobc : ob < wc.heap.size := World.block_lt_of_cell? _ _ (HcA.out.keep (HP.out.rest o' (Nat.le_refl _) hlt).choose_spec.choose_spec.2.1 (fun (e : ob = d) => hobd e))
              have fob6 : w6.frozen? ⟨ob, o', none⟩ = false := (hc6.undrew.frozen _ _ (Nat.lt_of_lt_of_le hobc Hc5.out.size)).trans ((Hc5.out.frozen _ _ hobc).trans fA)
              have fd6 : w6.frozen? ⟨d, 2, none⟩ = false := (hc6.undrew.frozen _ _ hd5).trans ((Hc5.out.frozen _ _ hdA).trans a2f)
              have hfin : ∀ w', w' = ((w6.setCell ⟨ob, o', none⟩ (.slice (some ⟨ab, off, none⟩) vl vl)).setCell ⟨d, 2, none⟩ (.slice (some ⟨ab, off, none⟩) vl vl)).drew → PK V w2 w' d d2 b pb ob ab A last ns rs ls k pc m (o' + 1) (off + vl) l (.slice (some ⟨ab, off, none⟩) vl vl) k2 := by
                rintro w' rfl
                have hc56 : Chg (fun a x => a = d ∨ (a = ob ∧ x = o') ∨ (a = ab ∧ off ≤ x)) wr w6 := ((HcA.out.mono (fun a x _ (e : a = d) => .inl e)).comp Hc5.out (T := fun a x => a = d ∨ (a = ob ∧ x = o') ∨ (a = ab ∧ off ≤ x)) (fun _ _ _ e => e) (fun a x _ e => .inr (.inr ⟨e.1, by have := e.2; omega⟩))).comp hc6.undrew (fun _ _ _ e => e) (fun a x _ e => .inr (.inr ⟨e.1, by have := e.2; omega⟩))
                have hcB : Chg (fun a x => a = d ∨ (a = ob ∧ x = o') ∨ (a = ab ∧ off ≤ x)) wr ((w6.setCell ⟨ob, o', none⟩ (.slice (some ⟨ab, off, none⟩) vl vl)).setCell ⟨d, 2, none⟩ (.slice (some ⟨ab, off, none⟩) vl vl)).drew :=
                  ((hc56.setCell ob o' (fun _ => .inr (.inl ⟨rfl, rfl⟩)) _).setCell d 2 (fun _ => .inl rfl) _).drew
                have hr5 := HrA.out.keep hdA Hc5.out (fun x e => habd e.1.symm)
                have hr6 := hr5.keep hd5 hc6.undrew (fun x e => habd e.1.symm)
                have hd6 := hc6.undrew.lt hd5
                have hrB : Row ((w6.setCell ⟨ob, o', none⟩ (.slice (some ⟨ab, off, none⟩) vl vl)).setCell ⟨d, 2, none⟩ (.slice (some ⟨ab, off, none⟩) vl vl)).drew d (pl d2 (.slice (some ⟨pb, k2, none⟩) (N - 1) (P1 - 1)) (.slice (some ⟨ab, off, none⟩) vl vl)) :=
                  Row.drew ((hr6.keep hd6 ((Chg.refl (fun a x => a = ob) _).setCell ob o' (fun _ => rfl) _) (fun x e => hobd e.symm)).put 2 (.slice (some ⟨ab, off, none⟩) vl vl))
                have hcz : Chg (fun a _ => a = ob ∨ a = d) w6 ((w6.setCell ⟨ob, o', none⟩ (.slice (some ⟨ab, off, none⟩) vl vl)).setCell ⟨d, 2, none⟩ (.slice (some ⟨ab, off, none⟩) vl vl)).drew := (((Chg.refl _ _).setCell ob o' (fun _ => .inl rfl) _).setCell d 2 (fun _ => .inr rfl) _).drew
                have hnv := Hnv.out
                have hvl' := Hvl.out
                have hcab : ∀ (x : Nat) (u : Value), w6.cell? ⟨ab, x, none⟩ = some u → ((w6.setCell ⟨ob, o', none⟩ (.slice (some ⟨ab, off, none⟩) vl vl)).setCell ⟨d, 2, none⟩ (.slice (some ⟨ab, off, none⟩) vl vl)).drew.cell? ⟨ab, x, none⟩ = some u := fun x u hu => hcz.keep hu (by rintro (e | e); exact habob e; exact habd e)
                refine Hnext.out (off + vl) _ _ hcB hrB (cell_ne _ (World.cell?_setCell_same _ _ _ ev6) (by rintro ⟨e, -⟩; exact hobd e)) Hat1.out.symm (by omega) ?_ (fun j hj => ?_)
                · refine ⟨ab, off, vl, by rw [hvl'], by omega, by omega, fun j x hx => ?_⟩
                  have hj : j < l.length := (List.getElem?_eq_some_iff.1 hx).1
                  refine ⟨.inr ⟨rfl, by omega⟩, hcab _ _ ?_⟩
                  rw [Hg6.out] at hx
                  by_cases hjn : j < n'
                  · rw [List.getElem?_append_left (by rw [List.length_take]; omega), List.getElem?_take_of_lt hjn] at hx
                    have h5 : w5.cell? ⟨ab, off + j, none⟩ = some (.int .u8 (((last'[j]?).getD 0 : Nat) : Int)) := by simpa using Hv5.out j hjn
                    rw [hx] at h5
                    exact hc6.keep (show w5.drew.cell? ⟨ab, off + j, none⟩ = some (.int .u8 (x : Int)) from h5) (by rintro ⟨-, hh⟩; omega)
                  · rw [List.getElem?_append_right (by rw [List.length_take]; omega), List.length_take, Nat.min_eq_left g5] at hx
                    have h6 : w6.cell? ⟨ab, off + n' + (j - n'), none⟩ = some (.int .u8 (((r[j - n']?).getD 0 : Nat) : Int)) := by simpa using hv6 (j - n') (by omega)
                    rw [show off + n' + (j - n') = off + j by omega, hx] at h6
                    exact h6
                · by_cases h5 : j < off ∨ off + vl ≤ j
                  · obtain ⟨u, hu⟩ := Hac.out j hj
                    refine ⟨u, hcab _ _ (hc6.keep (show w5.drew.cell? ⟨ab, j, none⟩ = some u from Hc5.out.keep hu (by rintro ⟨-, hh⟩; omega)) (by rintro ⟨-, hh⟩; omega))⟩
                  · by_cases hjn : j < off + n'
                    · have h5 := Hv5.out (j - off) (by omega)
                      rw [show off + (j - off) = j by omega] at h5
                      exact ⟨_, hcab _ _ (hc6.keep (show w5.drew.cell? ⟨ab, j, none⟩ = some _ from h5) (by rintro ⟨-, hh⟩; omega))⟩
                    · have h6 := hv6 (j - off - n') (by omega)
                      rw [show off + n' + (j - off - n') = j by omega] at h6
                      exact ⟨_, hcab _ _ h6⟩
              have Hfin := Lib.hid hfin
              clear hfin hc6 hv6 ev ev2 hobc
              by_cases hz : Z = 1
              · have hzt : (Z = 1) = True := eq_true hz
                have Hz := Lib.hid hz
                clear hz
                go_wp2_with fail
                (refine wp_region_txt [] (by kernel_rfl) (by kernel_rfl) ?_; repeat (first | (refine wpTxt_pure rfl rfl (fun K hK => ?_); go_simp; refine hK _ ?_; clear hK K) | (refine wpTxt_still rfl rfl (fun K hK => ?_); go_simp; refine hK _ ?_; clear hK K)))
                (refine wpTxt_effect rfl rfl (fun K hK => ?_); go_simp; refine hK _ _ ?_; clear hK K)
                repeat (first | (refine wpTxt_pure rfl rfl (fun K hK => ?_); go_simp; refine hK _ ?_; clear hK K) | (refine wpTxt_still rfl rfl (fun K hK => ?_); go_simp; refine hK _ ?_; clear hK K))
                refine wpTxt_nil ?_
                go_wp2_with fail
                go_roundw
                case rel => exact ⟨rfl, rfl, o' + 1, off + vl, l, _, k2, o', by rw [show Q - 1 = m - (o' + 1) by have := HQ.out; omega, show Z - 1 = len - (o' + 1) by have := HZ.out; omega], fun hh => by have := Hz.out; have := HZ.out; omega, by first | rfl | (congr 1), Hfin.out _ rfl⟩
                case measure => simp [slLen]; omega
              · go_wp2_with fail
                (refine wp_region_txt [] (by kernel_rfl) (by kernel_rfl) ?_; repeat (first | (refine wpTxt_pure rfl rfl (fun K hK => ?_); go_simp; refine hK _ ?_; clear hK K) | (refine wpTxt_still rfl rfl (fun K hK => ?_); go_simp; refine hK _ ?_; clear hK K)))
                (refine wpTxt_effect rfl rfl (fun K hK => ?_); go_simp; refine hK _ _ ?_; clear hK K)
                repeat (first | (refine wpTxt_pure rfl rfl (fun K hK => ?_); go_simp; refine hK _ ?_; clear hK K) | (refine wpTxt_still rfl rfl (fun K hK => ?_); go_simp; refine hK _ ?_; clear hK K))
                refine wpTxt_nil ?_
                go_wp2_with fail
                go_roundw
                case rel => exact ⟨rfl, rfl, o' + 1, off + vl, l, _, k2, o' + 1, by rw [show Q - 1 = m - (o' + 1) by have := HQ.out; omega, show Z - 1 = len - (o' + 1) by have := HZ.out; omega], fun _ => rfl, by first | rfl | (congr 1), Hfin.out _ rfl⟩
                case measure => simp [slLen]; omega
      · have hke : t = m := by have := hP.tm; omega
        subst hke
        have i0 : ¬ (0 : Int) < ((t - t : Nat) : Int) := by omega
        have hfin : DecEnd V w00 d d2 b lb pb ob t ns rs ls wr := by
          have hL := HLS2.out.keep hP.chg (by
            rintro a x (e | ⟨e, -⟩ | e)
            · have := H1.out.dd2; have := H1.out.db; have := H1.out.dlb; exact ⟨by omega, by omega, by omega⟩
            · exact ⟨by omega, by omega, by omega⟩
            · exact ⟨by omega, by omega, by omega⟩)
          have hlm : ∀ x, x ∈ last :: ls → x.length ≤ 1000000 := by
            intro x hx
            rcases List.mem_cons.1 hx with e | e
            · rw [e]; exact H1.out.lsm
            · exact H1.out.small x e
          have habn := Hab.out
          have hsz := hP.chg.size
          have hsz2 := Hc2.out.size
          have hs1 := Hs1.out
          have hmono : ∀ a x, a < wr.heap.size → Kt V ab off a x → (V a ∨ a = ab) := fun a x _ hk => hk.imp id (fun e => e.1)
          have hd := Nat.lt_of_lt_of_le H1.out.st.dlt (Nat.le_trans hsz2 hsz)
          have hsub := fun a (ha : V a) => HV.out a ha
          refine ⟨?_, fun a => V a ∨ a = ab, last', lastV', k', pc - t, po2, R2, C2, lo2, lc - t, fun a ha => ha.imp id (fun e => by omega), fun a ha => .inl ha, fun a ha => ?_, ⟨?_, hP.dlt, ?_, ?_, fun j x hx => ?_, hL, H1.out.prefs.drop t last' hP.lst, .inr (hP.lv.mono hmono), fun x hx => H1.out.small x (List.mem_of_mem_drop hx), hlm _ (List.mem_of_getElem? hP.lst), Nat.le_trans (asz_drop t rs ls) H1.out.tot, by rw [List.length_drop]; omega, H1.out.dd2, H1.out.db, H1.out.dlb, H1.out.dpb, H1.out.d2pb⟩, fun j hj => ?_⟩
          · refine (Hc1.out.comp Hc2.out (T := fun a x => a = d ∨ a = d2 ∨ (a = ob ∧ x < t)) (fun _ _ _ e => e.elim) (fun a x _ e => ?_)).comp hP.chg (fun _ _ _ e => e) (fun a x ha e => ?_)
            · rcases e with e | ⟨e, e2⟩
              · exact .inr (.inl e)
              · exact .inr (.inr ⟨e, by omega⟩)
            · rcases e with e | ⟨e, e2⟩ | e
              · exact .inl e
              · exact .inr (.inr ⟨e, e2⟩)
              · omega
          · rcases ha with ha | rfl
            · obtain ⟨v1, v2, v3, v4⟩ := hsub a ha
              exact ⟨by omega, v2, v3, v4⟩
            · exact ⟨by omega, habd, habd2, habob⟩
          · rw [List.length_drop]; exact hP.row
          · rw [List.length_drop]; have := H1.out.llc; omega
          · have := H1.out.lcc; omega
          · rw [List.getElem?_drop] at hx
            have hj : t + j < ns.length := (List.getElem?_eq_some_iff.1 hx).1
            rw [hP.kk (by omega), Nat.add_assoc]
            exact hP.chg.keep (Hpre2.out (t + j) x hx) (by rintro (e | ⟨e, -⟩ | e); exact H1.out.dpb e.symm; exact hobpb e; exact habpb e.symm)
          · obtain ⟨v, l, h1, h2, h3⟩ := hP.outs j hj
            exact ⟨v, l, h1, h2, h3.mono hmono⟩
        have Hfin := Lib.hid hfin
        clear hfin hP ho'
        go_wp2_with fail
        go_ret2
        exact ⟨rfl, Hfin.out⟩
end Go.Proofs.YtaageikelkcphaaGreatDoor
