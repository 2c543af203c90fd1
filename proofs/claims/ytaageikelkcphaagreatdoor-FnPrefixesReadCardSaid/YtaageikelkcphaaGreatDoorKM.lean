/- Part 13 of the proof: the texts LE, LF, RI, joined. What each proves stands ahead of it. -/
import Derived.Test.YtaageikelkcphaaGreatDoorKL
import Derived.Test.YtaageikelkcphaaGreatDoorKK
set_option linter.unusedVariables false
set_option linter.unusedSimpArgs false
/- The decoder of deltas: Decode, bytesRead. -/
namespace Go.Proofs.YtaageikelkcphaaGreatDoor
open Go Go.RowKit
/-- Behind k numbers of a batch of m. -/
structure LR (O : Nat → Prop) (c : RC) (w wx : World) (d mb S M n : Nat) (nv tot : Int) (data : Value) (xs : List Int) (e ob oo m : Nat) (O' : Nat → Prop) (v : DV) (k : Nat) : Prop where
  gr : Grow O w O'
  sub : ∀ a, O a → O' a
  km : k ≤ m
  chg : Chg (fun a x => O a ∨ (a = ob ∧ oo ≤ x ∧ x < oo + m)) w wx
  out : ∀ j, j < k → ∃ x, xs[j]? = some x ∧ wx.cell? ⟨ob, oo + j, none⟩ = some (.int .i32 x)
  ds : DS true O' c wx d mb S M n nv tot data (xs.drop k) e v
  no : ¬ O' ob
  cel : ∀ j, j < m → ∃ u, wx.cell? ⟨ob, oo + j, none⟩ = some u
  fr : ∀ j, wx.frozen? ⟨ob, j, none⟩ = false
/-- Behind a step of the decoder. -/
theorem LR.call {O : Nat → Prop} {c : RC} {w wx w' : World} {d mb S M n : Nat} {nv tot : Int} {data : Value} {xs : List Int} {e ob oo m : Nat} {O' O2 : Nat → Prop} {v v2 : DV} {k : Nat} (h : LR O c w wx d mb S M n nv tot data xs e ob oo m O' v k) (hm : 0 < m) (hg : Grow O' wx O2) (hO : ∀ a, O' a → O2 a) (hc : Chg (fun a _ => O' a) wx w') (hd : DS true O2 c w' d mb S M n nv tot data (xs.drop k) e v2) : LR O c w w' d mb S M n nv tot data xs e ob oo m O2 v2 k := by
  have hl : ob < wx.heap.size := by
    obtain ⟨u, hu⟩ := h.cel 0 hm
    exact World.block_lt_of_cell? _ _ hu
  refine ⟨h.gr.trans hg h.chg.size, fun a ha => hO a (h.sub a ha), h.km, h.chg.comp hc (fun _ _ _ e => e) (fun a x ha e => .inl ((h.gr a e).resolve_right (by omega))), fun j hj => ?_, hd, fun ha => ?_, fun j hj => ?_, fun j => (hc.frozen _ _ hl).trans (h.fr j)⟩
  · obtain ⟨x, h1, h2⟩ := h.out j hj
    exact ⟨x, h1, hc.keep h2 h.no⟩
  · rcases hg ob ha with e | e
    · exact h.no e
    · omega
  · obtain ⟨u, hu⟩ := h.cel j hj
    exact ⟨u, hc.keep hu h.no⟩
/-- The length of a slice. -/
def lenV : Value → Nat
  | .slice _ l _ => l
  | _ => 0
/-- The decoder, whether its first number is read or not, stands before xs. -/
def DSx (uf : Bool) (O : Nat → Prop) (c : RC) (w : World) (d mb S M n : Nat) (nv tot : Int) (data : Value) (xs : List Int) (e : Nat) (v : DV) : Prop :=
  (uf = true ∧ DS true O c w d mb S M n nv tot data xs e v) ∨ (uf = false ∧ ∃ x ys, xs = x :: ys ∧ x = RowKit.wrap32 v.last ∧ DS false O c w d mb S M n nv tot data ys e v)
theorem DSx.dx {uf : Bool} {O : Nat → Prop} {c : RC} {w : World} {d mb S M n : Nat} {nv tot : Int} {data : Value} {xs : List Int} {e : Nat} {v : DV} (h : DSx uf O c w d mb S M n nv tot data xs e v) : DX c w d mb v.o v.f (dl nv data uf (.pointer (some ⟨c.B, 0, none⟩)) S v.cbv M n v.cmb v.md v.mbi (.pointer (some ⟨mb, 0, none⟩)) v.w8 tot v.last v.mbv v.dbuf) v.ln v.bl v.bv ∧ Scr O c w d mb v.bv v.mbv v.dbuf n := by
  rcases h with ⟨rfl, h⟩ | ⟨rfl, x, ys, -, -, h⟩
  · exact ⟨h.dx, h.scr⟩
  · exact ⟨h.dx, h.scr⟩
set_option maxRecDepth 100000 in
set_option maxHeartbeats 1000000 in
theorem deltaDecode_ok (uf : Bool) (O : Nat → Prop) (c : RC) (w : World) (d mb S M n : Nat) (nv tot : Int) (data : Value) (xs : List Int) (e : Nat) (v : DV) (ob oo len cap : Nat) (m : Nat) (hm : m = min len xs.length) (hm0 : 0 < m) (hnv : nv = xs.length) (hxl : xs.length ≤ 1000000)
    (h : DSx uf O c w d mb S M n nv tot data xs e v) (hlc : len ≤ cap) (hcap : cap ≤ 1000000000000000000) (hob : ¬ O ob) (hobb : ob ≠ c.b) (hobg : 4 < ob) (hcel : ∀ j, j < m → ∃ u, w.cell? ⟨ob, oo + j, none⟩ = some u) (hfr : ∀ j, w.frozen? ⟨ob, j, none⟩ = false) :
    Calls Tryz.prog 27 #[.pointer (some ⟨d, 0, none⟩), .slice (some ⟨ob, oo, none⟩) len cap] w fun e1 w' => e1 = .returned (.tuple #[.int .i64 m, .nilIface]) ∧ ∃ O' v', LR O c w w' d mb S M n (nv - m) tot data xs e ob oo m O' v' m := by
  have p0 := h.dx.1.row.at 0 rfl
  have p4 := h.dx.1.row.at 4 rfl
  have p4f := h.dx.1.row.fr 4
  have p16 := h.dx.1.row.at 16 rfl
  have hod := h.dx.2.od
  have hobd : d ≠ ob := fun e => hob (e ▸ hod)
  have H := Lib.hid h; clear h
  have hmi : min (len : Int) nv = m := by omega
  have hm1 : ¬ (m : Int) = 0 := by omega
  have hm2 : (m : Int).toNat = m := by omega
  have hm3 : (0 : Int) ≤ m := by omega
  have hm4 : (m : Int) ≤ cap := by omega
  have hm5 : (m : Int) ≤ len := by omega
  have hm6 : 0 < (m : Int) := by omega
  have hmx : m ≤ xs.length := by omega
  have Hm := Lib.hid hm; clear hm
  have Hnv := Lib.hid hnv; clear hnv
  obtain ⟨u0, hu0⟩ := hcel 0 hm0
  rw [Nat.add_zero] at hu0
  have hf0 := hfr oo
  have Hcel := Lib.hid hcel
  have Hfr := Lib.hid hfr
  clear hcel hfr
  go_enter Tryz.func27, Tryz.ntmps27
  go_wp2_with fail
  refine (min_ok _ _ _).mono ?_
  rintro e1 w1 ⟨rfl, rfl⟩
  rw [hmi]
  go_upto_if 27 with fail
  go_cut [1, 4, 5] (fun o1 v4 v5 wx => v4 = .int .i64 0 ∧ v5 = .nilIface ∧ ∃ O' v' k a, o1 = .slice (some a) (m - k) (cap - k) ∧ (k < m → a = ⟨ob, oo + k, none⟩) ∧ LR O c w1 wx d mb S M n nv tot data xs e ob oo m O' v' k)
  case first =>
    rcases H.out with ⟨rfl, h⟩ | ⟨rfl, x, ys, hxs, hx, h⟩
    · go_wp2_with fail
      go_meet
      exact ⟨rfl, rfl, O, v, 0, _, rfl, fun _ => rfl, ⟨Grow.refl _ _, fun _ h => h, Nat.zero_le _, Chg.refl _ _, fun j hj => by omega, h, hob, Hcel.out, Hfr.out⟩⟩
    · have hc1 : Chg (Own ob) w1 (w1.setCell ⟨ob, oo, none⟩ (.int .i32 (RowKit.wrap32 v.last))) := (Chg.refl _ _).own oo _
      have h1 := h.keep hc1 (fun k x (e : k = ob) => ⟨e ▸ hob, e ▸ hobb, e ▸ hobg⟩)
      have hcx : (w1.setCell ⟨ob, oo, none⟩ (.int .i32 (RowKit.wrap32 v.last))).cell? ⟨ob, oo, none⟩ = some (.int .i32 (RowKit.wrap32 v.last)) := World.cell?_setCell_same _ _ _ hu0
      have hc2 : Chg (Own d) (w1.setCell ⟨ob, oo, none⟩ (.int .i32 (RowKit.wrap32 v.last))) ((w1.setCell ⟨ob, oo, none⟩ (.int .i32 (RowKit.wrap32 v.last))).setCell ⟨d, 4, none⟩ (.bool true)) := (Chg.refl _ _).own 4 _
      have h2 : DS true O c _ d mb S M n nv tot data ys e v := h1.own (uf' := true) (nv' := nv) (v' := v) (xs' := ys) hc2 (h1.dx.put 4 (.bool true)) v.cbv v.cmb rfl 0 (Nat.zero_le _) rfl rfl rfl
      have hL : LR O c w1 ((w1.setCell ⟨ob, oo, none⟩ (.int .i32 (RowKit.wrap32 v.last))).setCell ⟨d, 4, none⟩ (.bool true)) d mb S M n nv tot data xs e ob oo m O v 1 := by
        refine ⟨Grow.refl _ _, fun _ h => h, hm0, ((Chg.refl _ _).setCell ob oo (fun _ => .inr ⟨rfl, by omega, by omega⟩) _).setCell d 4 (fun _ => .inl hod) _, fun j hj => ⟨x, ?_, ?_⟩, by rw [hxs]; exact h2, hob, fun j hj => cell_is2 _ (cell_is2 _ (Hcel.out j hj)), fun j => by rw [World.frozen?_setCell, World.frozen?_setCell]; exact Hfr.out j⟩
        · rw [hxs, show j = 0 by omega]; rfl
        · rw [show j = 0 by omega, Nat.add_zero, hx]
          exact cell_ne _ hcx (fun e => hobd e.1.symm)
      have HL := Lib.hid hL
      clear hL h2 h1 hcx hc1 hc2
      by_cases hcap1 : cap = 1
      · go_wp2_with fail
        go_meet
        exact ⟨rfl, rfl, O, v, 1, _, by rw [hcap1], fun h1 => absurd h1 (by omega), HL.out⟩
      · go_wp2_with fail
        go_meet
        exact ⟨rfl, rfl, O, v, 1, _, rfl, fun _ => rfl, HL.out⟩
  case rest =>
    obtain ⟨rfl, rfl, O', v', k, a, rfl, ha, hL⟩ := hcut
    have HL := Lib.hid hL
    clear p0 p4 p4f p16 hu0 hf0 hL
    go_wp2_with fail
    go_loopw [1, 4, 5, 7] (fun o1 v4 v5 v7 wr => v4 = .int .i64 0 ∧ v5 = .nilIface ∧ v7 = .nilIface ∧ ∃ O' v' k a, o1 = .slice (some a) (m - k) (cap - k) ∧ (k < m → a = ⟨ob, oo + k, none⟩) ∧ LR O c w1 wr d mb S M n nv tot data xs e ob oo m O' v' k) (fun o1 _ _ _ _ => lenV o1)
    case atStart => exact ⟨rfl, rfl, rfl, _, _, _, _, rfl, ha, HL.out⟩
    case round =>
      obtain ⟨rfl, rfl, rfl, O', v', k, a, rfl, ha, hL⟩ := hrel
      clear HL
      by_cases hlt : k < m
      · obtain rfl := ha hlt
        have p7 := hL.ds.dx.row.at 7 rfl
        have hxne : xs.drop k ≠ [] := by
          intro e
          have := congrArg List.length e
          rw [List.length_drop, List.length_nil] at this
          omega
        have hmk : 0 < ((m - k : Nat) : Int) := by omega
        have HL := Lib.hid hL
        clear hL ha
        go_upto_if 47 with fail
        go_cut [4, 5, 7] (fun v4 v5 v7 wx => v4 = .int .i64 0 ∧ v5 = .nilIface ∧ v7 = .nilIface ∧ ∃ O' v', LR O c w1 wx d mb S M n nv tot data xs e ob oo m O' v' k ∧ 0 < v'.cbv)
        case first =>
          by_cases h0 : v'.cbv = 0
          · have hc0 : ((v'.cbv : Int) == 0) = true := by rw [h0]; rfl
            have Hcall := Lib.hid (HL.out.ds.init h0 hxne)
            clear h0
            go_wp2_with fail
            refine Hcall.out.mono ?_
            rintro e1 w2 ⟨rfl, O2, v2, h1, h2, h3, h4, h5, h6⟩
            have hL2 := HL.out.call hm0 h1 h2 h3 h4
            have HL2 := Lib.hid hL2
            clear hL2 h1 h2 h3 h4 Hcall
            go_wp2_with fail
            go_meet
            exact ⟨rfl, rfl, rfl, O2, v2, HL2.out, h6⟩
          · have hc0 : ((v'.cbv : Int) == 0) = false := by rw [beq_eq_false_iff_ne]; omega
            go_wp2_with fail
            go_meet
            exact ⟨rfl, rfl, rfl, O', v', HL.out, by omega⟩
        case rest =>
          obtain ⟨rfl, rfl, rfl, O2, v2, hL2, hp2⟩ := hcut
          clear HL p7
          have p10 := hL2.ds.dx.row.at 10 rfl
          have HL2 := Lib.hid hL2
          clear hL2
          go_upto_if 57 with fail
          go_cut [4, 5, 7] (fun v4 v5 v7 wx => v4 = .int .i64 0 ∧ v5 = .nilIface ∧ v7 = .nilIface ∧ ∃ O' v', LR O c w1 wx d mb S M n nv tot data xs e ob oo m O' v' k ∧ 0 < v'.cmb)
          case first =>
            by_cases h0 : v2.cmb = 0
            · have hc0 : ((v2.cmb : Int) == 0) = true := by rw [h0]; rfl
              have Hcall := Lib.hid (HL2.out.ds.unpack h0 hp2 hxne)
              clear h0
              go_wp2_with fail
              refine Hcall.out.mono ?_
              rintro e1 w3 ⟨rfl, O3, v3, h1, h2, h3, h4, h5⟩
              have hL3 := HL2.out.call hm0 h1 h2 h3 h4
              have HL3 := Lib.hid hL3
              clear hL3 h1 h2 h3 h4 Hcall
              go_wp2_with fail
              go_meet
              exact ⟨rfl, rfl, rfl, O3, v3, HL3.out, h5⟩
            · have hc0 : ((v2.cmb : Int) == 0) = false := by rw [beq_eq_false_iff_ne]; omega
              go_wp2_with fail
              go_meet
              exact ⟨rfl, rfl, rfl, O2, v2, HL2.out, by omega⟩
          case rest =>
            obtain ⟨rfl, rfl, rfl, O3, v3, hL3, hp3⟩ := hcut
            clear HL2 p10
            obtain ⟨vb, hvb, hpend⟩ := hL3.ds.pend hp3
            have p9 := hL3.ds.dx.row.at 9 rfl
            have p10 := hL3.ds.dx.row.at 10 rfl
            have p10f := hL3.ds.dx.row.fr 10
            have p7 := hL3.ds.dx.row.at 7 rfl
            have p7f := hL3.ds.dx.row.fr 7
            have p17 := hL3.ds.dx.row.at 17 rfl
            rw [hvb] at p17
            have hcm := hL3.ds.cm
            have hn2 := hL3.ds.n2
            have hcb := hL3.ds.cb
            obtain ⟨cc, hcc⟩ : ∃ cc, cc = Nat.min v3.cmb (m - k) := ⟨_, rfl⟩
            have hcc1 : cc ≤ v3.cmb := hcc ▸ Nat.min_le_left _ _
            have hcc2 : cc ≤ m - k := hcc ▸ Nat.min_le_right _ _
            have hcc0 : 0 < cc := by rw [hcc]; exact Nat.lt_min.2 ⟨hp3, by omega⟩
            obtain ⟨st, hst⟩ : ∃ st, st = n - v3.cmb := ⟨_, rfl⟩
            have e1 : IntKind.u32.wrap ((n : Int) - v3.cmb) = st := by simp [IntKind.wrap, IntKind.bits, IntKind.signed]; omega
            have e2 : IntKind.i64.wrap (st : Int) = st := IntWalk.i64_in _ (by omega)
            have e3 : (st : Int).toNat = st := by omega
            have e4 : (0 : Int) ≤ st := by omega
            have e5 : (st : Int) ≤ n := by omega
            have e6 : ¬ n = st := by omega
            have Hpend := Lib.hid hpend
            have HL3 := Lib.hid hL3
            have Hcc := Lib.hid hcc
            have Hst := Lib.hid hst
            clear hL3 hpend hcb hcc hst
            go_wp2_with fail
            (refine wp_region_txt [] (by kernel_rfl) (by kernel_rfl) ?_; repeat (first | (refine wpTxt_pure rfl rfl (fun K hK => ?_); go_simp; refine hK _ ?_; clear hK K) | (refine wpTxt_still rfl rfl (fun K hK => ?_); go_simp; refine hK _ ?_; clear hK K)))
            refine wpTxt_nil ?_
            have hcw : IntKind.u32.wrap (cc : Int) = cc := by simp [IntKind.wrap, IntKind.bits, IntKind.signed]; omega
            go_wp2_with (with_reducible refine wpList_copy_chg rfl (.tmp 73) (.tmp 79) 61 61 rfl 21 Tryz.underlying61 (by kernel_rfl) _ _ _ _ _ _ rfl rfl cc ?c0 ob (oo + k) vb st (fun j => .int .i32 ((xs.drop k).getD j 0)) ?c1 ?c2 ?c3 ?c4 ?c5 ?_)
            case c0 => rw [show n - st = v3.cmb by have := Hst.out; omega]; exact Hcc.out.symm
            case c2 =>
              intro j hj
              have hjl : j < (xs.drop k).length := by rw [List.length_drop]; omega
              have hq := Hpend.out j ((xs.drop k)[j]) (List.getElem?_eq_getElem hjl) (by omega)
              rw [← Hst.out] at hq
              rw [List.getD_eq_getElem?_getD, List.getElem?_eq_getElem hjl]
              exact hq
            case c3 =>
              intro j hj
              have := HL3.out.cel (k + j) (by omega)
              rwa [← Nat.add_assoc] at this
            case c4 => exact fun j _ => HL3.out.fr _
            case c5 => exact fun _ _ => rfl
            intro w4 hch hv
            have hobs := HL3.out.ds.scr
            have hL4 : LR O c w1 w4 d mb S M n nv tot data xs e ob oo m O3 v3 k := by
              have hl := HL3.out
              have hcd := hch.undrew
              have hll : ob < wc.heap.size := by
                obtain ⟨u, hu⟩ := hl.cel 0 hm0
                exact World.block_lt_of_cell? _ _ hu
              refine ⟨hl.gr, hl.sub, hl.km, hl.chg.comp hcd (fun _ _ _ e => e) (fun a x _ e => .inr ⟨e.1, by omega, by omega⟩), fun j hj => ?_, hl.ds.keep hcd (fun a x e => ⟨e.1 ▸ hl.no, e.1 ▸ hobb, e.1 ▸ hobg⟩), hl.no, fun j hj => ?_, fun j => (hcd.frozen _ _ hll).trans (hl.fr j)⟩
              · obtain ⟨x, h1, h2⟩ := hl.out j hj
                exact ⟨x, h1, hcd.keep h2 (by rintro ⟨-, h, -⟩; omega)⟩
              · by_cases hin : k ≤ j ∧ j < k + cc
                · obtain ⟨i, rfl⟩ : ∃ i, j = k + i := ⟨j - k, by omega⟩
                  have := hv i (by omega)
                  rw [Nat.add_assoc] at this
                  exact ⟨_, this⟩
                · obtain ⟨u, hu⟩ := hl.cel j hj
                  exact ⟨u, hcd.keep hu (by rintro ⟨-, h1, h2⟩; omega)⟩
            have hout : ∀ j, j < cc → ∃ x, xs[k + j]? = some x ∧ w4.cell? ⟨ob, oo + (k + j), none⟩ = some (.int .i32 x) := by
              intro j hj
              have := hv j hj
              rw [Nat.add_assoc] at this
              have hjl : k + j < xs.length := by omega
              rw [List.getElem?_eq_getElem hjl] at this
              exact ⟨_, List.getElem?_eq_getElem hjl, this⟩
            clear p7 p7f p9 p10 p10f p17 hv hch
            have p7 := hL4.ds.dx.row.at 7 rfl
            have p7f := hL4.ds.dx.row.fr 7
            have p10 := hL4.ds.dx.row.at 10 rfl
            have p10f := hL4.ds.dx.row.fr 10
            have hcbl : cc ≤ v3.cbv := by have := hL4.ds.cb; omega
            have hcbb : v3.cbv ≤ 4294967295 := Nat.le_trans hL4.ds.cbl hL4.ds.s2
            have g1 : IntKind.u32.wrap ((v3.cbv : Int) - cc) = ((v3.cbv - cc : Nat) : Int) := by simp [IntKind.wrap, IntKind.bits, IntKind.signed]; omega
            have g2 : IntKind.u32.wrap ((v3.cmb : Int) - cc) = ((v3.cmb - cc : Nat) : Int) := by simp [IntKind.wrap, IntKind.bits, IntKind.signed]; omega
            have hL5 : LR O c w1 ((w4.setCell ⟨d, 7, none⟩ (.int .u32 (v3.cbv - cc : Nat))).setCell ⟨d, 10, none⟩ (.int .u32 (v3.cmb - cc : Nat))) d mb S M n nv tot data xs e ob oo m O3 { v3 with cbv := v3.cbv - cc, cmb := v3.cmb - cc } (k + cc) := by
              have hc : Chg (Own d) w4 ((w4.setCell ⟨d, 7, none⟩ (.int .u32 (v3.cbv - cc : Nat))).setCell ⟨d, 10, none⟩ (.int .u32 (v3.cmb - cc : Nat))) := ((Chg.refl _ _).own 7 _).own 10 _
              refine ⟨hL4.gr, hL4.sub, by omega, (hL4.chg.setCell _ _ (fun _ => .inl hod) _).setCell _ _ (fun _ => .inl hod) _, fun j hj => ?_, hL4.ds.own (uf' := true) (nv' := nv) hc ((hL4.ds.dx.put 7 _).put 10 _) (v3.cbv - cc) (v3.cmb - cc) rfl cc hcc1 rfl rfl (by rw [List.drop_drop]), hL4.no, fun j hj => let ⟨u, hu⟩ := hL4.cel j hj; ⟨u, hc.keep hu (fun e => hobd e.symm)⟩, fun j => by rw [World.frozen?_setCell, World.frozen?_setCell]; exact hL4.fr j⟩
              by_cases hjk : j < k
              · obtain ⟨x, h1, h2⟩ := hL4.out j hjk
                exact ⟨x, h1, hc.keep h2 (fun e => hobd e.symm)⟩
              · obtain ⟨i, rfl⟩ : ∃ i, j = k + i := ⟨j - k, by omega⟩
                obtain ⟨x, h1, h2⟩ := hout i (by omega)
                exact ⟨x, h1, hc.keep h2 (fun e => hobd e.symm)⟩
            have HL5 := Lib.hid hL5
            have hc6 : (cc : Int) ≤ ((m - k : Nat) : Int) := by omega
            have hc7 : (0 : Int) ≤ cc := by omega
            have hc8 : (cc : Int).toNat = cc := by omega
            clear hL4 hL5 hout hobs
            by_cases hcc9 : cap - k = cc
            · go_wp2_with fail
              go_roundw
              case rel => exact ⟨rfl, rfl, rfl, O3, _, k + cc, _, by congr 1 <;> omega, fun h => absurd h (by omega), HL5.out⟩
              case measure => simp [lenV]; omega
            · go_wp2_with fail
              go_roundw
              case rel => exact ⟨rfl, rfl, rfl, O3, _, k + cc, _, by congr 1 <;> omega, fun h => by rw [Nat.add_assoc], HL5.out⟩
              case measure => simp [lenV]; omega
      · have hke : k = m := by have := hL.km; omega
        subst hke
        have HL := Lib.hid hL
        clear hL ha
        have hmk : ¬ 0 < ((k - k : Nat) : Int) := by omega
        have hnw : RowKit.wrap64 (nv - k) = nv - k := IntWalk.wrap64_in _ (by have := Hnv.out; omega)
        have p0 := HL.out.ds.dx.row.at 0 rfl
        have p0f := HL.out.ds.dx.row.fr 0
        go_wp2_with fail
        go_ret2
        have hL := HL.out
        have hc : Chg (Own d) wr (wr.setCell ⟨d, 0, none⟩ (.int .i64 (nv - k))) := (Chg.refl _ _).own 0 _
        exact ⟨rfl, O', v', hL.gr, hL.sub, hL.km, hL.chg.setCell _ _ (fun _ => .inl hod) _, fun j hj => let ⟨x, h1, h2⟩ := hL.out j hj; ⟨x, h1, hc.keep h2 (fun e => hobd e.symm)⟩, hL.ds.own (uf' := true) (nv' := nv - k) (v' := v') hc (hL.ds.dx.put 0 _) v'.cbv v'.cmb rfl 0 (Nat.zero_le _) rfl rfl rfl, hL.no, fun j hj => let ⟨u, hu⟩ := hL.cel j hj; ⟨u, hc.keep hu (fun e => hobd e.symm)⟩, fun j => by rw [World.frozen?_setCell]; exact hL.fr j⟩
/-- The decoder tells where it stands. -/
theorem bytesRead_ok (uf : Bool) (O : Nat → Prop) (c : RC) (w : World) (d mb S M n : Nat) (nv tot : Int) (data : Value) (e : Nat) (v : DV) (h : DS uf O c w d mb S M n nv tot data [] e v) :
    Calls Tryz.prog 28 #[.pointer (some ⟨d, 0, none⟩)] w fun e1 w' => e1 = .returned (.int .i64 e) ∧ Chg Nix w w' := by
  have p5 := h.dx.row.at 5 rfl
  have hmi := h.mi
  rw [List.drop_nil] at hmi
  have he := hmi.end_eq
  have hpos := h.pos
  have hel := h.el
  have hcall := curOffset_ok c v.o v.f w h.dx.rs (by omega)
  rw [show v.o + (v.f + 7) / 8 = e by omega] at hcall
  have Hcall := Lib.hid hcall
  clear hcall h hmi
  go_enter Tryz.func28, Tryz.ntmps28
  go_wp2_with fail
  refine Hcall.out.mono ?_
  rintro e1 w' ⟨rfl, hc⟩
  go_wp2_with fail
  go_ret
  exact ⟨by rw [he]; rfl, hc⟩
end Go.Proofs.YtaageikelkcphaaGreatDoor
/- The decoder of lengths: what it reads, how it is set. -/
namespace Go.Proofs.YtaageikelkcphaaGreatDoor
open Go Go.RowKit
/-- A byte array that stands in memory, at places that are settled. -/
def BA (K : Nat → Nat → Prop) (w : World) (v : Value) (bs : List Nat) : Prop :=
  ∃ g o c, v = .slice (some ⟨g, o, none⟩) bs.length c ∧ bs.length ≤ c ∧ c ≤ 1000000000000000000 ∧ ∀ (j x : Nat), bs[j]? = some x → K g (o + j) ∧ w.cell? ⟨g, o + j, none⟩ = some (.int .u8 (x : Int))
theorem BA.keep {K : Nat → Nat → Prop} {w w' : World} {v : Value} {bs : List Nat} (h : BA K w v bs) {S : Nat → Nat → Prop} (hc : Chg S w w') (hS : ∀ a x, S a x → ¬ K a x) : BA K w' v bs := by
  obtain ⟨g, o, c, h1, h2, h3, h4⟩ := h
  exact ⟨g, o, c, h1, h2, h3, fun j x hx => ⟨(h4 j x hx).1, hc.keep (h4 j x hx).2 (fun e => hS _ _ e (h4 j x hx).1)⟩⟩
theorem BA.mono {K K' : Nat → Nat → Prop} {w : World} {v : Value} {bs : List Nat} (h : BA K w v bs) (hK : ∀ a x, a < w.heap.size → K a x → K' a x) : BA K' w v bs := by
  obtain ⟨g, o, c, h1, h2, h3, h4⟩ := h
  exact ⟨g, o, c, h1, h2, h3, fun j x hx => ⟨hK _ _ (World.block_lt_of_cell? _ _ (h4 j x hx).2) (h4 j x hx).1, (h4 j x hx).2⟩⟩
theorem dec_base_ok (w : World) : Calls Tryz.prog 23 #[] w fun e w' => e = .returned (.agg #[.int .i64 0, .slice none 0 0, .int .i64 0]) ∧ w' = w.alloc (.cells #[.int .i64 0, .slice none 0 0, .int .i64 0] 65) := by
  go_enter Tryz.func23, Tryz.ntmps23
  go_wp2_with fail
  refine bodyPost_ret (results_cell_row rfl _ _ w.heap.size 65 _ (0, 0) _ rfl (heap_alloc_new w _) Tryz.underlying65 rfl (by kernel_rfl)) rfl ?_
  exact ⟨rfl, rfl⟩
/-- The cells of a decoder of lengths. -/
def ll (nv : Int) (data lens : Value) : List Value := [.int .i64 nv, data, .int .i64 0, .iface 42 (.agg #[]), lens]
/-- A decoder of lengths that stands before the texts rs. -/
structure LS (w : World) (d b lb : Nat) (rs : List (List Nat)) (po R C lo lc : Nat) : Prop where
  row : Row w d (ll rs.length (.slice (some ⟨b, po, none⟩) R C) (.slice (some ⟨lb, lo, none⟩) rs.length lc))
  dlt : d < w.heap.size
  rc : R ≤ C
  cc : C ≤ 9223372036854775807
  llc : rs.length ≤ lc
  lcc : lc ≤ 1000000000000000000
  fits : rs.flatten.length ≤ R
  bytes : ∀ (j x : Nat), rs.flatten[j]? = some x → w.cell? ⟨b, po + j, none⟩ = some (.int .u8 (x : Int))
  lens : ∀ (t : Nat) r, rs[t]? = some r → w.cell? ⟨lb, lo + t, none⟩ = some (.int .i32 (r.length : Int))
  small : ∀ r ∈ rs, r.length ≤ 1000000
  db : d ≠ b
  dl : d ≠ lb
theorem LS.keep {w w' : World} {d b lb : Nat} {rs : List (List Nat)} {po R C lo lc : Nat} (h : LS w d b lb rs po R C lo lc) {S : Nat → Nat → Prop} (hc : Chg S w w') (hS : ∀ k x, S k x → k ≠ d ∧ k ≠ b ∧ k ≠ lb) : LS w' d b lb rs po R C lo lc :=
  ⟨h.row.keep h.dlt hc (fun x e => (hS _ _ e).1 rfl), hc.lt h.dlt, h.rc, h.cc, h.llc, h.lcc, h.fits, fun j x hx => hc.keep (h.bytes j x hx) (fun e => (hS _ _ e).2.1 rfl), fun t r hr => hc.keep (h.lens t r hr) (fun e => (hS _ _ e).2.2 rfl), h.small, h.db, h.dl⟩
/-- A decoder of deltas is set over what is encoded. -/
theorem deltaStart_ok (w : World) (d b bo L C : Nat) (ee eu : Addr) (N S M : Nat) (l : List Int) (bs : List Nat) (D : Nat → Nat) (h : Row w d dl0) (hd : d < w.heap.size) (hD : Data w b bo L D) (hE : Eofs w ee eu) (hL : L ≤ C) (hC : C ≤ 9223372036854775807) (hLb : L ≤ 1000000000000000000) (hdb : d ≠ b) (hg : 4 < d)
    (henc : DeltaEnc RowKit.wrap32 32 S M l bs) (hf : BlkFit S M) (hs : StandB D 0 bs) (hbl : bs.length ≤ L) (hlN : l.length ≤ N) (hN : N ≤ 1000000) (hr : ∀ y ∈ l, -2147483648 ≤ y ∧ y ≤ 2147483647) :
    Calls Tryz.prog 24 #[.pointer (some ⟨d, 0, none⟩), .int .i64 N, .slice (some ⟨b, bo, none⟩) L C] w fun e w' =>
      e = .returned .nilIface ∧ Chg (Own d) w w' ∧ ∃ c mb v O, c.b = b ∧ (∀ a, O a → a = d ∨ w.heap.size ≤ a) ∧ DSx false O c w' d mb S M (S / M) l.length l.length (.slice (some ⟨b, bo, none⟩) L C) l bs.length v := by
  obtain ⟨x0, ys, z, q, rfl, rfl, hH, hq, hm⟩ := enc_reads henc hf (by omega) hr hs
  have h0 := hr _ List.mem_cons_self
  obtain ⟨n1, n2, n3, n4⟩ := hf.n1
  refine (deltaSet_ok w d b bo L C ee eu N S M _ z q D h hd hD hE hL hC hLb hdb hg hH (by omega) hlN (by omega) h0.1 h0.2).mono ?_
  rintro e w' ⟨rfl, hc, B, rb, mb, hB, hrb, hmb, hX⟩
  have hL0 : 0 < L := by
    obtain ⟨k1, k2, k3, k4, h1, h2, h3, h4, h5⟩ := hH.h
    have := h1.k1
    omega
  have hbw : b < w.heap.size := World.block_lt_of_cell? w _ (hD.bytes 0 hL0)
  obtain ⟨l1, l2, l3, l4⟩ := hX.lts hL0
  refine ⟨rfl, hc, ⟨B, rb, 0, b, bo, L, C, ee, eu, D⟩, mb, ⟨q, 0, q, 0, 0, 0, 0, 0, unzig z, .slice none 0 0, .slice none 0 0, .slice none 0 0, 0, 0, none⟩, fun a => a = d ∨ a = B ∨ a = rb ∨ a = mb, rfl, fun a ha => ?_, .inr ⟨rfl, unzig z, ys, rfl, ?_, ?_⟩⟩
  · rcases ha with e | e | e | e
    · exact .inl e
    · exact .inr (by omega)
    · exact .inr (by omega)
    · exact .inr (by omega)
  · simp only; unfold RowKit.wrap32; omega
  · refine ⟨hX, ⟨.inl rfl, .inr (.inl rfl), .inr (.inr (.inl rfl)), .inr (.inr (.inr rfl)), fun b' e => (by cases e), fun a ha => ?_, fun ha => ?_, fun a ha => ?_, .inl rfl, .inl rfl, fun x y l1 c1 l2 c2 e1 e2 => (by cases e1)⟩, by simp, Nat.zero_le _, by simp, fun hh => absurd hh (by simp), by simpa using hm, fun wb j m e => (by cases e), .inl ⟨rfl, rfl, rfl⟩, by simpa using hbl, hL0, hf.m3, by omega, by omega, hf.m1, by omega, n3, by have := hf.s3; omega, Nat.zero_le _⟩
    · rcases ha with e | e | e | e <;> subst e
      · exact hc.lt hd
      · exact l1
      · exact l2
      · exact l4
    · simp only at ha
      rcases ha with e | e | e | e <;> omega
    · rcases ha with e | e | e | e <;> omega
theorem make_i32u (n : Nat) (h2 : n ≤ 1000000) : ∀ W : World, (Instr.makeSlice 61 (.int .u64 (n : Int)) (.int .u64 (n : Int))).run Tryz.prog W = .ok (.slice (some ⟨W.heap.size, 0, none⟩) n n) (W.alloc (.cells (madeCells #[.int .i32 0] n) 21)) :=
  fun W => run_make_row' (P := Tryz.prog) 61 21 (.int .i32 0) 4 (by kernel_rfl) (by kernel_rfl) rfl .u64 .u64 n (by omega) (by omega) W
theorem make_i32n (n : Nat) (h2 : n ≤ 1000000) : ∀ W : World, (Instr.makeSlice 61 (.int .i64 (n : Int)) (.int .i64 (n : Int))).run Tryz.prog W = .ok (.slice (some ⟨W.heap.size, 0, none⟩) n n) (W.alloc (.cells (madeCells #[.int .i32 0] n) 21)) :=
  fun W => run_make_row' (P := Tryz.prog) 61 21 (.int .i32 0) 4 (by kernel_rfl) (by kernel_rfl) rfl .i64 .i64 n (by omega) (by omega) W
/-- The lengths, as numbers. -/
def lenI (rs : List (List Nat)) : List Int := rs.map fun r => (r.length : Int)
end Go.Proofs.YtaageikelkcphaaGreatDoor
/- A region whose order is open and that holds two effects in either order: walked in two orders. Over any program. -/
namespace Go.Proofs.YtaageikelkcphaaGreatDoor
open Go Go.RowKit
namespace HR
section
variable {P : Program} {ops : Array Oper} {Inv : World → Prop}
/-- x stands ahead of y: y may pass it, or is bound behind it, or the pair is the one that is left out. -/
def okP (ops : Array Oper) (e1 e2 : Nat) (x y : Nat) : Bool :=
  (x == e1 && y == e2) || match ops[y]? with
    | none => true
    | some oy => (pass ops y (dmask oy)).testBit x || match ops[x]? with | some ox => mayPass ops ox oy | none => true
def pairB (r : Nat → Nat → Bool) : List Nat → Bool
  | [] => true
  | x :: l => l.all (r x) && pairB r l
theorem pairB_spec {r : Nat → Nat → Bool} : ∀ {l : List Nat}, pairB r l = true → l.Pairwise (fun x y => r x y = true)
  | [], _ => .nil
  | x :: l, h => by
    simp only [pairB, Bool.and_eq_true] at h
    exact .cons (fun y hy => List.all_eq_true.1 h.1 y hy) (pairB_spec h.2)
/-- Operations i and j may come in either order; ord is the other order. -/
def textB2 (ops : Array Oper) (i j : Nat) (ord : List Nat) : Bool :=
  Region.noSelect ops && (List.range ops.size).all (fun k => match ops[k]? with | none => true | some y => y.after.all fun e => !Region.binds .any e || decide (e.on < k)) &&
  pairB (okP ops i j) (List.range ops.size) && pairB (okP ops j i) ord && (List.range ops.size).all (fun k => ord.contains k) && ord.all (fun k => decide (k < ops.size)) && decide ord.Nodup &&
  (List.range ops.size).all (fun k => k == i || k == j || match ops[k]? with | none => true | some y => cls y == .pure || cls y == .held || (pass ops k (dmask y)).testBit i || (pass ops k (dmask y)).testBit j)
def remL (ord : List Nat) (listed : Array Bool) : List Nat := ord.filter fun i => !listed.getD i true
theorem split_pair {R : Nat → Nat → Prop} {i : Nat} : ∀ {l : List Nat}, l.Pairwise R → l.Nodup → i ∈ l → ∃ l1 l2, l = l1 ++ i :: l2 ∧ (∀ j ∈ l1, R j i) ∧ l.filter (fun k => k != i) = l1 ++ l2
  | [], _, _, h => by simp at h
  | k :: l, hs, hn, h => by
    rw [List.pairwise_cons] at hs
    rw [List.nodup_cons] at hn
    by_cases hk : k = i
    · subst hk
      refine ⟨[], l, rfl, by simp, ?_⟩
      rw [List.filter_cons]
      simp only [bne_self_eq_false, Bool.false_eq_true, if_false, List.nil_append]
      refine List.filter_eq_self.2 fun x hx => ?_
      have : x ≠ k := fun e => hn.1 (e ▸ hx)
      simp [this]
    · have hil : i ∈ l := by
        rcases List.mem_cons.1 h with h | h
        · exact absurd h.symm hk
        · exact h
      obtain ⟨l1, l2, he, hl, hf⟩ := split_pair hs.2 hn.2 hil
      refine ⟨k :: l1, l2, by rw [he]; rfl, ?_, ?_⟩
      · intro j hj
        rcases List.mem_cons.1 hj with rfl | hj
        · exact hs.1 i hil
        · exact hl j hj
      · rw [List.filter_cons]
        simp [hk, hf]
theorem remL_set {ord : List Nat} {i : Nat} {listed : Array Bool} (hn : ∀ k ∈ ord, k < listed.size) : remL ord (listed.setIfInBounds i true) = (remL ord listed).filter (fun k => k != i) := by
  unfold remL
  rw [List.filter_filter]
  refine List.filter_congr fun k hk => ?_
  have hk' := hn k hk
  by_cases h : k = i
  · subst h; simp [hk']
  · have e : (listed.setIfInBounds i true).getD k true = listed.getD k true := getD_set_ne true (fun e => h e.symm)
    rw [e]
    simp [h]
theorem tOp_both {o : Oper} (hq : cls o = .pure ∨ cls o = .held) {K K' : Act → World → Prop} {a : Act} {w : World} (h : tOp P Inv ops o K a w) (h' : tOp P Inv ops o K' a w) : tOp P Inv ops o (fun a w => K a w ∧ K' a w) a w := by
  unfold tOp at *
  have n1 : ¬ (Region.wanted o (yielded ops a.tmps) = true ∧ cls o = .effect) := by rcases hq with e | e <;> rw [e] <;> simp
  have n2 : ¬ (Region.wanted o (yielded ops a.tmps) = true ∧ cls o = .store) := by rcases hq with e | e <;> rw [e] <;> simp
  rw [if_neg n1, if_neg n2] at *
  obtain ⟨hi, v, hv, hk⟩ := h
  obtain ⟨-, v', hv', hk'⟩ := h'
  have e := good_det (w := w) hi hv' hv
  subst e
  exact ⟨hi, v', hv, hk, hk'⟩
/-- Where the walk of two orders stands. -/
def Two (P : Program) (Inv : World → Prop) (ops : Array Oper) (K : Act → World → Prop) (i j : Nat) (ord : List Nat) (listed : Array Bool) (a : Act) (w : World) : Prop :=
  (tList P Inv ops K (remL (List.range ops.size) listed) a w ∧ (listed.getD i true = true ∨ (listed.getD i true = false ∧ listed.getD j true = false ∧ tList P Inv ops K (remL ord listed) a w))) ∨
  (tList P Inv ops K (remL ord listed) a w ∧ listed.getD j true = true)
theorem tList_any2 {i j : Nat} {ord : List Nat} (hij : i ≠ j) (hB : textB2 ops i j ord = true) {K : Act → World → Prop} {Q : Exit → Act → World → Prop} (hK : ∀ a w, K a w → Q .normal a w) :
    ∀ (fuel : Nat) (listed : Array Bool) (a : Act) (w : World), listed.size = ops.size → ClosedL ops listed → (remL (List.range ops.size) listed).length = fuel → Two P Inv ops K i j ord listed a w → wpAny P .any ops Q fuel listed a w := by
  simp only [textB2, Bool.and_eq_true] at hB
  obtain ⟨⟨⟨⟨⟨⟨⟨hsel, hlow⟩, hp1⟩, hp2⟩, hall⟩, hlt⟩, hnd⟩, hq⟩ := hB
  have hlow' : ∀ k y, ops[k]? = some y → ∀ e ∈ y.after, Region.binds .any e = true → e.on < k := by
    intro k y hk e he hb
    have := List.all_eq_true.1 hlow k (List.mem_range.2 (Array.getElem?_eq_some_iff.1 hk).1)
    simp only [hk] at this
    have := Array.all_eq_true_iff_forall_mem.1 this e he
    simpa [hb] using this
  have hltO : ∀ k ∈ ord, k < ops.size := fun k hk => of_decide_eq_true (List.all_eq_true.1 hlt k hk)
  have hnd' : ord.Nodup := of_decide_eq_true hnd
  have hp1' := pairB_spec hp1
  have hp2' := pairB_spec hp2
  have hq' : ∀ k y, ops[k]? = some y → k ≠ i → k ≠ j → (cls y = .pure ∨ cls y = .held) ∨ (pass ops k (dmask y)).testBit i = true ∨ (pass ops k (dmask y)).testBit j = true := by
    intro k y hk hki hkj
    have := List.all_eq_true.1 hq k (List.mem_range.2 (Array.getElem?_eq_some_iff.1 hk).1)
    simp only [hk, Bool.or_eq_true, beq_iff_eq] at this
    rcases this with (e | e) | (((e | e) | e) | e)
    · exact absurd e hki
    · exact absurd e hkj
    · exact .inl (.inl e)
    · exact .inl (.inr e)
    · exact .inr (.inl e)
    · exact .inr (.inr e)
  intro fuel
  induction fuel with
  | zero =>
    intro listed a w hsz hcl hlen h
    have hnil : remL (List.range ops.size) listed = [] := List.eq_nil_of_length_eq_zero hlen
    have hun : ∀ k, k < ops.size → listed.getD k true = true := by
      intro k hk
      cases hc : listed.getD k true with
      | true => rfl
      | false =>
        have : k ∈ remL (List.range ops.size) listed := by unfold remL; rw [List.mem_filter]; exact ⟨List.mem_range.2 hk, by rw [hc]; rfl⟩
        rw [hnil] at this; cases this
    have hnil2 : remL ord listed = [] := by
      refine List.eq_nil_iff_forall_not_mem.2 fun k hk => ?_
      unfold remL at hk
      rw [List.mem_filter] at hk
      have := hun k (hltO k hk.1)
      simp [this] at hk
    refine ⟨?_, ?_⟩
    · refine List.eq_nil_iff_forall_not_mem.2 fun k hk => ?_
      obtain ⟨hu, o, ho, _⟩ := mem_ready.1 hk
      have := hun k (Array.getElem?_eq_some_iff.1 ho).1
      rw [hu] at this
      cases this
    · rcases h with ⟨h, -⟩ | ⟨h, -⟩
      · rw [hnil] at h; exact hK _ _ h
      · rw [hnil2] at h; exact hK _ _ h
  | succ fuel ih =>
    intro listed a w hsz hcl hlen h
    refine ⟨fun hr => ?_, fun k hk => ?_⟩
    · exfalso
      cases hrem : remL (List.range ops.size) listed with
      | nil => rw [hrem] at hlen; cases hlen
      | cons m l =>
        have hm : m ∈ remL (List.range ops.size) listed := by rw [hrem]; simp
        obtain ⟨hmn, hmu⟩ := (mem_rem (n := ops.size)).1 hm
        have : m ∈ Region.ready .any ops listed := by
          refine mem_ready.2 ⟨hmu, ops[m], Array.getElem?_eq_getElem hmn, fun e he hb => ?_⟩
          have hlt := hlow' m ops[m] (Array.getElem?_eq_getElem hmn) e he hb
          cases hl : listed.getD e.on true with
          | false =>
            have hmem : e.on ∈ remL (List.range ops.size) listed := (mem_rem (n := ops.size)).2 ⟨by omega, hl⟩
            rw [hrem] at hmem
            have hs := rem_sorted ops.size listed
            rw [show rem ops.size listed = remL (List.range ops.size) listed from rfl, hrem, List.pairwise_cons] at hs
            rcases List.mem_cons.1 hmem with h' | h'
            · omega
            · have := hs.1 _ h'; omega
          | true =>
            have hin : e.on < listed.size := by rw [hsz]; omega
            simp [hin] at hl ⊢
            exact hl
        rw [hr] at this
        cases this
    · obtain ⟨hu, o, ho, hdeps⟩ := mem_ready.1 hk
      have hin : k < ops.size := (Array.getElem?_eq_some_iff.1 ho).1
      have hmem1 : k ∈ remL (List.range ops.size) listed := (mem_rem (n := ops.size)).2 ⟨hin, hu⟩
      have hmem2 : k ∈ remL ord listed := by
        unfold remL
        rw [List.mem_filter]
        exact ⟨by simpa using List.all_eq_true.1 hall k (List.mem_range.2 hin), by rw [hu]; rfl⟩
      have hset1 := remL_set (ord := List.range ops.size) (i := k) (listed := listed) (fun x hx => by rw [hsz]; exact List.mem_range.1 hx)
      have hset2 := remL_set (ord := ord) (i := k) (listed := listed) (fun x hx => by rw [hsz]; exact hltO x hx)
      obtain ⟨l1, l2, e1, f1, g1⟩ := split_pair (hp1'.sublist (List.filter_sublist (p := fun i => !listed.getD i true))) ((List.nodup_range).sublist List.filter_sublist) hmem1
      obtain ⟨m1, m2, e2, f2, g2⟩ := split_pair (hp2'.sublist (List.filter_sublist (p := fun i => !listed.getD i true))) (hnd'.sublist List.filter_sublist) hmem2
      have hun1 : ∀ x ∈ l1, listed.getD x true = false := fun x hx => by
        have : x ∈ remL (List.range ops.size) listed := by unfold remL; rw [e1]; simp [hx]
        exact ((mem_rem (n := ops.size)).1 this).2
      have hun2 : ∀ x ∈ m1, listed.getD x true = false := fun x hx => by
        have : x ∈ remL ord listed := by unfold remL; rw [e2]; simp [hx]
        unfold remL at this
        rw [List.mem_filter] at this
        simpa using this.2
      have hpass : ∀ x, listed.getD x true = false → (pass ops k (dmask o)).testBit x = true → False := fun x hx hb => by
        have := pass_spec hcl k (dmask o) (fun y hy => by
          obtain ⟨e, he, hbd, rfl⟩ := dmask_spec hy
          exact hdeps e he hbd) x hb
        rw [getD_both hx] at this
        cases this
      have front1 : ∀ {a w}, (k = j → listed.getD i true = true) → tList P Inv ops K (remL (List.range ops.size) listed) a w → tOp P Inv ops o (tList P Inv ops K (remL (List.range ops.size) (listed.setIfInBounds k true))) a w := by
        intro a w hc hh
        rw [hset1]
        unfold remL
        rw [g1]
        unfold remL at hh
        rw [e1] at hh
        refine tList_front hsel ho l1 l2 (fun x hx ox hox => ?_) a w hh
        have := f1 x hx
        simp only [okP, ho, hox, Bool.or_eq_true, Bool.and_eq_true, beq_iff_eq] at this
        rcases this with ⟨rfl, rfl⟩ | this | this
        · have := hc rfl
          rw [hun1 _ hx] at this; cases this
        · exact absurd this (fun hb => hpass x (hun1 x hx) hb)
        · exact this
      have front2 : ∀ {a w}, (k = i → listed.getD j true = true) → tList P Inv ops K (remL ord listed) a w → tOp P Inv ops o (tList P Inv ops K (remL ord (listed.setIfInBounds k true))) a w := by
        intro a w hc hh
        rw [hset2]
        unfold remL
        rw [g2]
        unfold remL at hh
        rw [e2] at hh
        refine tList_front hsel ho m1 m2 (fun x hx ox hox => ?_) a w hh
        have := f2 x hx
        simp only [okP, ho, hox, Bool.or_eq_true, Bool.and_eq_true, beq_iff_eq] at this
        rcases this with ⟨rfl, rfl⟩ | this | this
        · have := hc rfl
          rw [hun2 _ hx] at this; cases this
        · exact absurd this (fun hb => hpass x (hun2 x hx) hb)
        · exact this
      have hsz' : (listed.setIfInBounds k true).size = ops.size := by simpa using hsz
      have hcl' : ClosedL ops (listed.setIfInBounds k true) := by
        intro k' o' ho' hk' e he hb
        by_cases hki : k = k'
        · subst hki
          have : o' = o := Option.some.inj (ho'.symm.trans ho)
          subst this
          exact getD_set_true (hdeps e he hb)
        · rw [getD_set_ne false hki] at hk'
          exact getD_set_true (hcl k' o' ho' hk' e he hb)
      have hlen' : (remL (List.range ops.size) (listed.setIfInBounds k true)).length = fuel := by
        rw [hset1]
        unfold remL at hlen ⊢
        rw [g1]
        rw [e1] at hlen
        simp only [List.length_append, List.length_cons] at hlen ⊢
        omega
      have hsetk : (listed.setIfInBounds k true).getD k true = true := by
        have : k < listed.size := by rw [hsz]; exact hin
        simp [this]
      have hsetn : ∀ x, x ≠ k → (listed.setIfInBounds k true).getD x true = listed.getD x true := fun x hx => getD_set_ne true (fun e => hx e.symm)
      have hkeep : ∀ x, listed.getD x true = true → (listed.setIfInBounds k true).getD x true = true := fun x hx => by
        by_cases e : x = k
        · subst e; exact hsetk
        · rw [hsetn x e]; exact hx
      have fin : tOp P Inv ops o (Two P Inv ops K i j ord (listed.setIfInBounds k true)) a w := by
        rcases h with ⟨h1, hi | ⟨hi, hj, h2⟩⟩ | ⟨h2, hj⟩
        · exact tOp_mono (fun a w h => .inl ⟨h, .inl (hkeep i hi)⟩) (front1 (fun _ => hi) h1)
        · by_cases hki : k = i
          · subst hki
            exact tOp_mono (fun a w h => .inl ⟨h, .inl hsetk⟩) (front1 (fun e => absurd e hij) h1)
          · by_cases hkj : k = j
            · subst hkj
              exact tOp_mono (fun a w h => .inr ⟨h, hsetk⟩) (front2 (fun e => absurd e.symm hij) h2)
            · have hqk : cls o = .pure ∨ cls o = .held := by
                rcases hq' k o ho hki hkj with e | e | e
                · exact e
                · exact (hpass i hi e).elim
                · exact (hpass j hj e).elim
              refine tOp_mono (fun a w h => .inl ⟨h.1, .inr ⟨?_, ?_, h.2⟩⟩) (tOp_both hqk (front1 (fun e => absurd e hkj) h1) (front2 (fun e => absurd e hki) h2))
              · rw [hsetn i (fun e => hki e.symm)]; exact hi
              · rw [hsetn j (fun e => hkj e.symm)]; exact hj
        · exact tOp_mono (fun a w h => .inr ⟨h, hkeep j hj⟩) (front2 (fun _ => hj) h2)
      exact tOp_wpOp ho (tOp_mono (fun a' w' h' => ih (listed.setIfInBounds k true) a' w' hsz' hcl' hlen' h') fin)
theorem region2 (Inv : World → Prop) (i j : Nat) (ord : List Nat) {id : Nat} {Q : Exit → Act → World → Prop} {a : Act} {w : World} {l : List Oper} (hij : i ≠ j) (hm : P.follows .mixedOrders = true) (hB : textB2 l.toArray i j ord = true)
    (hi : i < l.length) (hj : j < l.length)
    (h : wpTxt P Inv l.toArray (Q .normal) l a w.drew) (h2 : wpTxt P Inv l.toArray (Q .normal) (ord.filterMap fun k => l.toArray[k]?) a w.drew) : (Code.region id l.toArray true).wp P Q a w := by
  refine wp_region_any hm ?_
  have hfull : ∀ (L : List Nat), (∀ k ∈ L, k < l.length) → remL L (Array.replicate l.toArray.size false) = L := by
    intro L hL
    unfold remL
    rw [List.filter_eq_self.2]
    intro k hk
    have := hL k hk
    simp [this]
  have hltO : ∀ k ∈ ord, k < l.length := by
    simp only [textB2, Bool.and_eq_true] at hB
    obtain ⟨⟨⟨-, hlt⟩, -⟩, -⟩ := hB
    intro k hk
    simpa using List.all_eq_true.1 hlt k hk
  have hL2 : ∀ (L : List Nat) (a : Act) (w : World), (∀ k ∈ L, k < l.length) → wpTxt P Inv l.toArray (Q .normal) (L.filterMap (fun k => l.toArray[k]?)) a w → tList P Inv l.toArray (Q .normal) L a w := by
    intro L
    induction L with
    | nil => intro a w _ h; exact h
    | cons k L ih =>
      intro a w hL h
      have hk := hL k (by simp)
      have hg : l.toArray[k]? = some l[k] := by simp [hk]
      rw [List.filterMap_cons, hg] at h
      simp only [tList, hg]
      exact tOp_mono (fun a w h => ih a w (fun x hx => hL x (by simp [hx])) h) h
  refine tList_any2 (Inv := Inv) hij hB (fun _ _ h => h) l.toArray.size _ a _ (by simp) ?_ (by rw [hfull _ (fun k hk => by simpa using List.mem_range.1 hk)]; simp) (.inl ⟨?_, .inr ⟨?_, ?_, ?_⟩⟩)
  · intro i o _ hk
    rw [getD_replicate_false] at hk
    cases hk
  · rw [hfull _ (fun k hk => by simpa using List.mem_range.1 hk)]
    have := wpTxt_tList l 0 (by simp) a _ h
    rw [← List.range_eq_range'] at this
    simpa using this
  · simp [hi]
  · simp [hj]
  · rw [hfull _ hltO]
    exact hL2 ord a _ hltO h2
end
end HR
end Go.Proofs.YtaageikelkcphaaGreatDoor
