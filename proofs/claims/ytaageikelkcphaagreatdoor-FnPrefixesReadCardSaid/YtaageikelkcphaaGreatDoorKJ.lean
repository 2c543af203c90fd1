/- Part 10 of the proof: the texts J, K, L, L2, joined. What each proves stands ahead of it. -/
import Derived.Test.YtaageikelkcphaaGreatDoorKI
import Derived.Deep.RegionHeld3
import Derived.Deep.RegionWith
import Derived.Test.YtaageikelkcphaaGreatDoorKH
import Derived.ArgAppend
import Derived.Deep.RegionLaw
import Derived.Deep.AppendLies
set_option linter.unusedVariables false
set_option linter.unusedSimpArgs false
/- The decoder of deltas: a block's head. -/
namespace Go.Proofs.YtaageikelkcphaaGreatDoor
open Go Go.RowKit
/-- What a decoder of deltas may turn: its own cells, its buffer's and its reader's, the widths. -/
def DT (c : RC) (d mb b : Nat) : Nat → Nat → Prop := fun k _ => k = d ∨ k = mb ∨ k = c.B ∨ k = c.rb ∨ k = b
/-- Behind i widths. -/
structure IB (c : RC) (w wr : World) (d mb b q M : Nat) (L : List Value) (i : Nat) : Prop where
  chg : Chg (DT c d mb b) w wr
  dx : DX c wr d mb (q + i) 0 L M 64 (.slice (some ⟨b, 0, none⟩) 64 64)
  wid : ∀ j, j < i → wr.cell? ⟨b, j, none⟩ = some (.int .u8 (c.D (q + j)))
theorem readByte_at (c : RC) (o : Nat) (w : World) (h : RS c w o 0) (ho : o < c.L) :
    Calls Tryz.prog 54 #[.pointer (some ⟨c.B, 0, none⟩)] w fun e w' =>
      e = .returned (.tuple #[.int .u8 (c.D o), .nilIface]) ∧ Chg (Own c.B) w w' ∧ NS c w' (o + 1) 0 := by
  have := readByte_ok c o 0 w h (by simpa using ho)
  simpa using this
theorem MB.cells {w : World} {mb M b : Nat} (h : MB w mb M 64 (.slice (some ⟨b, 0, none⟩) 64 64)) : (∀ j, j < 64 → ∃ u, w.cell? ⟨b, j, none⟩ = some u) ∧ (∀ j, w.frozen? ⟨b, j, none⟩ = false) ∧ b ≠ mb := by
  rcases h.vv with ⟨-, -, h1⟩ | ⟨-, -, -, x, hx, h5, h6, h7⟩
  · cases h1
  · injection hx with hx; injection hx with hx; injection hx with hx; subst hx; exact ⟨h6, h7, h5⟩
theorem IB.after {c : RC} {w wr w6 : World} {d mb b q M : Nat} {L : List Value} {n : Nat} (h : IB c w wr d mb b q M L n) (hn : n < 64) (h1 : Chg (Own c.B) wr.drew.drew w6) (h2 : NS c w6 (q + n + 1) 0) :
    (∃ u, w6.cell? ⟨b, n, none⟩ = some u) ∧ w6.frozen? ⟨b, n, none⟩ = false ∧ IB c w (w6.setCell ⟨b, n, none⟩ (.int .u8 (c.D (q + n)))) d mb b q M L (n + 1) := by
  have hX := h.dx.drew.drew.read h1 h2.rs
  obtain ⟨g1, g2, g3⟩ := hX.wb.cells
  obtain ⟨u, hu⟩ := g1 n hn
  obtain ⟨b1, b2, b3, b4, b5⟩ := hX.bvn b rfl
  have hc := (Chg.refl (Own b) w6).own n (.int .u8 (c.D (q + n)))
  refine ⟨⟨u, hu⟩, g2 n, ((h.chg.drew.drew.comp h1 (fun _ _ _ e => e) (fun _ _ _ e => .inr (.inr (.inl e)))).setCell _ _ (fun _ => .inr (.inr (.inr (.inr rfl)))) _), ?_, ?_⟩
  · refine ⟨hX.row.keep hX.dlt hc (fun x e => b1 e.symm), hc.lt hX.dlt, ?_, ⟨hc.keep hX.wb.bu (fun e => g3 e.symm), hc.keep hX.wb.le (fun e => g3 e.symm), hc.keep hX.wb.me (fun e => g3 e.symm), fun j => by rw [World.frozen?_setCell]; exact hX.wb.fr j, ?_⟩, hX.dB, hX.dr, hX.db, hX.gd, hX.dm, hX.mB, hX.mr, hX.mbb, hX.gm, hX.bvn⟩
    · have := hX.rs.keep hc (by intro a x e; have e' : a = b := e; rw [e']; exact ⟨b4, b3, b2, b5⟩)
      rwa [Nat.add_assoc] at this
    · rcases hX.wb.vv with ⟨-, -, e⟩ | ⟨e1, e2, e3, -⟩
      · cases e
      · exact .inr ⟨e1, e2, e3, b, rfl, g3, fun j hj => cell_is _ (g1 j hj), fun j => by rw [World.frozen?_setCell]; exact g2 j⟩
  · intro j hj
    by_cases hjn : j = n
    · subst hjn; exact World.cell?_setCell_same _ _ _ hu
    · exact cell_ne _ (h1.keep (show wr.drew.drew.cell? _ = _ from h.wid j (by omega)) (fun e => b2 e)) (by omega)
set_option maxRecDepth 100000 in
set_option maxHeartbeats 1000000 in
theorem initBlock_ok (c : RC) (w : World) (d mb o f q k zz S M ln bl : Nat) (nv : Int) (data : Value) (uf : Bool) (cbv vpm cmb md mbi w8 tot last : Int) (mbv dbuf bv : Value)
    (h : DX c w d mb o f (dl nv data uf (.pointer (some ⟨c.B, 0, none⟩)) S cbv M vpm cmb md mbi (.pointer (some ⟨mb, 0, none⟩)) w8 tot last mbv dbuf) ln bl bv) (hof : o + (f + 7) / 8 = q)
    (hln : ln = 0 ∨ ln = M) (hk : Leb c.D q k zz) (hq : q + k + M ≤ c.L) (hM : 1 ≤ M) (hM2 : M < 64) (hS : S ≤ 4294967295) (hz1 : -2147483648 ≤ unzig zz) (hz2 : unzig zz ≤ 2147483647) :
    Calls Tryz.prog 47 #[.pointer (some ⟨d, 0, none⟩)] w fun e w' =>
      e = .returned .nilIface ∧ ∃ b, (ln = M → bv = .slice (some ⟨b, 0, none⟩) 64 64) ∧ (ln = 0 → w.heap.size ≤ b) ∧ Chg (DT c d mb b) w w' ∧
        DX c w' d mb (q + k + M) 0 (dl nv data uf (.pointer (some ⟨c.B, 0, none⟩)) S S M vpm cmb (unzig zz) 0 (.pointer (some ⟨mb, 0, none⟩)) (c.D (q + k)) tot last mbv dbuf) M 64 (.slice (some ⟨b, 0, none⟩) 64 64) ∧
        ∀ j, j < M → w'.cell? ⟨b, j, none⟩ = some (.int .u8 (c.D (q + k + j))) := by
  have p5 := h.row.at 5 rfl
  have p11 := h.row.at 11 rfl
  have p11f := h.row.fr 11
  have hcall := getZigZag_ok c o f k zz w h.rs (by rw [hof]; exact hk) (by omega)
  rw [hof] at hcall
  have Hcall := Lib.hid hcall; clear hcall hof
  have H := Lib.hid h; clear h hk
  go_enter Tryz.func47, Tryz.ntmps47
  go_wp2_with fail
  refine Hcall.out.mono ?_
  rintro e w1 ⟨rfl, h1, h2⟩
  have hX := H.out.read h1 h2.rs
  have hX2 := hX.put 11 (.int .i64 (unzig zz))
  have hc2 : Chg (fun k _ => k = d ∨ k = c.B) w (w1.setCell ⟨d, 11, none⟩ (.int .i64 (unzig zz))) := (h1.mono (fun k _ _ hh => .inr hh)).setCell _ _ (fun _ => .inl rfl) _
  clear p5 p11 p11f
  have p11 := hX.row.at 11 rfl
  have p11f := hX.row.fr 11
  have p13 := hX.row.at 13 rfl
  have p8 := hX.row.at 8 rfl
  have HX2 := Lib.hid hX2; clear hX2
  have Hc2 := Lib.hid hc2; clear hc2
  obtain ⟨Z, hZ⟩ : ∃ Z, Z = unzig zz := ⟨_, rfl⟩
  rw [← hZ] at hz1 hz2 HX2 Hc2 ⊢
  have HZ := Lib.hid hZ; clear hZ
  have hz1' : ¬ Z < -2147483648 := by omega
  clear hX h1 h2 Hcall
  go_wp2_with fail
  refine (isInt32_ok _).mono ?_
  rintro e w3 ⟨rfl, rfl⟩
  go_wp2_with fail
  generalize w1.setCell ⟨d, 11, none⟩ (.int .i64 Z) = w4 at HX2 Hc2 ⊢
  clear p11 p11f p13 p8
  have p8 := HX2.out.row.at 8 rfl
  have p13 := HX2.out.row.at 13 rfl
  have hMi : IntKind.i64.wrap (M : Int) = M := IntWalk.i64_in _ (by omega)
  (refine wp_region_txt [] (by kernel_rfl) (by kernel_rfl) ?_; repeat (first | (refine wpTxt_pure rfl rfl (fun K hK => ?_); go_simp; refine hK _ ?_; clear hK K) | (refine wpTxt_still rfl rfl (fun K hK => ?_); go_simp; refine hK _ ?_; clear hK K)))
  (refine wpTxt_effect rfl rfl (fun K hK => ?_); go_simp)
  refine (resize_ok _ mb ln bl M bv HX2.out.drew.wb hM (by omega) hln).mono ?_
  rintro e w5 ⟨rfl, h3, b, hb1, hb2, h4⟩
  have hmbl : mb < w4.heap.size := World.block_lt_of_cell? w4 _ HX2.out.wb.bu
  have hbn : b ≠ d ∧ b ≠ c.B ∧ b ≠ c.rb ∧ b ≠ c.b ∧ 4 < b := by
    rcases hln with h0 | h0
    · have h5 : w4.heap.size ≤ b := hb2 h0
      have := HX2.out.dlt
      have := HX2.out.rs.lt
      have := HX2.out.rs.rlt
      have := HX2.out.rs.blt (by omega)
      have := HX2.out.gd
      exact ⟨by omega, by omega, by omega, by omega, by omega⟩
    · exact HX2.out.bvn b (hb1 h0)
  have hsz := Hc2.out.size
  have hX5 : DX c w5 d mb (q + k) 0 ((dl nv data uf (.pointer (some ⟨c.B, 0, none⟩)) S cbv M vpm cmb md mbi (.pointer (some ⟨mb, 0, none⟩)) w8 tot last mbv dbuf).set 11 (.int .i64 Z)) M 64 (.slice (some ⟨b, 0, none⟩) 64 64) := by
    have h3' := h3.undrew
    have hx := HX2.out
    exact ⟨hx.row.keep hx.dlt h3' (fun x e => hx.dm e), h3'.lt hx.dlt, hx.rs.keep h3' (by intro a x e; have e' : a = mb := e; rw [e']; exact ⟨hx.mbb, hx.mr, hx.mB, hx.gm⟩), h4, hx.dB, hx.dr, hx.db, hx.gd, hx.dm, hx.mB, hx.mr, hx.mbb, hx.gm, fun x e => by injection e with e; injection e with e; injection e with e; subst e; exact hbn⟩
  have hc5 : Chg (DT c d mb b) w w5 := Hc2.out.comp h3.undrew (fun _ _ _ h => by rcases h with h | h; exact .inl h; exact .inr (.inr (.inl h))) (fun _ _ _ h => .inr (.inl h))
  have hI : IB c w w5 d mb b (q + k) M ((dl nv data uf (.pointer (some ⟨c.B, 0, none⟩)) S cbv M vpm cmb md mbi (.pointer (some ⟨mb, 0, none⟩)) w8 tot last mbv dbuf).set 11 (.int .i64 Z)) 0 := ⟨hc5, hX5, fun j hj => by omega⟩
  have HI := Lib.hid hI; clear hI hX5 hc5 h3 h4
  have Hb2 : Hid (ln = 0 → w.heap.size ≤ b) := fun h0 => Nat.le_trans hsz (hb2 h0)
  have Hb1 := Lib.hid hb1; clear hb1 hb2
  clear p8 p13
  (refine hK _ _ ?_; clear hK K)
  refine wpTxt_nil ?_
  go_wp2_with fail
  go_loopw [4, 5] (fun er i wr => ∃ n : Nat, n ≤ M ∧ er = .nilIface ∧ i = .int .u64 n ∧ IB c w wr d mb b (q + k) M ((dl nv data uf (.pointer (some ⟨c.B, 0, none⟩)) S cbv M vpm cmb md mbi (.pointer (some ⟨mb, 0, none⟩)) w8 tot last mbv dbuf).set 11 (.int .i64 Z)) n) (fun _ i _ => M - (intOf i).toNat)
  case atStart => exact ⟨0, Nat.zero_le _, rfl, rfl, HI.out⟩
  case round =>
    clear HI
    obtain ⟨n, hn, rfl, rfl, hI⟩ := hrel
    have p8 := hI.dx.row.at 8 rfl
    have p5 := hI.dx.row.at 5 rfl
    have p13 := hI.dx.row.at 13 rfl
    have HI := Lib.hid hI; clear hI
    by_cases hlt : n < M
    · go_upto_region 12 with fail
      go_cut [4] (fun er wx => er = .nilIface ∧ IB c w wx d mb b (q + k) M ((dl nv data uf (.pointer (some ⟨c.B, 0, none⟩)) S cbv M vpm cmb md mbi (.pointer (some ⟨mb, 0, none⟩)) w8 tot last mbv dbuf).set 11 (.int .i64 Z)) (n + 1))
      case first =>
        have Hcall := Lib.hid (fun W hW => readByte_at c (q + k + n) W hW (by omega))
        have hb1 : b ≠ c.B := hbn.2.1
        have hnl : (n : Int) < M := by omega
        go_region_with (first
          | (go_at_call 55; refine (bufBytes_ok _ mb M b (by exact HI.out.dx.drew.wb) hM hM2).mono ?_; rintro e w6 ⟨rfl, rfl⟩)
          | (go_at_call 54; refine (Hcall.out _ (by exact HI.out.dx.drew.drew.rs)).mono ?_; rintro e w6 ⟨rfl, h1, h2⟩; have hbw := IB.after HI.out (by omega) h1 h2; have hbc := hbw.1; obtain ⟨u, hu⟩ := hbc; have hbf := hbw.2.1; have HB6 := Lib.hid hbw.2.2; clear hbw h1 h2))
        all_goals (go_wp2_with fail; go_meet; exact ⟨rfl, HB6.out⟩)
      case rest =>
        obtain ⟨rfl, hI1⟩ := hcut
        have HI1 := Lib.hid hI1; clear hI1
        go_wp2_with fail
        go_roundw
        case rel => exact ⟨n + 1, by omega, rfl, by go_num, HI1.out⟩
        case measure => simp [intOf]; omega
    · have hne : n = M := by omega
      subst hne
      have p12 := HI.out.dx.row.at 12 rfl
      have p12f := HI.out.dx.row.fr 12
      have p14 := HI.out.dx.row.at 14 rfl
      have p14f := HI.out.dx.row.fr 14
      have p6 := HI.out.dx.row.at 6 rfl
      have p7 := HI.out.dx.row.at 7 rfl
      have p7f := HI.out.dx.row.fr 7
      have hw0 := HI.out.wid 0 (by omega)
      have hb0 := hbn.1
      have hX := HI.out.dx.put 12 (.int .u64 0)
      have HX := Lib.hid hX
      have hwb := hX.wb
      have Hwb := Lib.hid hwb
      clear hX hwb
      go_wp2_with fail
      refine (bufBytes_ok _ mb n b (by exact Hwb.out) hM hM2).mono ?_
      rintro e w6 ⟨rfl, rfl⟩
      have hSw : IntKind.u32.wrap (S : Int) = S := by simp [IntKind.wrap, IntKind.bits, IntKind.signed]; omega
      go_wp2_with fail
      go_ret
      have hZ := HZ.out
      subst hZ
      have hx := HI.out
      refine ⟨rfl, b, Hb1.out, Hb2.out, (((hx.chg.setCell _ _ (fun _ => .inl rfl) _).setCell _ _ (fun _ => .inl rfl) _).setCell _ _ (fun _ => .inl rfl) _).drew, (((hx.dx.put 12 (.int .u64 0)).put 14 (.int .u8 (c.D (q + k)))).put 7 (.int .u32 S)).drew, fun j hj => ?_⟩
      exact cell_ne _ (cell_ne _ (cell_ne _ (hx.wid j hj) (fun e => hb0 e.1)) (fun e => hb0 e.1)) (fun e => hb0 e.1)
end Go.Proofs.YtaageikelkcphaaGreatDoor
/- The decoder of deltas: a mini block. -/
namespace Go.Proofs.YtaageikelkcphaaGreatDoor
open Go Go.RowKit
theorem cell_is2 {w : World} {A x B y : Nat} (u : Value) (h : ∃ v, w.cell? ⟨B, y, none⟩ = some v) : ∃ v, (w.setCell ⟨A, x, none⟩ u).cell? ⟨B, y, none⟩ = some v := by
  obtain ⟨v, hv⟩ := h
  by_cases e : B = A ∧ y = x
  · obtain ⟨rfl, rfl⟩ := e
    exact ⟨u, World.cell?_setCell_same _ _ _ hv⟩
  · exact ⟨v, cell_ne _ hv e⟩
/-- Blocks that one owns, behind a call: those, and new ones. -/
def Grow (O : Nat → Prop) (w : World) (O' : Nat → Prop) : Prop := ∀ a, O' a → O a ∨ w.heap.size ≤ a
theorem Grow.refl (O : Nat → Prop) (w : World) : Grow O w O := fun _ h => .inl h
theorem Grow.trans {O O1 O2 : Nat → Prop} {w w1 : World} (h : Grow O w O1) (k : Grow O1 w1 O2) (hs : w.heap.size ≤ w1.heap.size) : Grow O w O2 := fun a ha => (k a ha).elim (h a) (fun e => .inr (by omega))
/-- A row of cells of the decoder's own: a block of its own with cap cells, of which len are in use. -/
structure OwnV (c : RC) (w : World) (d mb : Nat) (bv v : Value) (len cap vb : Nat) : Prop where
  v : v = .slice (some ⟨vb, 0, none⟩) len cap
  le : len ≤ cap
  lt : vb < w.heap.size
  cel : ∀ j, j < cap → ∃ u, w.cell? ⟨vb, j, none⟩ = some u
  fr : ∀ j, w.frozen? ⟨vb, j, none⟩ = false
  nd : vb ≠ d
  nm : vb ≠ mb
  nw : ∀ b, bv = .slice (some ⟨b, 0, none⟩) 64 64 → vb ≠ b
  nB : vb ≠ c.B
  nr : vb ≠ c.rb
  nb : vb ≠ c.b
  g : 4 < vb
theorem OwnV.keep {c : RC} {w w' : World} {d mb : Nat} {bv v : Value} {len cap vb : Nat} (h : OwnV c w d mb bv v len cap vb) {S : Nat → Nat → Prop} (hc : Chg S w w') (hS : ∀ x, ¬ S vb x) : OwnV c w' d mb bv v len cap vb :=
  ⟨h.v, h.le, hc.lt h.lt, fun j hj => let ⟨u, hu⟩ := h.cel j hj; ⟨u, hc.keep hu (hS j)⟩, fun j => (hc.frozen _ _ h.lt).trans (h.fr j), h.nd, h.nm, h.nw, h.nB, h.nr, h.nb, h.g⟩
/-- Its cells may turn. -/
theorem OwnV.chg {c : RC} {w w' : World} {d mb : Nat} {bv v : Value} {len cap vb : Nat} (h : OwnV c w d mb bv v len cap vb) {S : Nat → Nat → Prop} (hc : Chg S w w') (hS : ∀ x, S vb x → x < cap → ∃ u, w'.cell? ⟨vb, x, none⟩ = some u) : OwnV c w' d mb bv v len cap vb :=
  ⟨h.v, h.le, hc.lt h.lt, fun j hj => by
    by_cases hs : S vb j
    · exact hS j hs hj
    · obtain ⟨u, hu⟩ := h.cel j hj
      exact ⟨u, hc.keep hu hs⟩, fun j => (hc.frozen _ _ h.lt).trans (h.fr j), h.nd, h.nm, h.nw, h.nB, h.nr, h.nb, h.g⟩
theorem OwnV.put {c : RC} {w : World} {d mb : Nat} {bv v : Value} {len cap vb : Nat} (h : OwnV c w d mb bv v len cap vb) (a x : Nat) (u : Value) : OwnV c (w.setCell ⟨a, x, none⟩ u) d mb bv v len cap vb :=
  ⟨h.v, h.le, by simpa using h.lt, fun j hj => cell_is2 u (h.cel j hj), fun j => by rw [World.frozen?_setCell]; exact h.fr j, h.nd, h.nm, h.nw, h.nB, h.nr, h.nb, h.g⟩
/-- Another length. -/
theorem OwnV.len {c : RC} {w : World} {d mb : Nat} {bv v : Value} {len cap vb : Nat} (h : OwnV c w d mb bv v len cap vb) (n : Nat) (hn : n ≤ cap) : OwnV c w d mb bv (.slice (some ⟨vb, 0, none⟩) n cap) n cap vb :=
  ⟨rfl, hn, h.lt, h.cel, h.fr, h.nd, h.nm, h.nw, h.nB, h.nr, h.nb, h.g⟩
/-- Blocks that are a decoder's own, and its two rows. -/
structure Scr (O : Nat → Prop) (c : RC) (w : World) (d mb : Nat) (bv mbv dbuf : Value) (n : Nat) : Prop where
  od : O d
  oB : O c.B
  or : O c.rb
  om : O mb
  ob : ∀ b, bv = .slice (some ⟨b, 0, none⟩) 64 64 → O b
  lt : ∀ a, O a → a < w.heap.size
  nb : ¬ O c.b
  gt : ∀ a, O a → 4 < a
  mv : mbv = .slice none 0 0 ∨ ∃ vb len, O vb ∧ OwnV c w d mb bv mbv len n vb
  dv : dbuf = .slice none 0 0 ∨ ∃ gb, O gb ∧ OwnV c w d mb bv dbuf n n gb
  ne : ∀ x y l1 c1 l2 c2, mbv = .slice (some ⟨x, 0, none⟩) l1 c1 → dbuf = .slice (some ⟨y, 0, none⟩) l2 c2 → x ≠ y
end Go.Proofs.YtaageikelkcphaaGreatDoor
/- The decoder of deltas: the next mini block. -/
namespace Go.Proofs.YtaageikelkcphaaGreatDoor
open Go Go.RowKit
theorem make_i32 (n : Nat) (h2 : n ≤ 1000000) : ∀ W : World, (Instr.makeSlice 61 (.int .i64 0) (.int .i64 (n : Int))).run Tryz.prog W = .ok (.slice (some ⟨W.heap.size, 0, none⟩) 0 n) (W.alloc (.cells (madeCells #[.int .i32 0] n) 21)) := by
  intro W
  obtain ⟨i, hi⟩ : ∃ i, Tryz.prog.info? 21 = some i := Option.isSome_iff_exists.1 (by kernel_rfl)
  have hs : (Tryz.prog.info? 21).map (fun i => (i.zero, i.size, i.bytes)) = some (some (.int .i32 0), 1, 4) := by kernel_rfl
  simp only [hi, Option.map_some, Option.some.injEq, Prod.mk.injEq] at hs
  have h := run_make (P := Tryz.prog) W 61 21 i (.int .i32 0) (by kernel_rfl) hi hs.1 .i64 .i64 0 n (Int.le_refl _) (by omega) (by rw [hs.2.2]; omega) (by omega)
  rw [h]
  simp [hs.2.1, Value.cells]
theorem make_U64 (n : Nat) (h2 : n ≤ 1000000) : ∀ W : World, (Instr.makeSlice 73 (.int .i64 (n : Int)) (.int .i64 (n : Int))).run Tryz.prog W = .ok (.slice (some ⟨W.heap.size, 0, none⟩) n n) (W.alloc (.cells (madeCells #[.int .u64 0] n) 70)) :=
  fun W => run_make_row' (P := Tryz.prog) 73 70 (.int .u64 0) 8 (by kernel_rfl) (by kernel_rfl) rfl .i64 .i64 n (by omega) (by omega) W
theorem i32s_nil (W : World) : (binOp .eql 61 (.slice none 0 0) (.slice none 0 0)).run Tryz.prog W = .ok (.bool true) W := by kernel_rfl
theorem i32s_not_nil (a : Addr) (n c : Nat) (W : World) : (binOp .eql 61 (.slice (some a) n c) (.slice none 0 0)).run Tryz.prog W = .ok (.bool false) W := by kernel_rfl
theorem DX.new {c : RC} {w w' : World} {d mb o f : Nat} {L : List Value} {ln bl : Nat} {bv : Value} (h : DX c w d mb o f L ln bl bv) (hc : Chg Nix w w') : DX c w' d mb o f L ln bl bv :=
  ⟨h.row.keep h.dlt hc (fun x e => e), hc.lt h.dlt, h.rs.keep hc (fun _ _ e => e.elim), h.wb.keep hc (fun x e => e) (fun b x e1 e2 => e2), h.dB, h.dr, h.db, h.gd, h.dm, h.mB, h.mr, h.mbb, h.gm, h.bvn⟩
/-- A row of one's own turns. -/
theorem DX.other {c : RC} {w w' : World} {d mb o f : Nat} {L : List Value} {ln bl : Nat} {bv v : Value} {len cap vb : Nat} (h : DX c w d mb o f L ln bl bv) (ho : OwnV c w d mb bv v len cap vb) {S : Nat → Nat → Prop} (hc : Chg S w w') (hS : ∀ k x, S k x → k = vb) : DX c w' d mb o f L ln bl bv :=
  ⟨h.row.keep h.dlt hc (fun x e => ho.nd (hS _ _ e).symm), hc.lt h.dlt, h.rs.keep hc (fun k x e => by have := hS _ _ e; subst this; exact ⟨ho.nb, ho.nr, ho.nB, ho.g⟩), h.wb.keep hc (fun x e => ho.nm (hS _ _ e).symm) (fun b x e1 e2 => ho.nw b e1 (hS _ _ e2).symm), h.dB, h.dr, h.db, h.gd, h.dm, h.mB, h.mr, h.mbb, h.gm, h.bvn⟩
theorem fresh_frozenL {w : World} {cs : Array Value} {t : TypeId} {n : Nat} (hn : n = w.heap.size) (j : Nat) : (w.alloc (.cells cs t)).frozen? ⟨n, j, none⟩ = false := by
  subst hn; simp
/-- Where the blocks of a decoder lie. -/
theorem DX.lts {c : RC} {w : World} {d mb o f : Nat} {L : List Value} {ln bl : Nat} {bv : Value} (h : DX c w d mb o f L ln bl bv) (hL : 0 < c.L) : c.B < w.heap.size ∧ c.rb < w.heap.size ∧ c.b < w.heap.size ∧ mb < w.heap.size := by
  exact ⟨h.rs.lt, h.rs.rlt, h.rs.blt hL, World.block_lt_of_cell? w _ h.wb.bu⟩
theorem DX.blt {c : RC} {w : World} {d mb o f : Nat} {L : List Value} {ln b : Nat} (h : DX c w d mb o f L ln 64 (.slice (some ⟨b, 0, none⟩) 64 64)) : b < w.heap.size := by
  obtain ⟨u, hu⟩ := h.wb.cells.1 0 (by omega)
  exact World.block_lt_of_cell? w _ hu
/-- A block that was made. -/
theorem OwnV.made {c : RC} {w w1 : World} {d mb o f b ln : Nat} {L : List Value} {n : Nat} (z : Value) (t : TypeId) (h : DX c w d mb o f L ln 64 (.slice (some ⟨b, 0, none⟩) 64 64)) (hL : 0 < c.L) (hw : w1 = w.alloc (.cells (madeCells #[z] n) t)) (m : Nat) (hm : m ≤ n) {g : Nat} (hg : g = w.heap.size) :
    OwnV c w1 d mb (.slice (some ⟨b, 0, none⟩) 64 64) (.slice (some ⟨g, 0, none⟩) m n) m n g := by
  subst hg
  obtain ⟨l1, l2, l3, l4⟩ := h.lts hL
  have l5 := h.blt
  have l6 := h.dlt
  have l7 := h.gd
  subst hw
  refine ⟨rfl, hm, by simp, fun j hj => ⟨z, made_cell w z n j t hj⟩, fun j => fresh_frozenL rfl j, by omega, by omega, fun b' e => ?_, by omega, by omega, by omega, by omega⟩
  injection e with e
  injection e with e
  injection e with e
  omega
/-- Behind k numbers of a mini block. -/
structure UM (T : Nat → Prop) (c : RC) (w wr : World) (d mb b : Nat) (X : Nat → Int) (vb n : Nat) (LX : Int → Value → List Value) (M o f k : Nat) : Prop where
  chg : Chg (fun a _ => T a) w wr
  dx : DX c wr d mb o f (LX (X k) (.slice (some ⟨vb, 0, none⟩) k n)) M 64 (.slice (some ⟨b, 0, none⟩) 64 64)
  own : OwnV c wr d mb (.slice (some ⟨b, 0, none⟩) 64 64) (.slice (some ⟨vb, 0, none⟩) k n) k n vb
  vals : ∀ j, j < k → wr.cell? ⟨vb, j, none⟩ = some (.int .i32 (RowKit.wrap32 (X (j + 1))))
/-- The list of a decoder's cells, by what the loops write. -/
def LU (nv : Int) (data bd : Value) (S cbv M n md i : Int) (mb : Value) (w8 tot : Int) (dbuf : Value) (last : Int) (mbv : Value) : List Value :=
  dl nv data true bd S cbv M n n md i mb w8 tot last mbv dbuf
theorem UM.drew {T : Nat → Prop} {c : RC} {w wr : World} {d mb b : Nat} {X : Nat → Int} {vb n M o f k : Nat} {LX : Int → Value → List Value} (h : UM T c w wr d mb b X vb n LX M o f k) : UM T c w wr.drew d mb b X vb n LX M o f k :=
  ⟨h.chg.drew, h.dx.drew, h.own.keep ((Chg.refl Nix wr).drew) (fun _ e => e), h.vals⟩
/-- A number more. -/
theorem UM.step {T : Nat → Prop} {c : RC} {w wr : World} {d mb b : Nat} {X : Nat → Int} {vb n M o f k : Nat} {nv : Int} {data bd : Value} {S cbv Mv n' md i : Int} {mbp : Value} {w8 tot : Int} {dbuf : Value} (h : UM T c w wr d mb b X vb n (LU nv data bd S cbv Mv n' md i mbp w8 tot dbuf) M o f k) (hk : k < n) (hO : T d) (hTv : T vb)
    (w1 : World) (h1 : w1 = wr.setCell ⟨d, 16, none⟩ (.int .i64 (X (k + 1))) ∨ w1 = (wr.setCell ⟨d, 16, none⟩ (.int .i64 (X (k + 1)))).drew) :
    w1.cell? ⟨d, 16, none⟩ = some (.int .i64 (X (k + 1))) ∧ w1.cell? ⟨d, 17, none⟩ = some (.slice (some ⟨vb, 0, none⟩) k n) ∧ w1.frozen? ⟨d, 17, none⟩ = false ∧ d ≠ vb ∧ d < w1.heap.size ∧ vb < w1.heap.size ∧ (∃ u, w1.cell? ⟨vb, k, none⟩ = some u) ∧ w1.frozen? ⟨vb, k, none⟩ = false ∧
    ∀ x, UM T c w (((w1.setCell ⟨vb, k, none⟩ (.int .i32 (RowKit.wrap32 (X (k + 1))))).setCell ⟨d, 17, none⟩ (.slice (some ⟨vb, 0, none⟩) (k + 1) n)).alloc x).drew d mb b X vb n (LU nv data bd S cbv Mv n' md i mbp w8 tot dbuf) M o f (k + 1) ∧ Chg (fun a _ => a = d ∨ a = vb) wr (((w1.setCell ⟨vb, k, none⟩ (.int .i32 (RowKit.wrap32 (X (k + 1))))).setCell ⟨d, 17, none⟩ (.slice (some ⟨vb, 0, none⟩) (k + 1) n)).alloc x).drew := by
  have hx0 : DX c w1 d mb o f ((LU nv data bd S cbv Mv n' md i mbp w8 tot dbuf (X k) (.slice (some ⟨vb, 0, none⟩) k n)).set 16 (.int .i64 (X (k + 1)))) M 64 (.slice (some ⟨b, 0, none⟩) 64 64) := by
    rcases h1 with rfl | rfl
    · exact h.dx.put 16 _
    · exact (h.dx.put 16 _).drew
  have hw0 : Chg (Own d) wr w1 := by
    rcases h1 with rfl | rfl
    · exact (Chg.refl (Own d) wr).own 16 _
    · exact ((Chg.refl (Own d) wr).own 16 _).drew
  have ho0 := h.own.keep hw0 (fun _ e => h.own.nd e)
  have e1 : Chg (fun a _ => a = d ∨ a = vb) wr w1 := hw0.mono (fun a _ _ (e : a = d) => Or.inl e)
  have e2 := e1.setCell vb k (fun _ => Or.inr rfl) (.int .i32 (RowKit.wrap32 (X (k + 1))))
  have e3 := e2.setCell d 17 (fun _ => Or.inl rfl) (.slice (some ⟨vb, 0, none⟩) (k + 1) n)
  refine ⟨hx0.row.at 16 rfl, hx0.row.at 17 rfl, hx0.row.fr 17, h.own.nd.symm, hx0.dlt, ho0.lt, ho0.cel k hk, ho0.fr k, fun x => ⟨?_, (e3.alloc x).drew⟩⟩
  clear e1 e2 e3
  clear h1
  have hx1 := hx0
  have hw1 : Chg (Own d) wr w1 := hw0
  have ho1 := h.own.keep hw1 (fun _ e => h.own.nd e)
  have hw2 : Chg (Own vb) w1 (w1.setCell ⟨vb, k, none⟩ (.int .i32 (RowKit.wrap32 (X (k + 1))))) := (Chg.refl _ _).own k _
  have hx2 := hx1.other ho1 hw2 (fun _ _ e => e)
  have ho2 := ho1.put vb k (.int .i32 (RowKit.wrap32 (X (k + 1))))
  obtain ⟨u, hu⟩ := ho1.cel k hk
  have hc2 : (w1.setCell ⟨vb, k, none⟩ (.int .i32 (RowKit.wrap32 (X (k + 1))))).cell? ⟨vb, k, none⟩ = some (.int .i32 (RowKit.wrap32 (X (k + 1)))) := World.cell?_setCell_same _ _ _ hu
  have hv2 : ∀ j, j < k + 1 → (w1.setCell ⟨vb, k, none⟩ (.int .i32 (RowKit.wrap32 (X (k + 1))))).cell? ⟨vb, j, none⟩ = some (.int .i32 (RowKit.wrap32 (X (j + 1)))) := by
    intro j hj
    by_cases hjk : j = k
    · subst hjk; exact hc2
    · exact cell_ne _ (hw1.keep (h.vals j (by omega)) (fun e => h.own.nd e)) (by omega)
  have hsz := h.chg.size
  have hwO : Chg (fun a _ => T a) w (w1.setCell ⟨vb, k, none⟩ (.int .i32 (RowKit.wrap32 (X (k + 1))))) :=
    (h.chg.comp hw1 (fun a x _ e => e) (fun a x _ (e : a = d) => (e ▸ hO))).comp hw2 (fun _ _ _ e => e) (fun a x _ (e : a = vb) => e ▸ hTv)
  generalize (w1.setCell ⟨vb, k, none⟩ (.int .i32 (RowKit.wrap32 (X (k + 1))))) = w2 at *
  have hw3 : Chg (Own d) w2 (w2.setCell ⟨d, 17, none⟩ (.slice (some ⟨vb, 0, none⟩) (k + 1) n)) := (Chg.refl _ _).own 17 _
  have hU : UM T c w (w2.setCell ⟨d, 17, none⟩ (.slice (some ⟨vb, 0, none⟩) (k + 1) n)) d mb b X vb n (LU nv data bd S cbv Mv n' md i mbp w8 tot dbuf) M o f (k + 1) := ⟨hwO.setCell _ _ (fun _ => hO) _, hx2.put 17 _, (ho2.len (k + 1) (by omega)).keep hw3 (fun _ e => h.own.nd e), fun j hj => hw3.keep (hv2 j hj) (fun e => h.own.nd e)⟩
  generalize (w2.setCell ⟨d, 17, none⟩ (.slice (some ⟨vb, 0, none⟩) (k + 1) n)) = w3 at hU
  have hn : Chg Nix w3 (w3.alloc x).drew := ((Chg.refl Nix w3).alloc x).drew
  exact ⟨(hU.chg.alloc x).drew, hU.dx.new hn, hU.own.keep hn (fun _ e => e), fun j hj => hn.keep (hU.vals j hj) (fun e => e)⟩
theorem UM.dbuf {T : Nat → Prop} {c : RC} {w wr : World} {d mb b : Nat} {X : Nat → Int} {vb n M o f k : Nat} {nv : Int} {data bd : Value} {S cbv Mv n' md i : Int} {mbp : Value} {w8 tot : Int} {dbuf : Value} (h : UM T c w wr d mb b X vb n (LU nv data bd S cbv Mv n' md i mbp w8 tot dbuf) M o f k) (hO : T d) (v : Value) :
    UM T c w (wr.setCell ⟨d, 18, none⟩ v) d mb b X vb n (LU nv data bd S cbv Mv n' md i mbp w8 tot v) M o f k := by
  have hc : Chg (Own d) wr (wr.setCell ⟨d, 18, none⟩ v) := (Chg.refl _ _).own 18 _
  exact ⟨h.chg.setCell _ _ (fun _ => hO) _, h.dx.put 18 v, h.own.keep hc (fun _ e => h.own.nd e), fun j hj => hc.keep (h.vals j hj) (fun e => h.own.nd e)⟩
theorem UM.new {T : Nat → Prop} {c : RC} {w wr w' : World} {d mb b : Nat} {X : Nat → Int} {vb n M o f k : Nat} {LX : Int → Value → List Value} (h : UM T c w wr d mb b X vb n LX M o f k) (hc : Chg Nix wr w') : UM T c w w' d mb b X vb n LX M o f k :=
  ⟨h.chg.comp hc (fun _ _ _ e => e) (fun _ _ _ e => e.elim), h.dx.new hc, h.own.keep hc (fun _ e => e), fun j hj => hc.keep (h.vals j hj) (fun e => e)⟩
/-- Behind a batch of deltas. -/
theorem UM.batch {T : Nat → Prop} {c : RC} {w wr w' : World} {d mb b gb : Nat} {X : Nat → Int} {vb n M o f o' f' : Nat} {LX : Int → Value → List Value} (h : UM T c w wr d mb b X vb n LX M o f 0) {len cap : Nat} {gv : Value} (hg : OwnV c wr d mb (.slice (some ⟨b, 0, none⟩) 64 64) gv len cap gb) (hvg : gb ≠ vb) (hc : Chg (GT c gb 0 n) wr w') (hr : RS c w' o' f') (hTB : T c.B) (hTr : T c.rb) (hTg : T gb) : UM T c w w' d mb b X vb n LX M o' f' 0 := by
  have hx := h.dx
  have hS : ∀ k x, GT c gb 0 n k x → k = c.B ∨ k = c.rb ∨ k = gb := fun k x e => e.elim .inl (fun e => e.elim (fun e => .inr (.inl e.1)) (fun e => .inr (.inr e.1)))
  have hne : ∀ k, k ≠ c.B → k ≠ c.rb → k ≠ gb → ∀ x, ¬ GT c gb 0 n k x := fun k h1 h2 h3 x e => (hS k x e).elim h1 (fun e => e.elim h2 h3)
  refine ⟨h.chg.comp hc (fun _ _ _ e => e) (fun a x _ e => (hS a x e).elim (fun e => e ▸ hTB) (fun e => e.elim (fun e => e ▸ hTr) (fun e => e ▸ hTg))), ?_, h.own.keep hc (hne _ h.own.nB h.own.nr hvg.symm), fun j hj => by omega⟩
  exact ⟨hx.row.keep hx.dlt hc (hne _ hx.dB hx.dr hg.nd.symm), hc.lt hx.dlt, hr, hx.wb.keep hc (hne _ hx.mB hx.mr hg.nm.symm) (fun b' x e => hne b' (hx.bvn b' e).2.1 (hx.bvn b' e).2.2.1 (hg.nw b' e).symm x), hx.dB, hx.dr, hx.db, hx.gd, hx.dm, hx.mB, hx.mr, hx.mbb, hx.gm, hx.bvn⟩
theorem OwnV.dst {c : RC} {w : World} {d mb : Nat} {bv v : Value} {len cap vb : Nat} (h : OwnV c w d mb bv v len cap vb) (n : Nat) (hn : n ≤ cap) : Dst c w vb 0 n :=
  ⟨fun j hj => by rw [Nat.zero_add]; exact h.cel j (by omega), fun j _ => h.fr _, h.nB, h.nr, h.nb, h.g⟩
theorem UM.mono {T T' : Nat → Prop} {c : RC} {w wr : World} {d mb b : Nat} {X : Nat → Int} {vb n M o f k : Nat} {LX : Int → Value → List Value} (h : UM T c w wr d mb b X vb n LX M o f k) (hT : ∀ a, T a → T' a) : UM T' c w wr d mb b X vb n LX M o f k :=
  ⟨h.chg.mono (fun a _ _ e => hT a e), h.dx, h.own, h.vals⟩
/-- What a mini block may turn. -/
def T5 (c : RC) (d vb gb : Nat) : Nat → Prop := fun a => a = d ∨ a = vb ∨ a = gb ∨ a = c.B ∨ a = c.rb
theorem Scr.keep {O : Nat → Prop} {c : RC} {w w' : World} {d mb n : Nat} {bv mbv dbuf : Value} (h : Scr O c w d mb bv mbv dbuf n) {S : Nat → Nat → Prop} (hc : Chg S w w') (hS : ∀ a x, S a x → (∀ vb l k, mbv = .slice (some ⟨vb, 0, none⟩) l k → a ≠ vb) ∧ ∀ gb l k, dbuf = .slice (some ⟨gb, 0, none⟩) l k → a ≠ gb) : Scr O c w' d mb bv mbv dbuf n :=
  ⟨h.od, h.oB, h.or, h.om, h.ob, fun a ha => hc.lt (h.lt a ha), h.nb, h.gt, h.mv.imp id (fun ⟨vb, len, h1, h2⟩ => ⟨vb, len, h1, h2.keep hc (fun x e => (hS _ _ e).1 _ _ _ h2.v rfl)⟩), h.dv.imp id (fun ⟨gb, h1, h2⟩ => ⟨gb, h1, h2.keep hc (fun x e => (hS _ _ e).2 _ _ _ h2.v rfl)⟩), h.ne⟩
/-- Cells of the decoder's own block turn. -/
theorem Scr.own {O : Nat → Prop} {c : RC} {w w' : World} {d mb n : Nat} {bv mbv dbuf : Value} (h : Scr O c w d mb bv mbv dbuf n) (hc : Chg (Own d) w w') : Scr O c w' d mb bv mbv dbuf n :=
  h.keep hc (fun a x (e : a = d) => ⟨fun vb l k e2 => by
    rcases h.mv with e3 | ⟨vb', len, -, h2⟩
    · rw [e2] at e3; cases e3
    · have := h2.v
      rw [e2] at this; injection this with this; injection this with this; injection this with this
      subst this; rw [e]; exact h2.nd.symm, fun gb l k e2 => by
    rcases h.dv with e3 | ⟨gb', -, h2⟩
    · rw [e2] at e3; cases e3
    · have := h2.v
      rw [e2] at this; injection this with this; injection this with this; injection this with this
      subst this; rw [e]; exact h2.nd.symm⟩)
theorem Scr.vd {O : Nat → Prop} {c : RC} {w : World} {d mb n vb l k : Nat} {bv dbuf : Value} (h : Scr O c w d mb bv (.slice (some ⟨vb, 0, none⟩) l k) dbuf n) : vb ≠ d := by
  rcases h.mv with e3 | ⟨vb', len, -, h2⟩
  · cases e3
  · have := h2.v
    injection this with this; injection this with this; injection this with this
    subst this; exact h2.nd
end Go.Proofs.YtaageikelkcphaaGreatDoor
/- The decoder of deltas: the next mini block, walked. -/
namespace Go.Proofs.YtaageikelkcphaaGreatDoor
open Go Go.RowKit
/-- What stands behind a mini block. -/
structure UE (O : Nat → Prop) (c : RC) (w wr : World) (d mb b q W n M : Nat) (md last : Int) (LX : Value → Value → List Value) : Prop where
  ex : ∃ O' vb dbuf o f, Grow O w O' ∧ (∀ a, O a → O' a) ∧ 8 * o + f = 8 * (q + n * W / 8) ∧ Chg (fun a _ => O a) w wr ∧
    DX c wr d mb o f (LX (.slice (some ⟨vb, 0, none⟩) n n) dbuf) M 64 (.slice (some ⟨b, 0, none⟩) 64 64) ∧
    Scr O' c wr d mb (.slice (some ⟨b, 0, none⟩) 64 64) (.slice (some ⟨vb, 0, none⟩) n n) dbuf n ∧
    (∀ j, j < n → wr.cell? ⟨vb, j, none⟩ = some (.int .i32 (RowKit.wrap32 (miniX c.D q W md last (j + 1))))) ∧
    ∀ x u, w.cell? ⟨b, x, none⟩ = some u → wr.cell? ⟨b, x, none⟩ = some u
/-- Behind all numbers of a mini block. -/
theorem UM.fin {O T : Nat → Prop} {c : RC} {w wr : World} {d mb b : Nat} {vb n M o f q W : Nat} {nv : Int} {data bd : Value} {S cbv Mv n' md i last : Int} {mbp mbv : Value} {w8 tot : Int} {dbuf dbuf0 : Value}
    (hT : ∀ a, T a → a < w.heap.size → O a) (hov : O vb ∨ w.heap.size ≤ vb) (hTb : ¬ T b) (h : UM T c w wr d mb b (miniX c.D q W md last) vb n (LU nv data bd S cbv Mv n' md i mbp w8 tot dbuf) M o f n) (hs : Scr O c w d mb (.slice (some ⟨b, 0, none⟩) 64 64) mbv dbuf0 n)
    (hdb : dbuf = .slice none 0 0 ∨ ∃ gb, (O gb ∨ w.heap.size ≤ gb) ∧ gb ≠ vb ∧ OwnV c wr d mb (.slice (some ⟨b, 0, none⟩) 64 64) dbuf n n gb) (hL : 0 < c.L) (hblt : c.b < w.heap.size) (hpos : 8 * o + f = 8 * (q + n * W / 8)) :
    UE O c w wr d mb b q W n M md last (fun mbv dbuf => dl nv data true bd S cbv Mv n' n' md i mbp w8 tot (miniX c.D q W md last n) mbv dbuf) := by
  have hg := h.dx.gd
  obtain ⟨O', hO'⟩ : ∃ O' : Nat → Prop, O' = fun a => O a ∨ a = vb ∨ ∃ l k, dbuf = .slice (some ⟨a, 0, none⟩) l k := ⟨_, rfl⟩
  have hsz := h.chg.size
  refine ⟨O', vb, dbuf, o, f, fun a ha => ?_, fun a ha => by rw [hO']; exact .inl ha, hpos, h.chg.mono (fun a _ ha e => hT a e ha), h.dx, ⟨by rw [hO']; exact .inl hs.od, by rw [hO']; exact .inl hs.oB, by rw [hO']; exact .inl hs.or, by rw [hO']; exact .inl hs.om, fun b' e => by rw [hO']; exact .inl (hs.ob b' e), fun a ha => ?_, fun ha => ?_, fun a ha => ?_, .inr ⟨vb, n, by rw [hO']; exact .inr (.inl rfl), h.own⟩, ?_, fun x y l1 c1 l2 c2 e1 e2 => ?_⟩, h.vals, fun x u hu => h.chg.keep hu hTb⟩
  · rw [hO'] at ha
    rcases ha with ha | rfl | ⟨l, k, e⟩
    · exact .inl ha
    · exact hov
    · rcases hdb with e2 | ⟨gb, hgb, -, ho⟩
      · rw [e] at e2; cases e2
      · have := ho.v
        rw [e] at this; injection this with this; injection this with this; injection this with this
        subst this; exact hgb
  · rw [hO'] at ha
    rcases ha with ha | rfl | ⟨l, k, e⟩
    · exact Nat.lt_of_lt_of_le (hs.lt a ha) hsz
    · exact h.own.lt
    · rcases hdb with e2 | ⟨gb, hgb, -, ho⟩
      · rw [e] at e2; cases e2
      · have := ho.v
        rw [e] at this; injection this with this; injection this with this; injection this with this
        subst this; exact ho.lt
  · rw [hO'] at ha
    rcases ha with ha | e | ⟨l, k, e⟩
    · exact hs.nb ha
    · exact h.own.nb e.symm
    · rcases hdb with e2 | ⟨gb, hgb, -, ho⟩
      · rw [e] at e2; cases e2
      · have := ho.v
        rw [e] at this; injection this with this; injection this with this; injection this with this
        exact ho.nb this.symm
  · rw [hO'] at ha
    rcases ha with ha | rfl | ⟨l, k, e⟩
    · exact hs.gt a ha
    · exact h.own.g
    · rcases hdb with e2 | ⟨gb, hgb, -, ho⟩
      · rw [e] at e2; cases e2
      · have := ho.v
        rw [e] at this; injection this with this; injection this with this; injection this with this
        subst this; exact ho.g
  · rcases hdb with e | ⟨gb, hgb, -, ho⟩
    · exact .inl e
    · exact .inr ⟨gb, by rw [hO']; exact .inr (.inr ⟨_, _, ho.v⟩), ho⟩
  · rcases hdb with e | ⟨gb, hgb, hne, ho⟩
    · rw [e2] at e; cases e
    · have := ho.v
      rw [e2] at this; injection this with this; injection this with this; injection this with this
      injection e1 with e1; injection e1 with e1; injection e1 with e1
      omega
end Go.Proofs.YtaageikelkcphaaGreatDoor
