/- Part 7 of the proof: the texts BS, OA, OI, OJ, joined. What each proves stands ahead of it. -/
import Derived.Test.YtflgbndhahcdnaaGreatDoorKF
import Derived.Test.YtflgbndhahcdnaaGreatDoorKD
import Derived.OwnWalk
import Derived.Deep.OwnRows
import Derived.Shelf.Abstract
set_option linter.unusedVariables false
set_option linter.unusedSimpArgs false
/- The reader of a bitmap by words: the next word, the next byte. -/
namespace Go.Proofs.YtflgbndhahcdnaaGreatDoor
open Go Go.RowKit
set_option maxRecDepth 100000 in
set_option maxHeartbeats 1000000 in
theorem nextWord0_ok (A sb so n j L C nw tb ty cur : Nat) (σ : Nat → Bool) (w : World) (hB : Bmp w sb so n σ) (h : WR w A sb so 0 j L C nw tb ty cur) (hA : A ≠ sb) (hL : 16 ≤ L) (hLC : L ≤ C) (hn : j + 16 ≤ n) (hcur : Num64 σ (8 * j) cur) :
    Calls Tryz.prog 62 #[.pointer (some ⟨A, 0, none⟩)] w fun e w' => e = .returned (.int .u64 cur) ∧ Chg (Own A) w w' ∧ ∃ V, WR w' A sb so 0 (j + 8) (L - 8) (C - 8) nw tb ty V ∧ Num64 σ (8 * (j + 8)) V := by
  have c0 := h.sl
  have c5 := h.cu
  have f0 := h.fr 0 (by omega)
  have hcap : ¬ C = 8 := by omega
  have h8 : (8 : Nat) ≤ L := by omega
  have hW1 := h.sl' (j + 8) (L - 8) (C - 8)
  rw [show so + (j + 8) = so + j + 8 by omega] at hW1
  have hc1 := (Chg.refl (Own A) w).own 0 (.slice (some ⟨sb, so + j + 8, none⟩) (L - 8) (C - 8))
  have HB1 := Lib.hid (hB.keep hc1 (fun _ _ hh => hA hh.symm))
  have HW1 := Lib.hid hW1
  have Hc1 := Lib.hid hc1
  have Hcur := Lib.hid hcur
  clear hB h hW1 hc1 hcur
  go_enter Tryz.func62, Tryz.ntmps62
  go_wp2_with fail
  generalize w.setCell ⟨A, 0, none⟩ (.slice (some ⟨sb, so + j + 8, none⟩) (L - 8) (C - 8)) = w1 at HB1 HW1 Hc1 ⊢
  clear c0 f0 c5
  have c0 := HW1.out.sl
  have c1 := HW1.out.of
  have c5 := HW1.out.cu
  have hcall := leBits_ok sb so n (j + 8) (L - 8) (C - 8) σ w1.drew HB1.out.drew (by omega) (by omega)
  have Hcall := Lib.hid hcall; clear hcall
  refine wp_region_txt [72] (by kernel_rfl) (by kernel_rfl) ?_
  repeat (first | (refine wpTxt_pure rfl rfl (fun K hK => ?_); go_simp; refine hK _ ?_; clear hK K) | (refine wpTxt_still rfl rfl (fun K hK => ?_); go_simp; refine hK _ ?_; clear hK K))
  refine wpTxt_effect rfl rfl (fun K hK => ?_); go_simp
  refine Hcall.out.mono ?_
  rintro e w5 ⟨V, rfl, hV, h5⟩
  have hW5 := HW1.out.keep h5.undrew (fun _ h => h)
  have c1' := hW5.of
  have c5' := hW5.cu
  have f5' := hW5.fr 5 (by omega)
  have HW6 := Lib.hid (hW5.cur' V)
  have hc6 : Chg (Own A) w (w5.setCell ⟨A, 5, none⟩ (.int .u64 V)) := (Hc1.out.trans (h5.undrew.mono (fun _ _ _ h => h.elim))).own 5 _
  have Hc6 := Lib.hid hc6
  have HV := Lib.hid hV
  clear h5 hW5 hc6 hV c0 c1 c5
  (refine hK _ _ ?_; clear hK K)
  repeat (first | (refine wpTxt_pure rfl rfl (fun K hK => ?_); go_simp; refine hK _ ?_; clear hK K) | (refine wpTxt_still rfl rfl (fun K hK => ?_); go_simp; refine hK _ ?_; clear hK K))
  refine wpTxt_still rfl rfl (fun K hK => ?_)
  go_simp
  refine ⟨_, toLE_ok V _, ?_⟩
  (refine hK _ ?_; clear hK K)
  repeat (first | (refine wpTxt_pure rfl rfl (fun K hK => ?_); go_simp; refine hK _ ?_; clear hK K) | (refine wpTxt_still rfl rfl (fun K hK => ?_); go_simp; refine hK _ ?_; clear hK K))
  refine wpTxt_nil ?_
  go_wp2_with fail
  go_ret
  exact ⟨rfl, Hc6.out, V, HW6.out, HV.out⟩
set_option maxRecDepth 100000 in
set_option maxHeartbeats 1000000 in
theorem assert_ok (x y : Value) (w : World) : Calls Tryz.prog 75 #[x, y] w fun e w' => e = .returned (.tuple #[]) ∧ w = w' := by
  go_enter Tryz.func75, Tryz.ntmps75
  go_wp2_with fail
  go_end0
  exact ⟨rfl, rfl⟩
/-- The word at hand: its first byte at least. -/
structure Lo8 (σ : Nat → Bool) (p cur : Nat) : Prop where
  lt : cur < 2 ^ 64
  lo : ∀ t, t < 8 → cur.testBit t = σ (p + t)
theorem Cur.lo8 {σ : Nat → Bool} {p nw cur : Nat} (h : Cur σ p nw cur) : Lo8 σ p cur := ⟨h.lt, h.lo⟩
theorem Num64.lo8 {σ : Nat → Bool} {p cur : Nat} (h : Num64 σ p cur) : Lo8 σ p cur := ⟨h.lt, fun t ht => h.tb t (by omega)⟩
/-- A byte whose first m bits are those of a row from p on, and its other bits none. -/
structure Byt (σ : Nat → Bool) (p m v : Nat) : Prop where
  lt : v < 256
  tb : ∀ t, t < 8 → v.testBit t = (decide (t < m) && σ (p + t))
theorem mod_tb (v t : Nat) (ht : t < 8) : (v % 256).testBit t = v.testBit t := by
  rw [show (256 : Nat) = 2 ^ 8 from rfl, Nat.testBit_mod_two_pow]; simp [ht]
set_option maxRecDepth 100000 in
set_option maxHeartbeats 1000000 in
theorem nextTrail0_ok (A sb so n j L C nw tb ty cur : Nat) (σ : Nat → Bool) (w : World) (hB : Bmp w sb so n σ) (h : WR w A sb so 0 j L C nw tb ty cur) (hA : A ≠ sb) (hL : 2 ≤ L) (hLC : L ≤ C) (hn : j + 2 ≤ n) (hcur : Lo8 σ (8 * j) cur) (htb : 8 < tb) (hty : 1 ≤ ty) (htb2 : tb ≤ 1000000000) (hty2 : ty ≤ 1000000000) :
    Calls Tryz.prog 64 #[.pointer (some ⟨A, 0, none⟩)] w fun e w' => ∃ v V : Nat, e = .returned (.tuple #[.int .u8 v, .int .i64 8]) ∧ Byt σ (8 * j) 8 v ∧ Chg (Own A) w w' ∧ WR w' A sb so 0 (j + 1) (L - 1) (C - 1) nw (tb - 8) (ty - 1) V ∧ Lo8 σ (8 * (j + 1)) V := by
  have c0 := h.sl
  have c1 := h.of
  have c3 := h.tb
  have c4 := h.ty
  have c5 := h.cu
  have f0 := h.fr 0 (by omega)
  have f5 := h.fr 5 (by omega)
  have hcap : ¬ C = 1 := by omega
  have hW1 := h.sl' (j + 1) (L - 1) (C - 1)
  rw [show so + (j + 1) = so + j + 1 by omega] at hW1
  have hc1 := (Chg.refl (Own A) w).own 0 (.slice (some ⟨sb, so + j + 1, none⟩) (L - 1) (C - 1))
  have hB1 := hB.keep hc1 (fun _ _ hh => hA hh.symm)
  obtain ⟨x, hx, hx8, hxt⟩ := hB1.cell (j + 1) (by omega)
  rw [show so + (j + 1) = so + j + 1 by omega] at hx
  have d5 := hW1.cu
  have g5 := hW1.fr 5 (by omega)
  have hL0 : 0 < L - 1 := by omega
  have htb' : ¬ (tb : Int) ≤ 8 := by omega
  have HW1 := Lib.hid hW1
  have Hc1 := Lib.hid hc1
  have Hcur := Lib.hid hcur
  have Hxt := Lib.hid hxt
  clear hB hB1 h hW1 hc1 hcur hxt
  go_enter Tryz.func64, Tryz.ntmps64
  go_wp2_with fail
  refine (assert_ok _ _ _).mono ?_
  rintro e w1 ⟨rfl, rfl⟩
  go_wp2_with fail
  refine (getLSB_ok cur _).mono ?_
  rintro e w2 ⟨rfl, rfl⟩
  go_wp2_with fail
  refine (setLSB_ok A 5 cur x _ Hcur.out.lt hx8 (by exact d5) (by exact g5)).mono ?_
  rintro e w3 ⟨rfl, rfl⟩
  have hW4 := HW1.out.cur' (lsb cur x)
  have hc4 := Hc1.out.own 5 (.int .u64 (lsb cur x : Nat))
  generalize (w.setCell ⟨A, 0, none⟩ (.slice (some ⟨sb, so + j + 1, none⟩) (L - 1) (C - 1))).setCell ⟨A, 5, none⟩ (.int .u64 (lsb cur x : Nat)) = w4 at hW4 hc4 ⊢
  have k3 := hW4.tb
  have k4 := hW4.ty
  have g3 := hW4.fr 3 (by omega)
  have g4 := hW4.fr 4 (by omega)
  have hW5 := (hW4.tb' (tb - 8)).ty' (ty - 1)
  have hc5 := (hc4.own 3 (.int .i64 (tb - 8 : Nat))).own 4 (.int .i64 (ty - 1 : Nat))
  rw [show ((tb - 8 : Nat) : Int) = (tb : Int) - 8 by omega, show ((ty - 1 : Nat) : Int) = (ty : Int) - 1 by omega] at hW5 hc5
  have HW5 := Lib.hid hW5
  have Hc5 := Lib.hid hc5
  clear c0 c1 c3 c4 c5 f0 f5 hx d5 g5 hW4 hc4 hW5 hc5 HW1 Hc1
  go_wp2_with fail
  go_ret2
  refine ⟨cur % 256, lsb cur x, rfl, ⟨Nat.mod_lt _ (by decide), fun t ht => ?_⟩, Hc5.out, HW5.out, lsb_lt cur x Hcur.out.lt hx8, fun t ht => ?_⟩
  · rw [mod_tb _ _ ht, Hcur.out.lo t ht, decide_eq_true ht, Bool.true_and]
  · rw [lsb_tb _ _ _ hx8 ht, Hxt.out t ht]
end Go.Proofs.YtflgbndhahcdnaaGreatDoor
/- The plain decoder of bools: its cells, its data, what it skips. -/
namespace Go.Proofs.YtflgbndhahcdnaaGreatDoor
open Go Go.RowKit
theorem fresh_cell {w : World} {cs : Array Value} {t : TypeId} {n i : Nat} {v : Value} (hn : n = w.heap.size) (hv : cs[i]? = some v) : (w.alloc (.cells cs t)).cell? ⟨n, i, none⟩ = some v := by
  subst hn; rw [World.cell?_alloc_new]; exact hv
theorem fresh_frozen {w : World} {cs : Array Value} {t : TypeId} {n i : Nat} (hn : n = w.heap.size) : (w.alloc (.cells cs t)).frozen? ⟨n, i, none⟩ = false := by
  subst hn; simp
/-- A plain decoder of bools at block d, at bit p of L bytes that lie at the beginning of block b and whose bits are β; N values are left. -/
structure PX (w : World) (d b p N V L : Nat) (β : Nat → Bool) : Prop where
  nv : w.cell? ⟨d, 0, none⟩ = some (.int .i64 V)
  da : ∃ a c, w.cell? ⟨d, 1, none⟩ = some (.slice a (L - p / 8) c) ∧ L - p / 8 ≤ c ∧ c ≤ 9223372036854775807 ∧ (p / 8 < L → a = some ⟨b, p / 8, none⟩)
  bo : w.cell? ⟨d, 3, none⟩ = some (.int .i64 (p % 8 : Nat))
  fr : ∀ j, j < 4 → w.frozen? ⟨d, j, none⟩ = false
  dt : Bmp w b 0 L β
  room : p + N ≤ 8 * L
  big : L ≤ 1000000
  ne : d ≠ b
abbrev PB (w : World) (d b p N L : Nat) (β : Nat → Bool) : Prop := PX w d b p N N L β
theorem PX.lt {w : World} {d b p N V L : Nat} {β : Nat → Bool} (h : PX w d b p N V L β) : d < w.heap.size := World.block_lt_of_cell? w _ h.nv
theorem PX.keep {w w' : World} {d b p N V L : Nat} {β : Nat → Bool} (h : PX w d b p N V L β) {S : Nat → Nat → Prop} (hc : Chg S w w') (hS : ∀ x, ¬ S d x) (hb : ∀ j, j < L → ¬ S b j) : PX w' d b p N V L β :=
  ⟨hc.keep h.nv (hS _), let ⟨a, c, h1, h2⟩ := h.da; ⟨a, c, hc.keep h1 (hS _), h2⟩, hc.keep h.bo (hS _), fun j hj => (hc.frozen _ _ h.lt).trans (h.fr j hj), h.dt.keep hc (fun j hj => by rw [Nat.zero_add]; exact hb j hj), h.room, h.big, h.ne⟩
theorem PX.drew {w : World} {d b p N V L : Nat} {β : Nat → Bool} (h : PX w d b p N V L β) : PX w.drew d b p N V L β := h.keep (Chg.drew (Chg.refl Nix w)) (fun _ h => h) (fun _ _ h => h)
set_option maxRecDepth 100000 in
set_option maxHeartbeats 1000000 in
theorem ensure_ok (d b p N V L n : Nat) (β : Nat → Bool) (w : World) (h : PX w d b p N V L β) (hn : n ≤ N) :
    Calls Tryz.prog 38 #[.pointer (some ⟨d, 0, none⟩), .int .i64 n] w fun e w' => e = .returned .nilIface ∧ Chg Nix w w' := by
  obtain ⟨a, c, c1, hc, -⟩ := h.da
  have c3 := h.bo
  have hr := h.room
  have hb := h.big
  obtain ⟨K, hK⟩ : ∃ K, K = L - p / 8 := ⟨_, rfl⟩
  obtain ⟨f, hf⟩ : ∃ f, f = p % 8 := ⟨_, rfl⟩
  rw [← hK] at c1
  rw [← hf] at c3
  have hKb : K ≤ 1000000 := by omega
  have e1 : IntKind.i64.wrap ((K : Int) * 8) = (K : Int) * 8 := IntWalk.i64_in _ (by omega)
  have e2 : IntKind.i64.wrap ((K : Int) * 8 - f) = (K : Int) * 8 - f := IntWalk.i64_in _ (by omega)
  have e3 : ¬ ((K : Int) * 8 - f < n) := by omega
  clear h hr hb hc
  go_enter Tryz.func38, Tryz.ntmps38
  go_wp2_with fail
  (refine wp_region_txt [] (by kernel_rfl) (by kernel_rfl) ?_; repeat (first | (refine wpTxt_pure rfl rfl (fun K hK => ?_); go_simp; refine hK _ ?_; clear hK K) | (refine wpTxt_still rfl rfl (fun K hK => ?_); go_simp; refine hK _ ?_; clear hK K)))
  refine wpTxt_nil ?_
  go_wp2_with fail
  go_ret
  exact ⟨rfl, (Chg.refl _ _).drew⟩
set_option maxRecDepth 100000 in
set_option maxHeartbeats 1000000 in
theorem pbDiscard_ok (d b p N L n : Nat) (β : Nat → Bool) (w : World) (h : PB w d b p N L β) (hn : n ≤ N) :
    Calls Tryz.prog 21 #[.pointer (some ⟨d, 0, none⟩), .int .i64 n] w fun e w' => e = .returned (.tuple #[.int .i64 n, .nilIface]) ∧ Chg (Own d) w w' ∧ PB w' d b (p + n) (N - n) L β := by
  have Hcall := Lib.hid (ensure_ok d b p N N L n β w h hn)
  have c0 := h.nv
  have hmin : min (n : Int) N = n := by omega
  have H := Lib.hid h
  have Hn := Lib.hid hn
  have hnb : (n : Int) ≤ 8000000 := by have := h.room; have := h.big; omega
  have hNb : (N : Int) ≤ 8000000 := by have := h.room; have := h.big; omega
  clear h hn
  go_enter Tryz.func21, Tryz.ntmps21
  go_wp2_with fail
  refine Hcall.out.mono ?_
  rintro e w1 ⟨rfl, hc1⟩
  have h1 := H.out.keep hc1 (fun _ h => h) (fun _ _ h => h)
  have Hc1 := Lib.hid hc1
  clear hc1 c0 Hcall
  have c0 := h1.nv
  obtain ⟨a, c, c1, hc, hcm, hca⟩ := h1.da
  have Hcm := Lib.hid hcm
  clear hcm
  have c3 := h1.bo
  have f0 := h1.fr 0 (by omega)
  have f1 := h1.fr 1 (by omega)
  have f3 := h1.fr 3 (by omega)
  have H1 := Lib.hid h1
  obtain ⟨K, hK⟩ : ∃ K, K = L - p / 8 := ⟨_, rfl⟩
  obtain ⟨f, hf⟩ : ∃ f, f = p % 8 := ⟨_, rfl⟩
  rw [← hK] at c1 hc
  rw [← hf] at c3
  have hr := h1.room
  have hb := h1.big
  clear h1
  have hf8 : (f : Int) < 8 := by omega
  have hKb : (K : Int) ≤ 1000000 := by omega
  have hbits : (f : Int) + n ≤ 8 * K ∨ n = 0 := by have := Hn.out; omega
  have HK := Lib.hid hK
  have Hf := Lib.hid hf
  have Hr := Lib.hid hr
  have Hb := Lib.hid hb
  clear hK hf hr hb
  by_cases hs : (f : Int) + n < 8
  · go_wp2_with fail
    go_ret2
    refine ⟨rfl, (Hc1.out.mono (fun _ _ _ h => h.elim)).trans (((Chg.refl _ _).own 0 _).own 3 _), ?_, ?_, ?_, fun k hk => by simp only [World.frozen?_setCell]; exact H1.out.fr k hk, ?_, by have := Hn.out; have := Hr.out; omega, Hb.out, H1.out.ne⟩
    · rw [show ((N - n : Nat) : Int) = (N : Int) - n by have := Hn.out; omega]; go_cell
    · refine ⟨a, c, ?_, ?_, Hcm.out, ?_⟩
      · rw [show L - (p + n) / 8 = K by have := HK.out; have := Hf.out; omega]; go_cell
      · rw [show L - (p + n) / 8 = K by have := HK.out; have := Hf.out; omega]; exact hc
      · rw [show (p + n) / 8 = p / 8 by have := HK.out; have := Hf.out; omega]; exact hca
    · rw [show (((p + n) % 8 : Nat) : Int) = (f : Int) + n by have := Hf.out; omega]; go_cell
    · exact H1.out.dt.keep (((Chg.refl (Own d) _).own 0 _).own 3 _) (fun j hj hh => H1.out.ne hh.symm)
  · have hK1 : 1 ≤ K := by omega
    have hq : p / 8 < L := by have := HK.out; omega
    obtain rfl := hca hq
    obtain ⟨R, hR⟩ : ∃ R, R = n - (8 - f) := ⟨_, rfl⟩
    have e1 : IntKind.i64.wrap ((n : Int) - (8 - f)) = R := by rw [IntWalk.i64_in _ (by omega)]; omega
    obtain ⟨m, hm⟩ : ∃ m, m = R / 8 := ⟨_, rfl⟩
    have e2 : (R : Int) / 8 * 8 = (8 * m : Nat) := by omega
    have e3 : (8 * m + 7) / 8 = m := by omega
    have e4 : IntKind.i64.wrap ((R : Int) - m * 8) = (R - 8 * m : Nat) := by rw [IntWalk.i64_in _ (by omega)]; omega
    have hmK : m ≤ K - 1 := by omega
    have fin : ∀ w2 : World, w2 = (((w1.setCell ⟨d, 0, none⟩ (.int .i64 ((N : Int) - n))).setCell ⟨d, 3, none⟩ (.int .i64 0)).setCell ⟨d, 1, none⟩ (.slice none 0 0)) → True := fun _ _ => trivial
    have hmb : (m : Int) ≤ 1000000 := by omega
    have HR := Lib.hid hR
    have Hm := Lib.hid hm
    clear hR hm hca hq fin
    by_cases hc1 : c = 1
    · subst hc1
      obtain rfl : K = 1 := by omega
      obtain rfl : m = 0 := by omega
      obtain rfl : R = 0 := by have := HR.out; have := Hm.out; have := HK.out; have := Hf.out; have := Hr.out; have := Hn.out; omega
      go_wp2_with fail
      refine (bytesFor_ok 0 _ (by omega)).mono ?_
      rintro e w2 ⟨rfl, rfl⟩
      go_wp2_with fail
      go_ret2
      refine ⟨rfl, (Hc1.out.mono (fun _ _ _ h => h.elim)).trans (((((((Chg.refl _ _).own 0 _).own 3 _).own 1 _).own 1 _).own 3 _)), ?_, ?_, ?_, fun k hk => by simp only [World.frozen?_setCell]; exact H1.out.fr k hk, H1.out.dt.keep (((((((Chg.refl (Own d) _).own 0 _).own 3 _).own 1 _).own 1 _).own 3 _)) (fun j hj hh => H1.out.ne hh.symm), by have := Hn.out; have := Hr.out; omega, Hb.out, H1.out.ne⟩
      · rw [show ((N - n : Nat) : Int) = (N : Int) - n by have := Hn.out; omega]; go_cell
      · refine ⟨_, _, by rw [show L - (p + n) / 8 = 0 by (have := Hn.out; have := Hr.out; have := HR.out; have := Hm.out; have := HK.out; have := Hf.out; omega)]; go_cell, by (have := Hn.out; have := Hr.out; have := HR.out; have := Hm.out; have := HK.out; have := Hf.out; omega), by have := Hcm.out; omega, fun hh => ?_⟩
        exfalso; (have := Hn.out; have := Hr.out; have := HR.out; have := Hm.out; have := HK.out; have := Hf.out; omega)
      · rw [show (((p + n) % 8 : Nat) : Int) = (0 : Int) by (have := Hn.out; have := Hr.out; have := HR.out; have := Hm.out; have := HK.out; have := Hf.out; omega)]; go_cell
    · by_cases hc2 : c - 1 = m
      · go_wp2_with fail
        rw [show (8 : Int) * m = (8 * m : Nat) by omega]
        refine (bytesFor_ok _ _ (by omega)).mono ?_
        rintro e w2 ⟨rfl, rfl⟩
        rw [e3]
        go_wp2_with fail
        go_ret2
        refine ⟨rfl, (Hc1.out.mono (fun _ _ _ h => h.elim)).trans (((((((Chg.refl _ _).own 0 _).own 3 _).own 1 _).own 1 _).own 3 _)), ?_, ?_, ?_, fun k hk => by simp only [World.frozen?_setCell]; exact H1.out.fr k hk, H1.out.dt.keep (((((((Chg.refl (Own d) _).own 0 _).own 3 _).own 1 _).own 1 _).own 3 _)) (fun j hj hh => H1.out.ne hh.symm), by have := Hn.out; have := Hr.out; omega, Hb.out, H1.out.ne⟩
        · rw [show ((N - n : Nat) : Int) = (N : Int) - n by have := Hn.out; omega]; go_cell
        · refine ⟨_, _, by rw [show L - (p + n) / 8 = K - 1 - m by (have := Hn.out; have := Hr.out; have := HR.out; have := Hm.out; have := HK.out; have := Hf.out; omega)]; go_cell, by (have := Hn.out; have := Hr.out; have := HR.out; have := Hm.out; have := HK.out; have := Hf.out; omega), by have := Hcm.out; omega, fun hh => ?_⟩
          exfalso; (have := Hn.out; have := Hr.out; have := HR.out; have := Hm.out; have := HK.out; have := Hf.out; omega)
        · rw [show (((p + n) % 8 : Nat) : Int) = ((R - 8 * m : Nat) : Int) by (have := Hn.out; have := Hr.out; have := HR.out; have := Hm.out; have := HK.out; have := Hf.out; omega)]; go_cell
      · go_wp2_with fail
        rw [show (8 : Int) * m = (8 * m : Nat) by omega]
        refine (bytesFor_ok _ _ (by omega)).mono ?_
        rintro e w2 ⟨rfl, rfl⟩
        rw [e3]
        go_wp2_with fail
        go_ret2
        refine ⟨rfl, (Hc1.out.mono (fun _ _ _ h => h.elim)).trans (((((((Chg.refl _ _).own 0 _).own 3 _).own 1 _).own 1 _).own 3 _)), ?_, ?_, ?_, fun k hk => by simp only [World.frozen?_setCell]; exact H1.out.fr k hk, H1.out.dt.keep (((((((Chg.refl (Own d) _).own 0 _).own 3 _).own 1 _).own 1 _).own 3 _)) (fun j hj hh => H1.out.ne hh.symm), by have := Hn.out; have := Hr.out; omega, Hb.out, H1.out.ne⟩
        · rw [show ((N - n : Nat) : Int) = (N : Int) - n by have := Hn.out; omega]; go_cell
        · refine ⟨_, _, by rw [show L - (p + n) / 8 = K - 1 - m by (have := Hn.out; have := Hr.out; have := HR.out; have := Hm.out; have := HK.out; have := Hf.out; omega)]; go_cell, by (have := Hn.out; have := Hr.out; have := HR.out; have := Hm.out; have := HK.out; have := Hf.out; omega), by have := Hcm.out; omega, fun hh => ?_⟩
          rw [show (p + n) / 8 = p / 8 + 1 + m by (have := Hn.out; have := Hr.out; have := HR.out; have := Hm.out; have := HK.out; have := Hf.out; omega)]
        · rw [show (((p + n) % 8 : Nat) : Int) = ((R - 8 * m : Nat) : Int) by (have := Hn.out; have := Hr.out; have := HR.out; have := Hm.out; have := HK.out; have := Hf.out; omega)]; go_cell
end Go.Proofs.YtflgbndhahcdnaaGreatDoor
/- Rows of bools; what batches take of a list. -/
namespace Go.Proofs.YtflgbndhahcdnaaGreatDoor
open Go Go.RowKit
theorem infoBool : (Tryz.prog.info? 4).map (fun i => (i.zero, i.size, i.bytes)) = some (some (.bool false), 1, 1) := by kernel_rfl
/-- append to a row of bools of one's own. -/
theorem wpList_append_bool {w : World} {ops : Array Oper} {rest : List Oper} {o : Oper} {a : Act} {Q : Exit → Act → World → Prop} (hgd : o.guard = none) (s x : Operand)
    (ho : o.op = .call { callee := .builtin .append, args := #[s, x], argTypes := #[22, 22] })
    (base : Nat) (v : Value) (xs : List Value) (hs : a.eval s = v) (hown : Own1 w base 4 v xs)
    (y : Value) (news : List Value) (hx : a.eval x = y) (hy : Reads w y news) (h1 : ∀ u ∈ news, u.oneCell' = true)
    (hb : xs.length + news.length ≤ 1000000000) (hbase : base ≤ w.heap.size)
    (h : ∀ v' w', Own1 w' base 4 v' (xs ++ news) → Chg (fun k _ => v.ownBlock = some k) w w' → wpList Tryz.prog ops Q rest (a.put o.dst v') w') : wpList Tryz.prog ops Q (o :: rest) a w := by
  obtain ⟨i, hi, hz, hs1, hby⟩ := info_parts infoBool
  exact wpList_append_chg hgd s x 22 ho base 4 i (.bool false) 1 Tryz.underlying22 hi hz hs1 hby rfl v xs hs hown y news hx hy h1 (by unfold maxLen; omega) (by omega) hbase h
/-- The bools as cells. -/
def bools (l : List Bool) : List Value := l.map Value.bool
theorem bools_len (l : List Bool) : (bools l).length = l.length := by unfold bools; exact List.length_map ..
theorem bools_one (l : List Bool) : ∀ u ∈ bools l, u.oneCell' = true := by
  intro u hu
  obtain ⟨x, -, rfl⟩ := List.mem_map.1 hu
  rfl
/-- What batches take. -/
def takesB : List Int → List Bool → List Bool
  | [], _ => []
  | n :: ns, vs => (if n < 0 then [] else vs.take n.natAbs) ++ takesB ns (vs.drop n.natAbs)
def FitsN : List Int → Nat → Prop
  | [], _ => True
  | n :: ns, len => n.natAbs ≤ len ∧ n.natAbs ≤ 1000000 ∧ FitsN ns (len - n.natAbs)
theorem make_bool (n : Nat) (h2 : n ≤ 1000000) : ∀ W : World, (Instr.makeSlice 22 (.int .i64 (n : Int)) (.int .i64 (n : Int))).run Tryz.prog W = .ok (.slice (some ⟨W.heap.size, 0, none⟩) n n) (W.alloc (.cells (madeCells #[.bool false] n) 4)) :=
  fun W => run_make_row' (P := Tryz.prog) 22 4 (.bool false) 1 (by kernel_rfl) (by kernel_rfl) rfl .i64 .i64 n (by omega) (by omega) W
theorem bmade_at (z : Value) (n j : Nat) (h : j < n) : (madeCells #[z] n)[j]? = some z := by
  simp [madeCells, h, Nat.mod_one]
theorem bmade_cell (w : World) (z : Value) (n j : Nat) (t : TypeId) (h : j < n) : (w.alloc (.cells (madeCells #[z] n) t)).cell? ⟨w.heap.size, j, none⟩ = some z := by
  rw [World.cell?_alloc_new]; exact bmade_at z n j h
/-- A row of bools that reads. -/
theorem readsB_of {w : World} {g c n p : Nat} {vs : List Bool} (hn : p + n ≤ vs.length) (h : ∀ j, j < n → w.cell? ⟨g, j, none⟩ = some (.bool (vs.getD (p + j) false))) : Reads w (.slice (some ⟨g, 0, none⟩) n c) (bools ((vs.drop p).take n)) := by
  have hl : (bools ((vs.drop p).take n)).length = n := by rw [bools_len, List.length_take, List.length_drop]; omega
  refine ⟨_, c, by rw [hl], .inr ⟨g, 0, rfl, fun j u hu => ?_⟩⟩
  unfold bools at hu
  rw [List.getElem?_map] at hu
  obtain ⟨x, hx, rfl⟩ := Option.map_eq_some_iff.1 hu
  have hj : j < n := by have := (List.getElem?_eq_some_iff.1 hx).1; rw [List.length_take] at this; omega
  rw [List.getElem?_take_of_lt hj, List.getElem?_drop] at hx
  rw [Nat.zero_add, h j hj, List.getD_eq_getElem?_getD, hx]
  rfl
end Go.Proofs.YtflgbndhahcdnaaGreatDoor
/- impl.decoded[bool], over whatever decoder. Printed by mk_oj.py. -/
namespace Go.Proofs.YtflgbndhahcdnaaGreatDoor
open Go Go.RowKit
/-- What a decoder of bools owes: St p w: it stands behind p values in w; OwnD: the blocks that are its own; B0: all of them lie below. -/
structure DecB (OwnD : Nat → Prop) (B0 : Nat) (vs : List Bool) (St : Nat → World → Prop) (fD : Nat) (d : Nat) : Prop where
  own : ∀ a, OwnD a → a < B0
  keep : ∀ p w w' S, St p w → Chg S w w' → (∀ a x, S a x → B0 ≤ a) → St p w'
  ds : ∀ p w n, St p w → p + n ≤ vs.length → Calls Tryz.prog fD #[.pointer (some ⟨d, 0, none⟩), .int .i64 n] w fun e w' => e = .returned (.tuple #[.int .i64 n, .nilIface]) ∧ Chg (fun a _ => OwnD a) w w' ∧ St (p + n) w'
/-- A batch as a decoder gives it. -/
def RdEnd (OwnD : Nat → Prop) (vs : List Bool) (St : Nat → World → Prop) (p n ob : Nat) (w : World) (e : Ending) (w' : World) : Prop :=
  e = .returned (.tuple #[.int .i64 n, .nilIface]) ∧ Chg (fun a x => OwnD a ∨ (a = ob ∧ x < n)) w w' ∧ (∀ j, j < n → w'.cell? ⟨ob, j, none⟩ = some (.bool (vs.getD (p + j) false))) ∧ St (p + n) w'
/-- What is asked of the row that a batch is read to. -/
def Fresh (B0 ob n : Nat) (w : World) : Prop := B0 ≤ ob ∧ ob < w.heap.size ∧ (∀ j, j < n → w.cell? ⟨ob, j, none⟩ = some (.bool false)) ∧ ∀ j, j < n → w.frozen? ⟨ob, j, none⟩ = false
/-- What holds at the head of the loop. -/
structure RB (OwnD : Nat → Prop) (ns : List Int) (vs : List Bool) (St : Nat → World → Prop) (w wx : World) (k : Nat) (v : Value) (p : Nat) (done : List Bool) : Prop where
  own : Own1 wx w.heap.size 4 v (bools done)
  st : St p wx
  pl : p ≤ vs.length
  fits : FitsN (ns.drop k) (vs.length - p)
  sum : done ++ takesB (ns.drop k) (vs.drop p) = takesB ns vs
  len : done.length + (vs.length - p) ≤ 100000000
  chg : Chg (fun a _ => OwnD a) w wx
theorem dropcons (ns : List Int) (k : Nat) (h : k < ns.length) : ns.drop k = ns[k] :: ns.drop (k + 1) := List.drop_eq_getElem_cons h
theorem Reads.cells {w : World} {g n c : Nat} {xs : List Value} (h : Reads w (.slice (some ⟨g, 0, none⟩) n c) xs) : n = xs.length := by
  obtain ⟨p, c', hh, -⟩ := h
  injection hh
set_option maxRecDepth 100000 in
set_option maxHeartbeats 1000000 in
theorem decodedA_ok (OwnD : Nat → Prop) (vs : List Bool) (St : Nat → World → Prop) (fR fD d bc : Nat) (bp : Option Addr) (ns : List Int) (w : World) (h0 : St 0 w) (hD : DecB OwnD w.heap.size vs St fD d) (hv : vs.length ≤ 10000000) (heR : ∀ (args : Array Value) (w : World), (callFunc fR args).run Tryz.prog w = .ok (.enter fR args) w) (heD : ∀ (args : Array Value) (w : World), (callFunc fD args).run Tryz.prog w = .ok (.enter fD args) w) (hns : ∀ j (hj : j < ns.length), ∃ g o, bp = some ⟨g, o, none⟩ ∧ w.cell? ⟨g, o + j, none⟩ = some (.int .i64 ns[j]) ∧ ¬ OwnD g) (hnc : ns.length ≤ 1000000) (hf : FitsN ns vs.length)
    (hrd : ∀ p wx n ob, St p wx → p + n ≤ vs.length → n ≤ 1000000 → Fresh w.heap.size ob n wx → Calls Tryz.prog fR #[.pointer (some ⟨d, 0, none⟩), .slice (some ⟨ob, 0, none⟩) n n] wx (RdEnd OwnD vs St p n ob wx)) :
    Calls Tryz.prog 15 #[.slice bp ns.length bc, .func (.func fR) #[.pointer (some ⟨d, 0, none⟩)] #[], .func (.func fD) #[.pointer (some ⟨d, 0, none⟩)] #[]] w fun e w' =>
      ∃ v, e = .returned (.tuple #[v, .bool true]) ∧ Own1 w' w.heap.size 4 v (bools (takesB ns vs)) ∧ Chg (fun a _ => OwnD a) w w' := by
  have hb0 : RB OwnD ns vs St w w 0 (.slice none 0 0) 0 [] := ⟨Own1.nil _ _ _, h0, Nat.zero_le _, hf, rfl, by simp; omega, Chg.refl _ _⟩
  have Hb0 := Lib.hid hb0
  have HD := Lib.hid hD
  have Hns := Lib.hid hns
  have Hrd := Lib.hid hrd
  clear hb0 h0 hD hns hrd hf hv
  go_enter Tryz.func15, Tryz.ntmps15
  go_wp2_with fail
  go_loopw [6, 17] (fun v i wx => ∃ k p done v6, k ≤ ns.length ∧ i = .int .i64 (k : Nat) ∧ v6 = v ∧ RB OwnD ns vs St w wx k v6 p done) (fun _ i _ => ns.length - (intOf i).toNat)
  case atStart => exact ⟨0, 0, [], _, Nat.zero_le _, rfl, rfl, Hb0.out⟩
  case round =>
    obtain ⟨k, p, done, v6, hk, rfl, rfl, hG⟩ := hrel
    clear Hb0
    by_cases hlt : k < ns.length
    · obtain ⟨g, go, rfl, hcell, hgo⟩ := Hns.out k hlt
      have hcell2 := hG.chg.keep hcell hgo
      obtain ⟨n, hn⟩ : ∃ n, n = ns[k] := ⟨_, rfl⟩
      rw [← hn] at hcell2
      have hfit := hG.fits
      have hsum := hG.sum
      rw [dropcons ns k hlt, ← hn] at hfit hsum
      obtain ⟨g1, g2, g3⟩ := hfit
      have hpl := hG.pl
      by_cases hneg : n < 0
      · obtain ⟨m, rfl⟩ : ∃ m : Nat, n = -(m : Int) := ⟨n.natAbs, by omega⟩
        rw [Int.natAbs_neg, Int.natAbs_natCast] at g1 g2 g3
        rw [takesB, if_pos hneg, List.nil_append, Int.natAbs_neg, Int.natAbs_natCast, List.drop_drop] at hsum
        have hm0 : 1 ≤ m := by omega
        have Hcall := Lib.hid (HD.out.ds p wr m hG.st (by omega))
        have hlt' : (-(m : Int)) < 0 := by omega
        have hww : IntKind.i64.wrap (m : Int) = m := IntWalk.i64_in _ (by omega)
        have HG := Lib.hid hG
        have Hsum := Lib.hid hsum
        have Hg3 := Lib.hid g3
        clear hG hn hcell hsum g3
        go_wp2_with fail
        refine Hcall.out.mono ?_
        rintro e w3 ⟨rfl, h3, hs3⟩
        have hst : RB OwnD ns vs St w w3 (k + 1) v6 (p + m) done := ⟨HG.out.own.keep h3 (fun g hg o hh => by have := HD.out.own _ hh; omega), hs3, by omega, by rw [show vs.length - (p + m) = vs.length - p - m by omega]; exact Hg3.out, Hsum.out, by have := HG.out.len; omega, HG.out.chg.trans h3⟩
        have Hst := Lib.hid hst
        clear hst h3 hs3
        go_wp2_with fail
        go_roundw
        case rel => exact ⟨k + 1, _, _, _, by omega, by go_num, rfl, Hst.out⟩
        case measure => simp [intOf]; omega
      · obtain ⟨m, rfl⟩ : ∃ m : Nat, n = (m : Int) := ⟨n.natAbs, by omega⟩
        rw [Int.natAbs_natCast] at g1 g2 g3
        rw [takesB, if_neg hneg, Int.natAbs_natCast, List.drop_drop, ← List.append_assoc] at hsum
        have hmk := make_bool m g2
        obtain ⟨X, hX⟩ : ∃ X, X = Obj.cells (madeCells #[.bool false] m) 4 := ⟨_, rfl⟩
        have hfr : Fresh w.heap.size wr.heap.size m (wr.alloc X) := by
          refine ⟨hG.chg.size, by simp, fun j hj => ?_, fun j hj => ?_⟩
          · rw [hX]; exact bmade_cell wr _ m j _ hj
          · rw [hX]; exact fresh_frozen rfl
        rw [← hX] at hmk
        have hst1 : St p (wr.alloc X) := HD.out.keep p wr _ _ hG.st (Chg.new wr X) (fun _ _ h => h.elim)
        have Hcall := Lib.hid (Hrd.out p (wr.alloc X) m wr.heap.size hst1 (by omega) g2 hfr)
        have HG := Lib.hid hG
        have Hsum := Lib.hid hsum
        have Hg3 := Lib.hid g3
        have hlt' : ¬ (m : Int) < 0 := by omega
        clear hG hn hcell hsum g3 hX hfr hst1
        go_wp2_with fail
        refine Hcall.out.mono ?_
        rintro e w3 ⟨rfl, h3, hc3, hs3⟩
        have hlw := HG.out.chg.size
        have hch : Chg (fun a _ => OwnD a) w w3 := HG.out.chg.comp (h3.unalloc (T := fun a x => OwnD a) (by
          rintro a x ha (hh | ⟨hh, -⟩)
          · exact hh
          · omega)) (fun _ _ _ h => h) (fun _ _ _ h => h)
        have hown : Own1 w3 w.heap.size 4 v6 (bools done) := (HG.out.own.keep (Chg.new wr X) (fun _ _ _ h => h.elim)).keepAt h3 (by
          rintro g hg o (hh | ⟨hh, -⟩)
          · have := HD.out.own _ hh
            have := (HG.out.own.lt g hg).1
            omega
          · have := (HG.out.own.lt g hg).2
            omega)
        have hrd3 := readsB_of (w := w3) (g := wr.heap.size) (c := m) (n := m) (p := p) (vs := vs) (by omega) hc3
        have hlen3 : (bools ((vs.drop p).take m)).length = m := hrd3.cells.symm
        have Hown := Lib.hid hown
        have Hch := Lib.hid hch
        have Hrd3 := Lib.hid hrd3
        have Hlen3 := Lib.hid hlen3
        have Hs3 := Lib.hid hs3
        clear h3 hc3 hs3 hch hown hrd3 hlen3 Hcall hmk
        go_wp2_with (at_builtin; go_loud (refine (wpList_append_bool rfl (.tmp 47) (.tmp 50) rfl w.heap.size _ (bools done) rfl Hown.out _ (bools ((vs.drop p).take m)) rfl Hrd3.out (bools_one _) (by rw [bools_len, Hlen3.out]; have := HG.out.len; omega) Hch.out.size ?_)))
        intro v' w' hO' hC'
        have hst : RB OwnD ns vs St w w' (k + 1) v' (p + m) (done ++ (vs.drop p).take m) := ⟨by
            rw [show bools (done ++ (vs.drop p).take m) = bools done ++ bools ((vs.drop p).take m) by unfold bools; exact List.map_append]
            exact hO', HD.out.keep _ _ _ _ Hs3.out hC' (fun a x h => (Hown.out.lt a h).1), by omega, by rw [show vs.length - (p + m) = vs.length - p - m by omega]; exact Hg3.out, Hsum.out, by have := HG.out.len; rw [List.length_append, List.length_take, List.length_drop]; omega, Hch.out.comp hC' (fun _ _ _ h => h) (fun a x ha h => by have := (Hown.out.lt a h).1; omega)⟩
        have Hst := Lib.hid hst
        clear hst hO' hC' Hown Hch Hrd3 Hs3
        go_wp2_with fail
        go_roundw
        case rel => exact ⟨k + 1, _, _, _, by omega, by go_num, rfl, Hst.out⟩
        case measure => simp [intOf]; omega
    · have hke : k = ns.length := by omega
      subst hke
      have hsum := hG.sum
      rw [List.drop_length] at hsum
      simp only [takesB, List.append_nil] at hsum
      have HG := Lib.hid hG
      have Hsum := Lib.hid hsum
      clear hG hsum
      go_wp2_with fail
      go_ret2
      refine ⟨_, rfl, ?_, HG.out.chg⟩
      rw [← Hsum.out]
      exact HG.out.own
set_option maxRecDepth 100000 in
set_option maxHeartbeats 1000000 in
theorem decodedB_ok (OwnD : Nat → Prop) (vs : List Bool) (St : Nat → World → Prop) (fR fD d X bc : Nat) (bp : Option Addr) (ns : List Int) (w : World) (h0 : St 0 w) (hD : DecB OwnD w.heap.size vs St fD d) (hv : vs.length ≤ 10000000) (heR : ∀ (args : Array Value) (w : World), (callFunc fR args).run Tryz.prog w = .ok (.enter fR args) w) (heD : ∀ (args : Array Value) (w : World), (callFunc fD args).run Tryz.prog w = .ok (.enter fD args) w) (hns : ∀ j (hj : j < ns.length), ∃ g o, bp = some ⟨g, o, none⟩ ∧ w.cell? ⟨g, o + j, none⟩ = some (.int .i64 ns[j]) ∧ ¬ OwnD g) (hnc : ns.length ≤ 1000000) (hf : FitsN ns vs.length)
    (hrd : ∀ p wx n ob, St p wx → p + n ≤ vs.length → n ≤ 1000000 → Fresh w.heap.size ob n wx → Calls Tryz.prog fR #[.slice (some ⟨ob, 0, none⟩) n n, .pointer (some ⟨X, 0, none⟩)] wx (RdEnd OwnD vs St p n ob wx)) :
    Calls Tryz.prog 15 #[.slice bp ns.length bc, .func (.func fR) #[] #[.pointer (some ⟨X, 0, none⟩)], .func (.func fD) #[.pointer (some ⟨d, 0, none⟩)] #[]] w fun e w' =>
      ∃ v, e = .returned (.tuple #[v, .bool true]) ∧ Own1 w' w.heap.size 4 v (bools (takesB ns vs)) ∧ Chg (fun a _ => OwnD a) w w' := by
  have hb0 : RB OwnD ns vs St w w 0 (.slice none 0 0) 0 [] := ⟨Own1.nil _ _ _, h0, Nat.zero_le _, hf, rfl, by simp; omega, Chg.refl _ _⟩
  have Hb0 := Lib.hid hb0
  have HD := Lib.hid hD
  have Hns := Lib.hid hns
  have Hrd := Lib.hid hrd
  clear hb0 h0 hD hns hrd hf hv
  go_enter Tryz.func15, Tryz.ntmps15
  go_wp2_with fail
  go_loopw [6, 17] (fun v i wx => ∃ k p done v6, k ≤ ns.length ∧ i = .int .i64 (k : Nat) ∧ v6 = v ∧ RB OwnD ns vs St w wx k v6 p done) (fun _ i _ => ns.length - (intOf i).toNat)
  case atStart => exact ⟨0, 0, [], _, Nat.zero_le _, rfl, rfl, Hb0.out⟩
  case round =>
    obtain ⟨k, p, done, v6, hk, rfl, rfl, hG⟩ := hrel
    clear Hb0
    by_cases hlt : k < ns.length
    · obtain ⟨g, go, rfl, hcell, hgo⟩ := Hns.out k hlt
      have hcell2 := hG.chg.keep hcell hgo
      obtain ⟨n, hn⟩ : ∃ n, n = ns[k] := ⟨_, rfl⟩
      rw [← hn] at hcell2
      have hfit := hG.fits
      have hsum := hG.sum
      rw [dropcons ns k hlt, ← hn] at hfit hsum
      obtain ⟨g1, g2, g3⟩ := hfit
      have hpl := hG.pl
      by_cases hneg : n < 0
      · obtain ⟨m, rfl⟩ : ∃ m : Nat, n = -(m : Int) := ⟨n.natAbs, by omega⟩
        rw [Int.natAbs_neg, Int.natAbs_natCast] at g1 g2 g3
        rw [takesB, if_pos hneg, List.nil_append, Int.natAbs_neg, Int.natAbs_natCast, List.drop_drop] at hsum
        have hm0 : 1 ≤ m := by omega
        have Hcall := Lib.hid (HD.out.ds p wr m hG.st (by omega))
        have hlt' : (-(m : Int)) < 0 := by omega
        have hww : IntKind.i64.wrap (m : Int) = m := IntWalk.i64_in _ (by omega)
        have HG := Lib.hid hG
        have Hsum := Lib.hid hsum
        have Hg3 := Lib.hid g3
        clear hG hn hcell hsum g3
        go_wp2_with fail
        refine Hcall.out.mono ?_
        rintro e w3 ⟨rfl, h3, hs3⟩
        have hst : RB OwnD ns vs St w w3 (k + 1) v6 (p + m) done := ⟨HG.out.own.keep h3 (fun g hg o hh => by have := HD.out.own _ hh; omega), hs3, by omega, by rw [show vs.length - (p + m) = vs.length - p - m by omega]; exact Hg3.out, Hsum.out, by have := HG.out.len; omega, HG.out.chg.trans h3⟩
        have Hst := Lib.hid hst
        clear hst h3 hs3
        go_wp2_with fail
        go_roundw
        case rel => exact ⟨k + 1, _, _, _, by omega, by go_num, rfl, Hst.out⟩
        case measure => simp [intOf]; omega
      · obtain ⟨m, rfl⟩ : ∃ m : Nat, n = (m : Int) := ⟨n.natAbs, by omega⟩
        rw [Int.natAbs_natCast] at g1 g2 g3
        rw [takesB, if_neg hneg, Int.natAbs_natCast, List.drop_drop, ← List.append_assoc] at hsum
        have hmk := make_bool m g2
        obtain ⟨XO, hX⟩ : ∃ XO, XO = Obj.cells (madeCells #[.bool false] m) 4 := ⟨_, rfl⟩
        have hfr : Fresh w.heap.size wr.heap.size m (wr.alloc XO) := by
          refine ⟨hG.chg.size, by simp, fun j hj => ?_, fun j hj => ?_⟩
          · rw [hX]; exact bmade_cell wr _ m j _ hj
          · rw [hX]; exact fresh_frozen rfl
        rw [← hX] at hmk
        have hst1 : St p (wr.alloc XO) := HD.out.keep p wr _ _ hG.st (Chg.new wr XO) (fun _ _ h => h.elim)
        have Hcall := Lib.hid (Hrd.out p (wr.alloc XO) m wr.heap.size hst1 (by omega) g2 hfr)
        have HG := Lib.hid hG
        have Hsum := Lib.hid hsum
        have Hg3 := Lib.hid g3
        have hlt' : ¬ (m : Int) < 0 := by omega
        clear hG hn hcell hsum g3 hX hfr hst1
        go_wp2_with fail
        refine Hcall.out.mono ?_
        rintro e w3 ⟨rfl, h3, hc3, hs3⟩
        have hlw := HG.out.chg.size
        have hch : Chg (fun a _ => OwnD a) w w3 := HG.out.chg.comp (h3.unalloc (T := fun a x => OwnD a) (by
          rintro a x ha (hh | ⟨hh, -⟩)
          · exact hh
          · omega)) (fun _ _ _ h => h) (fun _ _ _ h => h)
        have hown : Own1 w3 w.heap.size 4 v6 (bools done) := (HG.out.own.keep (Chg.new wr XO) (fun _ _ _ h => h.elim)).keepAt h3 (by
          rintro g hg o (hh | ⟨hh, -⟩)
          · have := HD.out.own _ hh
            have := (HG.out.own.lt g hg).1
            omega
          · have := (HG.out.own.lt g hg).2
            omega)
        have hrd3 := readsB_of (w := w3) (g := wr.heap.size) (c := m) (n := m) (p := p) (vs := vs) (by omega) hc3
        have hlen3 : (bools ((vs.drop p).take m)).length = m := hrd3.cells.symm
        have Hown := Lib.hid hown
        have Hch := Lib.hid hch
        have Hrd3 := Lib.hid hrd3
        have Hlen3 := Lib.hid hlen3
        have Hs3 := Lib.hid hs3
        clear h3 hc3 hs3 hch hown hrd3 hlen3 Hcall hmk
        go_wp2_with (at_builtin; go_loud (refine (wpList_append_bool rfl (.tmp 47) (.tmp 50) rfl w.heap.size _ (bools done) rfl Hown.out _ (bools ((vs.drop p).take m)) rfl Hrd3.out (bools_one _) (by rw [bools_len, Hlen3.out]; have := HG.out.len; omega) Hch.out.size ?_)))
        intro v' w' hO' hC'
        have hst : RB OwnD ns vs St w w' (k + 1) v' (p + m) (done ++ (vs.drop p).take m) := ⟨by
            rw [show bools (done ++ (vs.drop p).take m) = bools done ++ bools ((vs.drop p).take m) by unfold bools; exact List.map_append]
            exact hO', HD.out.keep _ _ _ _ Hs3.out hC' (fun a x h => (Hown.out.lt a h).1), by omega, by rw [show vs.length - (p + m) = vs.length - p - m by omega]; exact Hg3.out, Hsum.out, by have := HG.out.len; rw [List.length_append, List.length_take, List.length_drop]; omega, Hch.out.comp hC' (fun _ _ _ h => h) (fun a x ha h => by have := (Hown.out.lt a h).1; omega)⟩
        have Hst := Lib.hid hst
        clear hst hO' hC' Hown Hch Hrd3 Hs3
        go_wp2_with fail
        go_roundw
        case rel => exact ⟨k + 1, _, _, _, by omega, by go_num, rfl, Hst.out⟩
        case measure => simp [intOf]; omega
    · have hke : k = ns.length := by omega
      subst hke
      have hsum := hG.sum
      rw [List.drop_length] at hsum
      simp only [takesB, List.append_nil] at hsum
      have HG := Lib.hid hG
      have Hsum := Lib.hid hsum
      clear hG hsum
      go_wp2_with fail
      go_ret2
      refine ⟨_, rfl, ?_, HG.out.chg⟩
      rw [← Hsum.out]
      exact HG.out.own
end Go.Proofs.YtflgbndhahcdnaaGreatDoor
