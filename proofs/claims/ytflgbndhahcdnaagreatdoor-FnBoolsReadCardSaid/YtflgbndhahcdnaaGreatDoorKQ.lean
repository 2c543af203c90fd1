/- Part 17 of the proof: the texts OE, OF, joined. What each proves stands ahead of it. -/
import Derived.Test.YtflgbndhahcdnaaGreatDoorKP
import Derived.Test.YtflgbndhahcdnaaGreatDoorKO
set_option linter.unusedVariables false
set_option linter.unusedSimpArgs false
/- The reader of a bitmap by words, from a bit that begins no byte: the next word, the next byte. -/
namespace Go.Proofs.YtflgbndhahcdnaaGreatDoor
open Go Go.RowKit
theorem two_words (σ : Nat → Bool) (W p rs a V t : Nat) (ha : ∀ t, t < W → a.testBit t = σ (p + t)) (haL : a < 2 ^ W) (hV : ∀ t, t < W → V.testBit t = σ (p + W + t)) (hr : rs ≤ W) (ht : t < W) :
    ((a / 2 ^ rs) ||| shlw W V (W - rs)).testBit t = σ (p + rs + t) := by
  unfold shlw
  rw [Nat.testBit_or, Nat.testBit_div_two_pow, Nat.testBit_mod_two_pow, Nat.testBit_mul_two_pow]
  by_cases h : t + rs < W
  · rw [ha _ h, show p + (t + rs) = p + rs + t by omega]
    have : ¬ W - rs ≤ t := by omega
    simp [this]
  · rw [tb_over W a (t + rs) haL (by omega), hV _ (by omega), show p + W + (t - (W - rs)) = p + rs + t by omega]
    have : W - rs ≤ t := by omega
    simp [this, ht]
set_option maxRecDepth 100000 in
set_option maxHeartbeats 1000000 in
theorem nextWordR_ok (A sb so n rs j L C nw tb ty cur : Nat) (σ : Nat → Bool) (w : World) (hB : Bmp w sb so n σ) (h : WR w A sb so rs j L C nw tb ty cur) (hA : A ≠ sb) (hr1 : 1 ≤ rs) (hr8 : rs < 8) (hL : 16 ≤ L) (hLC : L ≤ C) (hn : j + 16 ≤ n) (hcur : Num64 σ (8 * j) cur) :
    Calls Tryz.prog 62 #[.pointer (some ⟨A, 0, none⟩)] w fun e w' => ∃ v V : Nat, e = .returned (.int .u64 v) ∧ v < 2 ^ 64 ∧ (∀ t, t < 64 → v.testBit t = σ (8 * j + rs + t)) ∧ Chg (Own A) w w' ∧ WR w' A sb so rs (j + 8) (L - 8) (C - 8) nw tb ty V ∧ Num64 σ (8 * (j + 8)) V := by
  have c0 := h.sl
  have c5 := h.cu
  have f0 := h.fr 0 (by omega)
  have hcap : ¬ C = 8 := by omega
  have h8 : (8 : Nat) ≤ L := by omega
  have hW1 := h.sl' (j + 8) (L - 8) (C - 8)
  rw [show so + (j + 8) = so + j + 8 by omega] at hW1
  have hc1 := (Chg.refl (Own A) w).own 0 (.slice (some ⟨sb, so + j + 8, none⟩) (L - 8) (C - 8))
  have HB1 := Lib.hid (hB.keep hc1 (fun _ _ hh => hA hh.symm))
  have HW1 := Lib.hid hW1
  have Hc1 := Lib.hid hc1
  have Hcur := Lib.hid hcur
  have hrs0 : ¬ (rs : Int) = 0 := by omega
  have hwr : IntKind.u64.wrap (rs : Int) = rs := IntWalk.u64_in _ (by omega)
  have hs1 : (cur : Int) / 2 ^ rs = (cur / 2 ^ rs : Nat) := by norm_cast
  have hs3 : ((64 : Int) - rs).toNat = 64 - rs := by omega
  have hs4 : IntKind.i64.wrap ((64 : Int) - rs) = 64 - rs := IntWalk.i64_in _ (by omega)
  have hs5 : (0 : Int) ≤ 64 - rs := by omega
  have hs6 : (64 : Int) - rs ≤ 64 := by omega
  have hw64 : IntKind.i64.wrap 64 = 64 := by decide
  have hrt : ((rs : Nat) : Int).toNat = rs := by omega
  obtain ⟨P, hP⟩ : ∃ P, P = cur / 2 ^ rs := ⟨_, rfl⟩
  rw [← hP] at hs1
  have hP64 : P < 2 ^ 64 := by rw [hP]; exact Nat.lt_of_le_of_lt (Nat.div_le_self _ _) hcur.lt
  have HP := Lib.hid hP
  clear hB h hW1 hc1 hcur hP
  go_enter Tryz.func62, Tryz.ntmps62
  go_wp2_with fail
  generalize w.setCell ⟨A, 0, none⟩ (.slice (some ⟨sb, so + j + 8, none⟩) (L - 8) (C - 8)) = w1 at HB1 HW1 Hc1 ⊢
  clear c0 f0 c5
  have c0 := HW1.out.sl
  have c1 := HW1.out.of
  have c5 := HW1.out.cu
  have hcall := leBits_ok sb so n (j + 8) (L - 8) (C - 8) σ w1.drew HB1.out.drew (by omega) (by omega)
  have Hcall := Lib.hid hcall; clear hcall
  refine wp_region_txt [72] (by kernel_rfl) (by kernel_rfl) ?_
  repeat (first | (refine wpTxt_pure rfl rfl (fun K hK => ?_); go_simp; refine hK _ ?_; clear hK K) | (refine wpTxt_still rfl rfl (fun K hK => ?_); go_simp; refine hK _ ?_; clear hK K))
  refine wpTxt_effect rfl rfl (fun K hK => ?_); go_simp
  refine Hcall.out.mono ?_
  rintro e w5 ⟨V, rfl, hV, h5⟩
  have hW5 := HW1.out.keep h5.undrew (fun _ h => h)
  have c1' := hW5.of
  have c5' := hW5.cu
  have f5' := hW5.fr 5 (by omega)
  have HW6 := Lib.hid (hW5.cur' V)
  have hc6 : Chg (Own A) w (w5.setCell ⟨A, 5, none⟩ (.int .u64 V)) := (Hc1.out.trans (h5.undrew.mono (fun _ _ _ h => h.elim))).own 5 _
  have Hc6 := Lib.hid hc6
  have HV := Lib.hid hV
  have hs2 := shlw64_is V (64 - rs)
  obtain ⟨Q, hQ⟩ : ∃ Q, Q = shlw 64 V (64 - rs) := ⟨_, rfl⟩
  rw [← hQ] at hs2
  have hor := u64_or_nat P Q hP64 (by rw [hQ]; exact shlw_lt 64 V _)
  have hor64 := or64_lt P Q hP64 (by rw [hQ]; exact shlw_lt 64 V _)
  have HQ := Lib.hid hQ
  have Hor64 := Lib.hid hor64
  clear h5 hW5 hc6 hV c0 c1 c5 hQ hor64 hP64
  (refine hK _ _ ?_; clear hK K)
  repeat (first | (refine wpTxt_pure rfl rfl (fun K hK => ?_); go_simp; refine hK _ ?_; clear hK K) | (refine wpTxt_still rfl rfl (fun K hK => ?_); go_simp; refine hK _ ?_; clear hK K))
  refine wpTxt_still rfl rfl (fun K hK => ?_)
  go_simp
  refine ⟨_, toLE_ok V _, ?_⟩
  (refine hK _ ?_; clear hK K)
  repeat (first | (refine wpTxt_pure rfl rfl (fun K hK => ?_); go_simp; refine hK _ ?_; clear hK K) | (refine wpTxt_still rfl rfl (fun K hK => ?_); go_simp; refine hK _ ?_; clear hK K))
  refine wpTxt_nil ?_
  go_wp2_with fail
  go_ret
  refine ⟨P ||| Q, V, rfl, Hor64.out, fun t ht => ?_, Hc6.out, HW6.out, HV.out⟩
  have := two_words σ 64 (8 * j) rs cur V t Hcur.out.tb Hcur.out.lt (fun t ht => by rw [HV.out.tb t ht]; congr 1) (by omega) ht
  rw [HP.out, HQ.out]
  exact this
set_option maxRecDepth 100000 in
set_option maxHeartbeats 1000000 in
theorem nextTrailR_ok (A sb so n rs j L C nw tb ty cur : Nat) (σ : Nat → Bool) (w : World) (hB : Bmp w sb so n σ) (h : WR w A sb so rs j L C nw tb ty cur) (hA : A ≠ sb) (hr1 : 1 ≤ rs) (hr8 : rs < 8) (hL : 2 ≤ L) (hLC : L ≤ C) (hn : j + 2 ≤ n) (hcur : Lo8 σ (8 * j) cur) (htb : 8 < tb) (hty : 1 ≤ ty) (htb2 : tb ≤ 1000000000) (hty2 : ty ≤ 1000000000) :
    Calls Tryz.prog 64 #[.pointer (some ⟨A, 0, none⟩)] w fun e w' => ∃ v V : Nat, e = .returned (.tuple #[.int .u8 v, .int .i64 8]) ∧ Byt σ (8 * j + rs) 8 v ∧ Chg (Own A) w w' ∧ WR w' A sb so rs (j + 1) (L - 1) (C - 1) nw (tb - 8) (ty - 1) V ∧ Lo8 σ (8 * (j + 1)) V := by
  have c0 := h.sl
  have c1 := h.of
  have c3 := h.tb
  have c4 := h.ty
  have c5 := h.cu
  have f0 := h.fr 0 (by omega)
  have f5 := h.fr 5 (by omega)
  have hcap : ¬ C = 1 := by omega
  have hW1 := h.sl' (j + 1) (L - 1) (C - 1)
  rw [show so + (j + 1) = so + j + 1 by omega] at hW1
  have hc1 := (Chg.refl (Own A) w).own 0 (.slice (some ⟨sb, so + j + 1, none⟩) (L - 1) (C - 1))
  have hB1 := hB.keep hc1 (fun _ _ hh => hA hh.symm)
  obtain ⟨x, hx, hx8, hxt⟩ := hB1.cell (j + 1) (by omega)
  rw [show so + (j + 1) = so + j + 1 by omega] at hx
  have d5 := hW1.cu
  have g5 := hW1.fr 5 (by omega)
  have hL0 : 0 < L - 1 := by omega
  have htb' : ¬ (tb : Int) ≤ 8 := by omega
  obtain ⟨cb, hcb⟩ : ∃ cb, cb = cur % 256 := ⟨_, rfl⟩
  have hcb8 : cb < 256 := by omega
  have hcall := fun W => getLSB_ok cur W
  rw [← hcb] at hcall
  have hrs0 : ¬ (rs : Int) = 0 := by omega
  have hrt : ((rs : Nat) : Int).toNat = rs := by omega
  have hwr8 : IntKind.u8.wrap (rs : Int) = rs := IntWalk.u8_in _ (by omega)
  have hs1 : (cb : Int) / 2 ^ rs = (cb / 2 ^ rs : Nat) := by norm_cast
  have hs2 := shlw8_is x (8 - rs)
  have hs3 : ((8 : Int) - rs).toNat = 8 - rs := by omega
  have hs4 : IntKind.i64.wrap ((8 : Int) - rs) = 8 - rs := IntWalk.i64_in _ (by omega)
  have hs5 : (0 : Int) ≤ 8 - rs := by omega
  have hs6 : (8 : Int) - rs ≤ 8 := by omega
  obtain ⟨P, hP⟩ : ∃ P, P = cb / 2 ^ rs := ⟨_, rfl⟩
  obtain ⟨Q, hQ⟩ : ∃ Q, Q = shlw 8 x (8 - rs) := ⟨_, rfl⟩
  rw [← hP] at hs1
  rw [← hQ] at hs2
  have hP8 : P < 256 := by rw [hP]; exact Nat.lt_of_le_of_lt (Nat.div_le_self _ _) hcb8
  have hQ8 : Q < 256 := by rw [hQ]; exact shlw_lt 8 x _
  have hor := u8_or_nat P Q hP8 hQ8
  have horL := or_lt P Q hP8 hQ8
  have HW1 := Lib.hid hW1
  have Hc1 := Lib.hid hc1
  have Hcur := Lib.hid hcur
  have Hxt := Lib.hid hxt
  have HP := Lib.hid hP
  have HQ := Lib.hid hQ
  have Hcb := Lib.hid hcb
  have HorL := Lib.hid horL
  have Hcall := Lib.hid hcall
  clear hB hB1 h hW1 hc1 hcur hxt hP hQ hcb horL hcall
  go_enter Tryz.func64, Tryz.ntmps64
  go_wp2_with fail
  refine (assert_ok _ _ _).mono ?_
  rintro e w1 ⟨rfl, rfl⟩
  go_wp2_with fail
  refine (Hcall.out _).mono ?_
  rintro e w2 ⟨rfl, rfl⟩
  go_wp2_with fail
  refine (setLSB_ok A 5 cur x _ Hcur.out.lt hx8 (by exact d5) (by exact g5)).mono ?_
  rintro e w3 ⟨rfl, rfl⟩
  have hW4 := HW1.out.cur' (lsb cur x)
  have hc4 := Hc1.out.own 5 (.int .u64 (lsb cur x : Nat))
  generalize (w.setCell ⟨A, 0, none⟩ (.slice (some ⟨sb, so + j + 1, none⟩) (L - 1) (C - 1))).setCell ⟨A, 5, none⟩ (.int .u64 (lsb cur x : Nat)) = w4 at hW4 hc4 ⊢
  have k3 := hW4.tb
  have k4 := hW4.ty
  have g3 := hW4.fr 3 (by omega)
  have g4 := hW4.fr 4 (by omega)
  have hW5 := (hW4.tb' (tb - 8)).ty' (ty - 1)
  have hc5 := (hc4.own 3 (.int .i64 (tb - 8 : Nat))).own 4 (.int .i64 (ty - 1 : Nat))
  rw [show ((tb - 8 : Nat) : Int) = (tb : Int) - 8 by omega, show ((ty - 1 : Nat) : Int) = (ty : Int) - 1 by omega] at hW5 hc5
  have HW5 := Lib.hid hW5
  have Hc5 := Lib.hid hc5
  clear c0 c1 c3 c4 c5 f0 f5 hx d5 g5 hW4 hc4 hW5 hc5 HW1 Hc1
  go_wp2_with fail
  go_ret2
  refine ⟨P ||| Q, lsb cur x, rfl, ⟨HorL.out, fun t ht => ?_⟩, Hc5.out, HW5.out, lsb_lt cur x Hcur.out.lt hx8, fun t ht => ?_⟩
  · rw [decide_eq_true ht, Bool.true_and, HP.out, HQ.out]
    exact two_words σ 8 (8 * j) rs cb x t (fun t ht => by rw [Hcb.out, mod_tb _ _ ht]; exact Hcur.out.lo t ht) hcb8 (fun t ht => by rw [Hxt.out t ht]; congr 1) (by omega) ht
  · rw [lsb_tb _ _ _ hx8 ht, Hxt.out t ht]
end Go.Proofs.YtflgbndhahcdnaaGreatDoor
/- The writer of a bitmap by words, from a byte's first bit on. -/
namespace Go.Proofs.YtflgbndhahcdnaaGreatDoor
open Go Go.RowKit
set_option maxRecDepth 100000 in
set_option maxHeartbeats 1000000 in
theorem newWW0_ok (b off n cap length : Nat) (w : World) (hn1 : 1 ≤ n) (hnc : n ≤ cap) (hl2 : length ≤ 1000000000) :
    Calls Tryz.prog 59 #[.slice (some ⟨b, off, none⟩) n cap, .int .i64 0, .int .i64 length] w fun e w' => e = .returned (.pointer (some ⟨w.heap.size, 0, none⟩)) ∧ Chg Nix w w' ∧ w.heap.size < w'.heap.size ∧ WW w' w.heap.size b off 0 0 n cap 0 length 0 := by
  have hqc : ¬ cap = 0 := by omega
  go_enter Tryz.func59, Tryz.ntmps59
  go_wp2_with fail
  go_ret
  exact ⟨rfl, Chg.new _ _, by simp, ⟨by simp, by simp, by simp, by simp, by simp, fun k _ => by simp⟩⟩
set_option maxRecDepth 100000 in
set_option maxHeartbeats 1000000 in
theorem putWord0_ok (Z b off n j L C len cur V : Nat) (β : Nat → Bool) (w : World) (hB : Bmp w b off n β) (h : WW w Z b off 0 j L C 0 len cur) (hZ : Z ≠ b) (hL : 9 ≤ L) (hLC : L ≤ C) (hn : j + 8 ≤ n) (hV : V < 2 ^ 64) :
    Calls Tryz.prog 61 #[.pointer (some ⟨Z, 0, none⟩), .int .u64 V] w fun e w' => e = .returned (.tuple #[]) ∧ Chg (WS Z b off n) w w' ∧ Bmp w' b off n (paste β (8 * j) 64 V) ∧ WW w' Z b off 0 (j + 8) (L - 8) (C - 8) 0 len cur := by
  have c0 := h.sl
  have c1 := h.of
  have hcap : ¬ C = 8 := by omega
  have h8 : (8 : Nat) ≤ L := by omega
  have h8i : (8 : Int) ≤ L := by omega
  have hcall := put64_ok b (off + j) L C V w.drew hV (by omega) (fun i hi => by obtain ⟨x, hx, -⟩ := hB.cell (j + i) (by omega); exact ⟨x, by rw [Nat.add_assoc]; exact hx⟩) (fun i hi => by rw [Nat.add_assoc]; exact hB.fr (j + i) (by omega))
  have Hcall := Lib.hid hcall
  have H := Lib.hid h
  have HB := Lib.hid hB
  clear h hB hcall
  go_enter Tryz.func61, Tryz.ntmps61
  go_wp2_with fail
  refine wp_region_txt [72] (by kernel_rfl) (by kernel_rfl) ?_
  repeat (first | (refine wpTxt_pure rfl rfl (fun K hK => ?_); go_simp; refine hK _ ?_; clear hK K) | (refine wpTxt_still rfl rfl (fun K hK => ?_); go_simp; refine hK _ ?_; clear hK K))
  refine wpTxt_still rfl rfl (fun K hK => ?_)
  go_simp
  refine ⟨_, toLE_ok V _, ?_⟩
  (refine hK _ ?_; clear hK K)
  refine wpTxt_effect rfl rfl (fun K hK => ?_); go_simp
  refine Hcall.out.mono ?_
  rintro e w4 ⟨rfl, h4, hb4⟩
  have h4' := h4.undrew
  have hp := HB.out.put64 j V (by omega) h4' hb4
  have hW4 := H.out.keep h4' (fun x hh => hZ hh.1)
  have k0 := hW4.sl
  have g0 := hW4.fr 0 (by omega)
  have hW5 := hW4.sl' (j + 8) (L - 8) (C - 8)
  rw [show off + (j + 8) = off + j + 8 by omega] at hW5
  have hc5 : Chg (WS Z b off n) w (w4.setCell ⟨Z, 0, none⟩ (.slice (some ⟨b, off + j + 8, none⟩) (L - 8) (C - 8))) := (h4'.mono (fun _ _ _ hh => .inr ⟨hh.1, by omega, by omega⟩)).setCell Z 0 (fun _ => .inl rfl) _
  have hB5 := hp.keep ((Chg.refl (Own Z) w4).own 0 (.slice (some ⟨b, off + j + 8, none⟩) (L - 8) (C - 8))) (fun _ _ hh => hZ hh.symm)
  have HW5 := Lib.hid hW5
  have Hc5 := Lib.hid hc5
  have HB5 := Lib.hid hB5
  clear c0 c1 h4 hb4 h4' hp hW4 hW5 hc5 hB5
  (refine hK _ _ ?_; clear hK K)
  refine wpTxt_nil ?_
  go_wp2_with fail
  go_end0
  exact ⟨rfl, Hc5.out, HB5.out, HW5.out⟩
/-- What is known of a writer behind a byte: where it goes on, if there is more. -/
def WWn (w : World) (Z b off j L C len cur : Nat) : Prop := 2 ≤ L → WW w Z b off 0 (j + 1) (L - 1) (C - 1) 0 len cur
set_option maxRecDepth 100000 in
set_option maxHeartbeats 1000000 in
theorem putTrail80_ok (Z b off n j L C len cur V : Nat) (β : Nat → Bool) (w : World) (hB : Bmp w b off n β) (h : WW w Z b off 0 j L C 0 len cur) (hZ : Z ≠ b) (hL : 1 ≤ L) (hLC : L ≤ C) (hn : j + 1 ≤ n) (hV : V < 256) :
    Calls Tryz.prog 65 #[.pointer (some ⟨Z, 0, none⟩), .int .u8 V, .int .i64 8] w fun e w' => e = .returned (.tuple #[]) ∧ Chg (WS Z b off n) w w' ∧ Bmp w' b off n (paste β (8 * j) 8 V) ∧ WWn w' Z b off j L C len cur := by
  have c0 := h.sl
  have c1 := h.of
  have c4 := h.cu
  have f0 := h.fr 0 (by omega)
  obtain ⟨x0, hx0, -⟩ := hB.cell j (by omega)
  have hfx0 := hB.fr j (by omega)
  obtain ⟨cb, hcb⟩ : ∃ cb, cb = cur % 256 := ⟨_, rfl⟩
  have hcall := fun W => getLSB_ok cur W
  rw [← hcb] at hcall
  have hp := hB.byte j V hV
  rw [byt_paste] at hp
  have hrow : Chg (RowS b off n) w (w.setCell ⟨b, off + j, none⟩ (.int .u8 V)) := (Chg.refl _ _).setCell _ _ (fun _ => ⟨rfl, by omega, by omega⟩) _
  have hW1 := h.keep hrow (fun y hh => hZ hh.1)
  have hL0 : 0 < L := by omega
  have hL1 : (1 : Int) ≤ L := by omega
  have Hcall := Lib.hid hcall
  have HW1 := Lib.hid hW1
  have Hp := Lib.hid hp
  have Hrow := Lib.hid hrow
  clear h hB hcall hW1 hp hrow hcb
  by_cases hC1 : C = 1
  · subst hC1
    obtain rfl : L = 1 := by omega
    go_enter Tryz.func65, Tryz.ntmps65
    go_wp2_with fail
    refine (Hcall.out _).mono ?_
    rintro e w1 ⟨rfl, rfl⟩
    go_wp2_with fail
    go_end0
    exact ⟨rfl, (Hrow.out.mono (fun _ _ _ hh => .inr hh)).setCell Z 0 (fun _ => .inl rfl) _, Hp.out.keep ((Chg.refl (Own Z) _).own 0 _) (fun _ _ hh => hZ hh.symm), fun h => by omega⟩
  · go_enter Tryz.func65, Tryz.ntmps65
    go_wp2_with fail
    refine (Hcall.out _).mono ?_
    rintro e w1 ⟨rfl, rfl⟩
    go_wp2_with fail
    go_end0
    refine ⟨rfl, (Hrow.out.mono (fun _ _ _ hh => .inr hh)).setCell Z 0 (fun _ => .inl rfl) _, Hp.out.keep ((Chg.refl (Own Z) _).own 0 _) (fun _ _ hh => hZ hh.symm), fun h => ?_⟩
    have := HW1.out.sl' (j + 1) (L - 1) (C - 1)
    rwa [show off + (j + 1) = off + j + 1 by omega] at this
/-- A writer of a bitmap by bits, from a byte's first bit on, behind i of m bits. -/
structure BWr (w : World) (Y b off n j L C m i cur : Nat) : Prop where
  sl : w.cell? ⟨Y, 0, none⟩ = some (.slice (some ⟨b, off + j, none⟩) L C)
  po : w.cell? ⟨Y, 1, none⟩ = some (.int .i64 i)
  le : w.cell? ⟨Y, 2, none⟩ = some (.int .i64 m)
  cu : w.cell? ⟨Y, 3, none⟩ = some (.int .u8 cur)
  ma : w.cell? ⟨Y, 4, none⟩ = some (.int .u8 (2 ^ i : Nat))
  by' : w.cell? ⟨Y, 5, none⟩ = some (.int .i64 0)
  fr : ∀ k, k < 6 → w.frozen? ⟨Y, k, none⟩ = false
theorem BWr.lt {w : World} {Y b off n j L C m i cur : Nat} (h : BWr w Y b off n j L C m i cur) : Y < w.heap.size := World.block_lt_of_cell? w _ h.sl
theorem BWr.keep {w w' : World} {Y b off n j L C m i cur : Nat} (h : BWr w Y b off n j L C m i cur) {S : Nat → Nat → Prop} (hc : Chg S w w') (hS : ∀ x, ¬ S Y x) : BWr w' Y b off n j L C m i cur :=
  ⟨hc.keep h.sl (hS _), hc.keep h.po (hS _), hc.keep h.le (hS _), hc.keep h.cu (hS _), hc.keep h.ma (hS _), hc.keep h.by' (hS _), fun k hk => (hc.frozen _ _ h.lt).trans (h.fr k hk)⟩
set_option maxRecDepth 100000 in
set_option maxHeartbeats 1000000 in
theorem newBWr_ok (b off n j L C m : Nat) (β : Nat → Bool) (w : World) (hB : Bmp w b off n β) (hT : Tabs w) (hm : 1 ≤ m) (hL : 1 ≤ L) (hn : j + 1 ≤ n) :
    Calls Tryz.prog 80 #[.slice (some ⟨b, off + j, none⟩) L C, .int .i64 0, .int .i64 m] w fun e w' => ∃ x : Nat, e = .returned (.pointer (some ⟨w.heap.size, 0, none⟩)) ∧ Chg Nix w w' ∧ w.heap.size < w'.heap.size ∧ x < 256 ∧ BWr w' w.heap.size b off n j L C m 0 x := by
  obtain ⟨x, hx, hx8, hxt⟩ := hB.cell j (by omega)
  have ht := hT.bm 0 (by omega)
  rw [show ((2 ^ 0 : Nat) : Int) = 1 from rfl] at ht
  have hm0 : (0 : Int) < m := by omega
  have hL0 : 0 < L := by omega
  have hbl : b < w.heap.size := World.block_lt_of_cell? _ _ hx
  clear hB hxt hT
  go_enter Tryz.func80, Tryz.ntmps80
  go_wp2_with fail
  go_ret
  exact ⟨x, rfl, Chg.new _ _, by simp, hx8, ⟨by simp, by simp, by simp, by simp, by simp, by simp, fun k _ => by simp⟩⟩
theorem BWr.cur' {w : World} {Y b off n j L C m i cur : Nat} (h : BWr w Y b off n j L C m i cur) (v : Nat) : BWr (w.setCell ⟨Y, 3, none⟩ (.int .u8 v)) Y b off n j L C m i v :=
  ⟨cell_ne _ h.sl (by omega), cell_ne _ h.po (by omega), cell_ne _ h.le (by omega), World.cell?_setCell_same _ _ _ h.cu, cell_ne _ h.ma (by omega), cell_ne _ h.by' (by omega), fun k hk => by rw [World.frozen?_setCell]; exact h.fr k hk⟩
theorem BWr.drew {w : World} {Y b off n j L C m i cur : Nat} (h : BWr w Y b off n j L C m i cur) : BWr w.drew Y b off n j L C m i cur := h.keep (Chg.drew (Chg.refl Nix w)) (fun _ h => h)
set_option maxRecDepth 100000 in
set_option maxHeartbeats 1000000 in
theorem bwSet_ok (Y b off n j L C m i cur : Nat) (w : World) (h : BWr w Y b off n j L C m i cur) (hc8 : cur < 256) (hi : i < 8) :
    Calls Tryz.prog 81 #[.pointer (some ⟨Y, 0, none⟩)] w fun e w' => e = .returned (.tuple #[]) ∧ Chg (Own Y) w w' ∧ BWr w' Y b off n j L C m i (cur ||| 2 ^ i) := by
  have hp := pow8 i hi
  have hor := u8_or_nat cur (2 ^ i) hc8 (by omega)
  have h3 := h.cu
  have h4 := h.ma
  have f3 := h.fr 3 (by omega)
  have H := Lib.hid (h.cur' (cur ||| 2 ^ i))
  obtain ⟨P, hP⟩ : ∃ P, P = 2 ^ i := ⟨_, rfl⟩
  rw [← hP] at hor h4 H ⊢
  clear h hP hp
  go_enter Tryz.func81, Tryz.ntmps81
  go_wp2_with fail
  (refine wp_region_txt [] (by kernel_rfl) (by kernel_rfl) ?_; repeat (first | (refine wpTxt_pure rfl rfl (fun K hK => ?_); go_simp; refine hK _ ?_; clear hK K) | (refine wpTxt_still rfl rfl (fun K hK => ?_); go_simp; refine hK _ ?_; clear hK K)))
  (refine wpTxt_effect rfl rfl (fun K hK => ?_); go_simp; refine hK _ _ ?_; clear hK K)
  refine wpTxt_nil ?_
  go_wp2_with fail
  go_end0
  exact ⟨rfl, ((Chg.refl _ _).own 3 _).drew, H.out.drew⟩
theorem xor_all : ∀ t : Fin 8, bits .xor .u8 IntKind.u8.max ((2 ^ t.val : Nat) : Int) = (255 - 2 ^ t.val : Nat) := by decide
set_option maxRecDepth 100000 in
set_option maxHeartbeats 1000000 in
theorem bwClear_ok (Y b off n j L C m i cur : Nat) (w : World) (h : BWr w Y b off n j L C m i cur) (hc8 : cur < 256) (hi : i < 8) :
    Calls Tryz.prog 82 #[.pointer (some ⟨Y, 0, none⟩)] w fun e w' => e = .returned (.tuple #[]) ∧ Chg (Own Y) w w' ∧ BWr w' Y b off n j L C m i (cur &&& (255 - 2 ^ i)) := by
  have hp := pow8 i hi
  have hnot : bits .xor .u8 IntKind.u8.max ((2 ^ i : Nat) : Int) = (255 - 2 ^ i : Nat) := xor_all ⟨i, hi⟩
  have hr8 : 255 - 2 ^ i < 256 := Nat.lt_of_le_of_lt (Nat.sub_le _ _) (by decide)
  have hand := u8_and_nat cur (255 - 2 ^ i) hc8 hr8
  have h3 := h.cu
  have h4 := h.ma
  have f3 := h.fr 3 (by omega)
  have H := Lib.hid (h.cur' (cur &&& (255 - 2 ^ i)))
  obtain ⟨P, hP⟩ : ∃ P, P = 2 ^ i := ⟨_, rfl⟩
  obtain ⟨R, hR⟩ : ∃ R, R = 255 - 2 ^ i := ⟨_, rfl⟩
  rw [← hR] at hand hnot H ⊢
  rw [← hP] at h4 hnot
  clear h hP hp hR hr8
  go_enter Tryz.func82, Tryz.ntmps82
  go_wp2_with fail
  (refine wp_region_txt [] (by kernel_rfl) (by kernel_rfl) ?_; repeat (first | (refine wpTxt_pure rfl rfl (fun K hK => ?_); go_simp; refine hK _ ?_; clear hK K) | (refine wpTxt_still rfl rfl (fun K hK => ?_); go_simp; refine hK _ ?_; clear hK K)))
  (refine wpTxt_effect rfl rfl (fun K hK => ?_); go_simp; refine hK _ _ ?_; clear hK K)
  refine wpTxt_nil ?_
  go_wp2_with fail
  go_end0
  exact ⟨rfl, ((Chg.refl _ _).own 3 _).drew, H.out.drew⟩
set_option maxRecDepth 100000 in
set_option maxHeartbeats 1000000 in
theorem bwNext_ok (Y b off n j L C m i cur : Nat) (w : World) (h : BWr w Y b off n j L C m i cur) (hi : i < 7) :
    Calls Tryz.prog 83 #[.pointer (some ⟨Y, 0, none⟩)] w fun e w' => e = .returned (.tuple #[]) ∧ Chg (Own Y) w w' ∧ BWr w' Y b off n j L C m (i + 1) cur := by
  have hp := pow8 (i + 1) (by omega)
  have hp1 := Nat.two_pow_pos (i + 1)
  have hsh : IntKind.u8.wrap (((2 ^ i : Nat) : Int) * 2) = (2 ^ (i + 1) : Nat) := by
    rw [show ((2 ^ i : Nat) : Int) * 2 = (2 ^ (i + 1) : Nat) by rw [Nat.pow_succ]; omega]
    exact IntWalk.u8_in _ (by omega)
  have h1 := h.po
  have h4 := h.ma
  have f1 := h.fr 1 (by omega)
  have f4 := h.fr 4 (by omega)
  have H := Lib.hid h
  obtain ⟨P, hP⟩ : ∃ P, P = 2 ^ i := ⟨_, rfl⟩
  obtain ⟨R, hR⟩ : ∃ R, R = 2 ^ (i + 1) := ⟨_, rfl⟩
  rw [← hR] at hsh hp1
  rw [← hP] at h4 hsh
  have hR0 : ¬ (R : Int) = 0 := by omega
  have HR := Lib.hid hR
  clear h hP hp hR hp1
  go_enter Tryz.func83, Tryz.ntmps83
  go_wp2_with fail
  go_end0
  refine ⟨rfl, ((Chg.refl _ _).own 4 _).own 1 _, ⟨by have := H.out.sl; go_cell, ?_, by have := H.out.le; go_cell, by have := H.out.cu; go_cell, ?_, by have := H.out.by'; go_cell, fun k hk => by simp only [World.frozen?_setCell]; exact H.out.fr k hk⟩⟩
  · show _ = some (Value.int .i64 ((i : Int) + 1)); go_cell
  · rw [← HR.out]; go_cell
set_option maxRecDepth 100000 in
set_option maxHeartbeats 1000000 in
theorem bwFin_ok (Y b off n j L C m cur : Nat) (β : Nat → Bool) (w : World) (hB : Bmp w b off n β) (h : BWr w Y b off n j L C m m cur) (hm1 : 1 ≤ m) (hm : m < 8) (hc8 : cur < 256) (hL : 1 ≤ L) (hn : j + 1 ≤ n) :
    Calls Tryz.prog 84 #[.pointer (some ⟨Y, 0, none⟩)] w fun e w' => e = .returned (.tuple #[]) ∧ Chg (RowS b off n) w w' ∧ Bmp w' b off n (byt β j cur) := by
  have hp := pow8 m hm
  have hp1 : 2 ≤ 2 ^ m := by
    have := Nat.pow_le_pow_right (n := 2) (by decide) hm1
    simpa using this
  have h0 := h.sl
  have h2 := h.le
  have h3 := h.cu
  have h4 := h.ma
  have h5 := h.by'
  obtain ⟨x0, hx0, -⟩ := hB.cell j (by omega)
  have hfx0 := hB.fr j (by omega)
  obtain ⟨P, hP⟩ : ∃ P, P = 2 ^ m := ⟨_, rfl⟩
  rw [← hP] at h4 hp1
  have hP1 : ((P : Int) != 1) = true := by simp; omega
  have hP1' : ¬ (P : Int) = 1 := by omega
  have hm0 : (0 : Int) < m := by omega
  have hL0 : 0 < L := by omega
  have hm0' : 0 < m := by omega
  have Hp := Lib.hid (hB.byte j cur hc8)
  clear h hB hP hp
  go_enter Tryz.func84, Tryz.ntmps84
  go_wp2_with fail
  go_quiet (fail)
  go_wp2_with fail
  (refine wp_region_txt [] (by kernel_rfl) (by kernel_rfl) ?_; repeat (first | (refine wpTxt_pure rfl rfl (fun K hK => ?_); go_simp; refine hK _ ?_; clear hK K) | (refine wpTxt_still rfl rfl (fun K hK => ?_); go_simp; refine hK _ ?_; clear hK K)))
  (refine wpTxt_effect rfl rfl (fun K hK => ?_); go_simp; refine hK _ _ ?_; clear hK K)
  refine wpTxt_nil ?_
  go_wp2_with fail
  go_end0
  exact ⟨rfl, (((Chg.refl _ _).setCell _ _ (fun _ => ⟨rfl, by omega, by omega⟩) _).drewN _).drew, (Hp.out.keep (((Chg.refl Nix _).drewN _).drew) (fun _ _ h => h))⟩
/-- A round of the writing of a byte's first bits. -/
structure Bt (Y b off n j L C m V : Nat) (w wx : World) (t cur : Nat) : Prop where
  wr : BWr wx Y b off n j L C m t cur
  lt : cur < 256
  tb : ∀ s, s < t → cur.testBit s = V.testBit s
  chg : Chg (Own Y) w wx
theorem Bt.step {Y b off n j L C m V t cur cur' : Nat} {w wx w' : World} (h : Bt Y b off n j L C m V w wx t cur) (ht : t < 8) (hw : BWr w' Y b off n j L C m (t + 1) cur') (hl : cur' < 256) (hc : Chg (Own Y) wx w') (hb : ∀ s, s < 8 → cur'.testBit s = if s = t then V.testBit t else cur.testBit s) : Bt Y b off n j L C m V w w' (t + 1) cur' := by
  refine ⟨hw, hl, fun s hs => ?_, h.chg.trans hc⟩
  rw [hb s (by omega)]
  by_cases e : s = t
  · subst e; rw [if_pos rfl]
  · rw [if_neg e]; exact h.tb s (by omega)
theorem set_tb (cur t s : Nat) : (cur ||| 2 ^ t).testBit s = if s = t then true else cur.testBit s := by
  rw [Nat.testBit_or, tb_pow]
  by_cases e : t = s
  · subst e; simp
  · have : ¬ s = t := fun h => e h.symm
    simp [e, this]
theorem clear_tb (cur t s : Nat) (ht : t < 8) (hs : s < 8) : (cur &&& (255 - 2 ^ t)).testBit s = if s = t then false else cur.testBit s := by
  rw [Nat.testBit_and, tb_flip ⟨t, ht⟩ ⟨s, hs⟩]
  by_cases e : t = s
  · subst e; simp
  · have : ¬ s = t := fun h => e h.symm
    simp [e, this]
set_option maxRecDepth 100000 in
set_option maxHeartbeats 1000000 in
theorem putTrailM_ok (Z b off n j L C len cur V m : Nat) (β : Nat → Bool) (w : World) (hB : Bmp w b off n β) (hT : Tabs w) (h : WW w Z b off 0 j L C 0 len cur) (hZ : Z ≠ b) (hL : 1 ≤ L) (hLC : L ≤ C) (hLb : L ≤ 1000000000) (hn : j + 1 ≤ n) (hV : V < 256) (hm1 : 1 ≤ m) (hm : m < 8) :
    Calls Tryz.prog 65 #[.pointer (some ⟨Z, 0, none⟩), .int .u8 V, .int .i64 m] w fun e w' => e = .returned (.tuple #[]) ∧ Chg (WS Z b off n) w w' ∧ ∃ x, (∀ t, t < m → x.testBit t = V.testBit t) ∧ Bmp w' b off n (byt β j x) := by
  have c0 := h.sl
  have c1 := h.of
  have c4 := h.cu
  obtain ⟨cb, hcb⟩ : ∃ cb, cb = cur % 256 := ⟨_, rfl⟩
  have hcall := fun W => getLSB_ok cur W
  rw [← hcb] at hcall
  have hm8 : ¬ (m : Int) = 8 := by omega
  have hm0 : (0 : Int) < m := by omega
  have hm0' : 0 < m := by omega
  have hm8' : (m : Int) < 8 := by omega
  have hm8n : m < 8 := by omega
  have hb1 : (m + 7) / 8 = 1 := by omega
  have hmw : IntKind.i64.wrap (m : Int) = m := IntWalk.i64_in _ (by omega)
  have Hcall := Lib.hid hcall
  have H := Lib.hid h
  have HB := Lib.hid hB
  have HT := Lib.hid hT
  have hbl : b < w.heap.size := by obtain ⟨x, hx, -⟩ := hB.cell j (by omega); exact World.block_lt_of_cell? w _ hx
  clear h hB hT hcall hcb
  go_enter Tryz.func65, Tryz.ntmps65
  go_wp2_with fail
  refine (Hcall.out _).mono ?_
  rintro e w1 ⟨rfl, rfl⟩
  go_wp2_with fail
  refine (assert_ok _ _ _).mono ?_
  rintro e w2 ⟨rfl, rfl⟩
  go_wp2_with fail
  refine wp_region_txt [40] (by kernel_rfl) (by kernel_rfl) ?_
  repeat (first | (refine wpTxt_pure rfl rfl (fun K hK => ?_); go_simp; refine hK _ ?_; clear hK K) | (refine wpTxt_still rfl rfl (fun K hK => ?_); go_simp; refine hK _ ?_; clear hK K))
  refine wpTxt_still rfl rfl (fun K hK => ?_)
  go_simp
  try rw [hmw]
  refine ⟨_, bytesFor_ok m _ (by omega), ?_⟩
  rw [hb1]
  (refine hK _ ?_; clear hK K)
  repeat (first | (refine wpTxt_pure rfl rfl (fun K hK => ?_); go_simp; refine hK _ ?_; clear hK K) | (refine wpTxt_still rfl rfl (fun K hK => ?_); go_simp; refine hK _ ?_; clear hK K))
  refine wpTxt_effect rfl rfl (fun K hK => ?_); go_simp
  refine (assert_ok _ _ _).mono ?_
  rintro e w3 ⟨rfl, rfl⟩
  (refine hK _ _ ?_; clear hK K)
  refine wpTxt_nil ?_
  have hnw := newBWr_ok b off n j L C m β w1.drew.drew HB.out.drew.drew HT.out.drew.drew hm1 hL hn
  have Hnw := Lib.hid hnw
  clear hnw
  go_wp2_with fail
  (refine wp_region_txt [] (by kernel_rfl) (by kernel_rfl) ?_; repeat (first | (refine wpTxt_pure rfl rfl (fun K hK => ?_); go_simp; refine hK _ ?_; clear hK K) | (refine wpTxt_still rfl rfl (fun K hK => ?_); go_simp; refine hK _ ?_; clear hK K)))
  refine wpTxt_effect rfl rfl (fun K hK => ?_); go_simp
  refine Hnw.out.mono ?_
  rintro e w4 ⟨x, rfl, hc4, hl4, hx8, hY⟩
  obtain ⟨Y, hYe⟩ : ∃ Y, Y = w1.drew.drew.heap.size := ⟨_, rfl⟩
  rw [← hYe] at hl4 hY ⊢
  have hb0 : Bt Y b off n j L C m V w4 w4 0 x := ⟨hY, hx8, fun s hs => by omega, Chg.refl _ _⟩
  have Hb0 := Lib.hid hb0
  have Hc4 := Lib.hid hc4.undrew.undrew
  have HYe := Lib.hid hYe
  clear hc4 hY hx8 hb0 hYe c0 c1 c4
  (refine hK _ _ ?_; clear hK K)
  repeat (first | (refine wpTxt_pure rfl rfl (fun K hK => ?_); go_simp; refine hK _ ?_; clear hK K) | (refine wpTxt_still rfl rfl (fun K hK => ?_); go_simp; refine hK _ ?_; clear hK K))
  refine wpTxt_nil ?_
  go_wp2_with fail
  go_loopw [1, 9] (fun u v wx => ∃ t cu, t ≤ m ∧ u = .int .u8 (V / 2 ^ t : Nat) ∧ v = .int .i64 (t : Nat) ∧ Bt Y b off n j L C m V w4 wx t cu) (fun _ v _ => m - (intOf v).toNat)
  case atStart => exact ⟨0, x, Nat.zero_le _, by rw [Nat.pow_zero, Nat.div_one], rfl, Hb0.out⟩
  case round =>
    obtain ⟨t, cu, ht, rfl, rfl, hR⟩ := hrel
    by_cases htm : t < m
    · have htm' : (t : Int) < m := by omega
      obtain ⟨U, hU⟩ : ∃ U, U = V / 2 ^ t := ⟨_, rfl⟩
      have hU8 : U < 256 := by rw [hU]; exact Nat.lt_of_le_of_lt (Nat.div_le_self _ _) hV
      have hne := and_pow_ne U 0
      rw [show (2 : Nat) ^ 0 = 1 from rfl, hU, Nat.testBit_div_two_pow, Nat.zero_add, ← hU] at hne
      have hand := u8_and_nat U 1 hU8 (by decide)
      rw [show ((1 : Nat) : Int) = 1 from rfl] at hand
      have hU2 : (U : Int) / 2 = (V / 2 ^ (t + 1) : Nat) := by rw [hU, Nat.pow_succ, ← Nat.div_div_eq_div_mul]; omega
      obtain ⟨U2, hU2e⟩ : ∃ U2, U2 = V / 2 ^ (t + 1) := ⟨_, rfl⟩
      rw [← hU2e] at hU2
      rw [← hU]
      obtain ⟨E1, hE1⟩ : ∃ E1, E1 = U &&& 1 := ⟨_, rfl⟩
      rw [← hE1] at hand hne
      clear hE1
      have HU := Lib.hid hU
      have HU2 := Lib.hid hU2e
      have HR := Lib.hid hR
      clear hU hR hU2e
      cases hbit : V.testBit t with
      | true =>
        rw [hbit] at hne
        have hE0 : ¬ (E1 : Int) = 0 := by simpa using hne
        have Hs := Lib.hid (bwSet_ok Y b off n j L C m t cu wr HR.out.wr HR.out.lt (by omega))
        go_wp2_with fail
        refine Hs.out.mono ?_
        rintro e w5 ⟨rfl, h5, hY5⟩
        have Hn := Lib.hid (bwNext_ok Y b off n j L C m t _ w5 hY5 (by omega))
        have H5 := Lib.hid h5
        clear h5 hY5
        go_wp2_with fail
        refine Hn.out.mono ?_
        rintro e w6 ⟨rfl, h6, hY6⟩
        have hst := HR.out.step (by omega) hY6 (or_lt _ _ HR.out.lt (by have := pow8 t (by omega); omega)) (H5.out.trans h6) (fun s hs => by rw [set_tb, hbit])
        have Hst := Lib.hid hst
        clear hst h6 hY6
        go_wp2_with fail
        go_roundw
        case rel => exact ⟨t + 1, _, htm, by rw [← HU2.out], by go_num, Hst.out⟩
        case measure => simp [intOf]; omega
      | false =>
        rw [hbit] at hne
        have hE0 : (E1 : Int) = 0 := by simpa using hne
        have Hs := Lib.hid (bwClear_ok Y b off n j L C m t cu wr HR.out.wr HR.out.lt (by omega))
        go_wp2_with fail
        refine Hs.out.mono ?_
        rintro e w5 ⟨rfl, h5, hY5⟩
        have Hn := Lib.hid (bwNext_ok Y b off n j L C m t _ w5 hY5 (by omega))
        have H5 := Lib.hid h5
        clear h5 hY5
        go_wp2_with fail
        refine Hn.out.mono ?_
        rintro e w6 ⟨rfl, h6, hY6⟩
        have hst := HR.out.step (by omega) hY6 (and_lt _ _ HR.out.lt) (H5.out.trans h6) (fun s hs => by rw [clear_tb _ _ _ (by omega) hs, hbit])
        have Hst := Lib.hid hst
        clear hst h6 hY6
        go_wp2_with fail
        go_roundw
        case rel => exact ⟨t + 1, _, htm, by rw [← HU2.out], by go_num, Hst.out⟩
        case measure => simp [intOf]; omega
    · obtain rfl : t = m := by omega
      have hcw : Chg (fun a _ => a = Y) w1 wr := (Hc4.out.mono (fun _ _ _ h => h.elim)).trans (hR.chg.mono (fun _ _ _ h => h))
      have hbY : b ≠ Y := by have := HYe.out; have : Y = w1.heap.size := this; omega
      have hB2 := HB.out.keep hcw (fun _ _ h => hbY h)
      have Hf := Lib.hid (bwFin_ok Y b off n j L C t cu β wr hB2 hR.wr hm1 hm hR.lt hL hn)
      have Hcw := Lib.hid hcw
      have HR := Lib.hid hR
      clear hcw hR hB2
      go_wp2_with fail
      refine Hf.out.mono ?_
      rintro e w7 ⟨rfl, h7, hB7⟩
      have H7 := Lib.hid h7
      have HB7 := Lib.hid hB7
      clear h7 hB7
      go_wp2_with fail
      go_end0
      refine ⟨rfl, (Hcw.out.mono (fun a x ha h => ?_)).trans (H7.out.mono (fun _ _ _ h => .inr h)), cu, HR.out.tb, HB7.out⟩
      have : Y = w1.heap.size := HYe.out
      omega
end Go.Proofs.YtflgbndhahcdnaaGreatDoor
