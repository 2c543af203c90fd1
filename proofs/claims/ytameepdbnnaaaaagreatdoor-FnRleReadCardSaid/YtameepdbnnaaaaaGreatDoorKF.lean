/- Part 6 of the proof: the texts BY, BT, BU, BZ, joined. What each proves stands ahead of it. -/
import Derived.Test.YtameepdbnnaaaaaGreatDoorKE
set_option linter.unusedVariables false
set_option linter.unusedSimpArgs false
/- The writer of a bitmap by words: the next byte. -/
namespace Go.Proofs.YtameepdbnnaaaaaGreatDoor
open Go Go.RowKit
theorem byt_paste (β : Nat → Bool) (q x : Nat) : byt β q x = paste β (8 * q) 8 x := by
  funext i
  unfold byt paste
  by_cases h : i / 8 = q
  · rw [if_pos h, if_pos (by omega)]; congr 1; omega
  · rw [if_neg h, if_neg (by omega)]
set_option maxRecDepth 100000 in
set_option maxHeartbeats 1000000 in
theorem putTrail8_ok (Z b off n rd j L C len cur V : Nat) (β : Nat → Bool) (w : World) (hB : Bmp w b off n β) (h : WW w Z b off rd j L C (2 ^ rd - 1) len cur) (hZ : Z ≠ b) (hr1 : 1 ≤ rd) (hr : rd < 8) (hL : 2 ≤ L) (hLC : L ≤ C) (hn : j + 2 ≤ n) (hcur : Lo8 β (8 * j) cur) (hV : V < 256) :
    Calls Tryz.prog 98 #[.pointer (some ⟨Z, 0, none⟩), .int .u8 V, .int .i64 8] w fun e w' => e = .returned (.tuple #[]) ∧ Chg (WS Z b off n) w w' ∧ Bmp w' b off n (paste β (8 * j + rd) 8 V) ∧ ∃ X, WW w' Z b off rd (j + 1) (L - 1) (C - 1) (2 ^ rd - 1) len X ∧ Lo8 (paste β (8 * j + rd) 8 V) (8 * (j + 1)) X := by
  obtain ⟨M, hM⟩ : ∃ M, M = 2 ^ rd - 1 := ⟨_, rfl⟩
  have hM8 : M < 256 := by rw [hM]; exact ones_lt 8 rd (by omega)
  rw [← hM] at h
  have c0 := h.sl
  have c1 := h.of
  have c3 := h.ma
  have c4 := h.cu
  have f0 := h.fr 0 (by omega)
  have f4 := h.fr 4 (by omega)
  have hcap : ¬ C = 1 := by omega
  have hrd0 : ¬ (rd : Int) = 0 := by omega
  have hrt : ((rd : Nat) : Int).toNat = rd := by omega
  have hs3 : ((8 : Int) - rd).toNat = 8 - rd := by omega
  have hs4 : IntKind.i64.wrap ((8 : Int) - rd) = 8 - rd := IntWalk.i64_in _ (by omega)
  have hs5 : (0 : Int) ≤ 8 - rd := by omega
  have hs6 : (8 : Int) - rd ≤ 8 := by omega
  have hr0 : (0 : Int) ≤ rd := by omega
  have hr8 : (rd : Int) ≤ 8 := by omega
  have hs1 := shlw8_is V rd
  have hs2 : (V : Int) / 2 ^ (8 - rd) = (V / 2 ^ (8 - rd) : Nat) := by norm_cast
  have hwM : IntKind.u8.wrap (M : Int) = M := IntWalk.u8_in _ (by omega)
  have hR : rotw 8 V rd < 256 := rotw_lt 8 V rd hV
  have hsor : bits .or .u8 ((shlw 8 V rd : Nat) : Int) ((V / 2 ^ (8 - rd) : Nat) : Int) = (rotw 8 V rd : Nat) := u8_or_nat _ _ (shlw_lt 8 V rd) (Nat.lt_of_le_of_lt (Nat.div_le_self _ _) hV)
  obtain ⟨R, hRe⟩ : ∃ R, R = rotw 8 V rd := ⟨_, rfl⟩
  obtain ⟨A, hAe⟩ : ∃ A, A = shlw 8 V rd := ⟨_, rfl⟩
  obtain ⟨B, hBe⟩ : ∃ B, B = V / 2 ^ (8 - rd) := ⟨_, rfl⟩
  rw [← hRe] at hR
  rw [← hRe, ← hAe, ← hBe] at hsor
  rw [← hAe] at hs1
  rw [← hBe] at hs2
  obtain ⟨cb, hcb⟩ : ∃ cb, cb = cur % 256 := ⟨_, rfl⟩
  have hcb8 : cb < 256 := by omega
  have hcbt : ∀ t, t < 8 → cb.testBit t = β (8 * j + t) := fun t ht => by rw [hcb, mod_tb _ _ ht]; exact hcur.lo t ht
  have hcall := fun W => getLSB_ok cur W
  rw [← hcb] at hcall
  obtain ⟨x0, hx0, -⟩ := hB.cell j (by omega)
  have hfx0 := hB.fr j (by omega)
  obtain ⟨x, hx, hx8, hxt⟩ := hB.cell (j + 1) (by omega)
  have hfx := hB.fr (j + 1) (by omega)
  have d1 := u8_and_nat cb M hcb8 hM8
  have d2 := u8_andNot_nat R M hR hM8
  have d3 := u8_or_nat (cb &&& M) (R &&& (255 - M)) (and_lt _ _ hcb8) (and_lt _ _ hR)
  have d4 := u8_and_nat R M hR hM8
  have d5 := u8_andNot_nat x M hx8 hM8
  have d6 := u8_or_nat (x &&& (255 - M)) (R &&& M) (and_lt _ _ hx8) (and_lt _ _ hR)
  have hd3 : (cb &&& M) ||| (R &&& (255 - M)) = mixw 8 cb R M := rfl
  have hd6 : (x &&& (255 - M)) ||| (R &&& M) = mixw 8 R x M := Nat.or_comm _ _
  rw [hd3] at d3
  rw [hd6] at d6
  obtain ⟨D1, hD1⟩ : ∃ D1, D1 = cb &&& M := ⟨_, rfl⟩
  obtain ⟨D2, hD2⟩ : ∃ D2, D2 = R &&& (255 - M) := ⟨_, rfl⟩
  obtain ⟨D3, hD3⟩ : ∃ D3, D3 = mixw 8 cb R M := ⟨_, rfl⟩
  obtain ⟨D4, hD4⟩ : ∃ D4, D4 = R &&& M := ⟨_, rfl⟩
  obtain ⟨D5, hD5⟩ : ∃ D5, D5 = x &&& (255 - M) := ⟨_, rfl⟩
  obtain ⟨D6, hD6⟩ : ∃ D6, D6 = mixw 8 R x M := ⟨_, rfl⟩
  rw [← hD1] at d1 d3
  rw [← hD2] at d2 d3
  rw [← hD3] at d3
  rw [← hD4] at d4 d6
  rw [← hD5] at d5 d6
  rw [← hD6] at d6
  have hD3l : D3 < 256 := by rw [hD3]; exact mixw_lt 8 cb R M hcb8 hR
  have hD6l : D6 < 256 := by rw [hD6]; exact mixw_lt 8 R x M hR hx8
  have hwD : IntKind.u64.wrap (D6 : Int) = D6 := IntWalk.u64_in _ (by omega)
  have hp := (hB.byte j D3 hD3l).byte (j + 1) D6 hD6l
  rw [byt_paste, byt_paste, hD3, hD6, hRe, hM, show 8 * (j + 1) = 8 * j + 8 by omega, paste_two 8 (8 * j) rd cb x V β (by omega) hV hcbt (fun t ht => by have := hxt t ht; rwa [show 8 * (j + 1) + t = 8 * j + 8 + t by omega] at this), ← hM, ← hRe, ← hD3, ← hD6] at hp
  have hpn := fun t ht => paste_next 8 (8 * j) rd cb x V β (by omega) hV hcbt (fun t ht => by have := hxt t ht; rwa [show 8 * (j + 1) + t = 8 * j + 8 + t by omega] at this) t ht
  rw [← hM, ← hRe, ← hD6] at hpn
  rw [show off + (j + 1) = off + j + 1 by omega] at hp hx hfx
  have hrow : Chg (RowS b off n) w ((w.setCell ⟨b, off + j, none⟩ (.int .u8 D3)).setCell ⟨b, off + j + 1, none⟩ (.int .u8 D6)) := ((Chg.refl _ _).setCell _ _ (fun _ => ⟨rfl, by omega, by omega⟩) _).setCell _ _ (fun _ => ⟨rfl, by omega, by omega⟩) _
  have hW2 := ((h.keep hrow (fun y hh => hZ hh.1)).cur' D6).sl' (j + 1) (L - 1) (C - 1)
  rw [show off + (j + 1) = off + j + 1 by omega] at hW2
  have hc2 : Chg (WS Z b off n) w _ := ((hrow.mono (fun _ _ _ hh => .inr hh)).setCell Z 4 (fun _ => .inl rfl) (.int .u64 D6)).setCell Z 0 (fun _ => .inl rfl) (.slice (some ⟨b, off + j + 1, none⟩) (L - 1) (C - 1))
  have hB2 := hp.keep (((Chg.refl (Own Z) _).own 4 (.int .u64 D6)).own 0 (.slice (some ⟨b, off + j + 1, none⟩) (L - 1) (C - 1))) (fun _ _ hh => hZ hh.symm)
  have Hcall := Lib.hid hcall
  have HW2 := Lib.hid hW2
  have Hc2 := Lib.hid hc2
  have HB2 := Lib.hid hB2
  have Hpn := Lib.hid hpn
  have HM := Lib.hid hM
  have HD6l := Lib.hid hD6l
  have hL1 : 1 < L := by omega
  have hL0 : 0 < L := by omega
  clear hB h hcur hM hRe hAe hBe hcb hcbt hcall hxt hD1 hD2 hD3 hD4 hD5 hD6 hd3 hd6 hp hpn hrow hW2 hc2 hB2 hD3l hD6l
  go_enter Tryz.func98, Tryz.ntmps98
  go_wp2_with fail
  refine (Hcall.out _).mono ?_
  rintro e w1 ⟨rfl, rfl⟩
  go_wp2_with fail
  (refine wp_region_txt [] (by kernel_rfl) (by kernel_rfl) ?_; repeat (first | (refine wpTxt_pure rfl rfl (fun K hK => ?_); go_simp; refine hK _ ?_; clear hK K) | (refine wpTxt_still rfl rfl (fun K hK => ?_); go_simp; refine hK _ ?_; clear hK K)))
  refine wpTxt_nil ?_
  go_wp2_with fail
  (refine wp_region_txt [] (by kernel_rfl) (by kernel_rfl) ?_; repeat (first | (refine wpTxt_pure rfl rfl (fun K hK => ?_); go_simp; refine hK _ ?_; clear hK K) | (refine wpTxt_still rfl rfl (fun K hK => ?_); go_simp; refine hK _ ?_; clear hK K)))
  refine wpTxt_nil ?_
  go_wp2_with fail
  (refine wp_region_txt [] (by kernel_rfl) (by kernel_rfl) ?_; repeat (first | (refine wpTxt_pure rfl rfl (fun K hK => ?_); go_simp; refine hK _ ?_; clear hK K) | (refine wpTxt_still rfl rfl (fun K hK => ?_); go_simp; refine hK _ ?_; clear hK K)))
  refine wpTxt_nil ?_
  go_wp2_with fail
  go_end0
  rw [← HM.out]
  exact ⟨rfl, Hc2.out.drew.drew.drew, HB2.out.drew.drew.drew, D6, HW2.out.drew.drew.drew, Nat.lt_trans HD6l.out (by decide), fun t ht => by rw [Hpn.out t ht]; congr 1⟩
end Go.Proofs.YtameepdbnnaaaaaGreatDoor
/- The reader of a bitmap by bits. -/
namespace Go.Proofs.YtameepdbnnaaaaaGreatDoor
open Go Go.RowKit
/-- A reader of bits of a bitmap, behind i of m bits; the first one lies at bit rs of byte j. -/
structure BRd (w : World) (A sb so n rs j m i L C : Nat) (σ : Nat → Bool) : Prop where
  sl : w.cell? ⟨A, 0, none⟩ = some (.slice (some ⟨sb, so + j, none⟩) L C)
  po : w.cell? ⟨A, 1, none⟩ = some (.int .i64 i)
  le : w.cell? ⟨A, 2, none⟩ = some (.int .i64 m)
  cu : ∃ x : Nat, w.cell? ⟨A, 3, none⟩ = some (.int .u8 x) ∧ x < 256 ∧ (i < m → ∀ t, t < 8 → x.testBit t = σ (8 * (j + (rs + i) / 8) + t))
  by' : w.cell? ⟨A, 4, none⟩ = some (.int .i64 ((rs + i) / 8 : Nat))
  bi : w.cell? ⟨A, 5, none⟩ = some (.int .i64 ((rs + i) % 8 : Nat))
  fr : ∀ k, k < 6 → w.frozen? ⟨A, k, none⟩ = false
set_option maxRecDepth 100000 in
set_option maxHeartbeats 1000000 in
theorem newBRd_ok (sb so n rs j m L C : Nat) (σ : Nat → Bool) (w : World) (hB : Bmp w sb so n σ) (hr : rs < 8) (hm : 1 ≤ m) (hm2 : m ≤ 8) (hL : 1 ≤ L) (hn : j + L ≤ n) :
    Calls Tryz.prog 104 #[.slice (some ⟨sb, so + j, none⟩) L C, .int .i64 rs, .int .i64 m] w fun e w' => e = .returned (.pointer (some ⟨w.heap.size, 0, none⟩)) ∧ Chg Nix w w' ∧ w.heap.size < w'.heap.size ∧ BRd w' w.heap.size sb so n rs j m 0 L C σ := by
  obtain ⟨x, hx, hx8, hxt⟩ := hB.cell j (by omega)
  have e1 : (rs : Int) / 8 = 0 := by omega
  have e2 : (rs : Int) % 8 = rs := by omega
  have hm0 : (0 : Int) < m := by omega
  have hL0 : 0 < L := by omega
  have Hxt := Lib.hid hxt
  clear hB hxt
  go_enter Tryz.func104, Tryz.ntmps104
  go_wp2_with fail
  go_ret
  refine ⟨rfl, Chg.new _ _, by simp, ⟨by simp, by simp, by simp, ⟨x, by simp, hx8, fun _ t ht => ?_⟩, ?_, ?_, fun k _ => by simp⟩⟩
  · rw [Hxt.out t ht, show (rs + 0) / 8 = 0 by omega, Nat.add_zero]
  · rw [show (rs + 0) / 8 = 0 by omega]; simp
  · rw [show (rs + 0) % 8 = rs by omega]; simp
theorem shl1 : ∀ t : Fin 8, IntKind.u8.wrap (1 * 2 ^ t.val) = (2 ^ t.val : Nat) := by decide
theorem BRd.keep {w w' : World} {A sb so n rs j m i L C : Nat} {σ : Nat → Bool} (h : BRd w A sb so n rs j m i L C σ) {S : Nat → Nat → Prop} (hc : Chg S w w') (hS : ∀ x, ¬ S A x) : BRd w' A sb so n rs j m i L C σ :=
  ⟨hc.keep h.sl (hS _), hc.keep h.po (hS _), hc.keep h.le (hS _), let ⟨x, h1, h2⟩ := h.cu; ⟨x, hc.keep h1 (hS _), h2⟩, hc.keep h.by' (hS _), hc.keep h.bi (hS _), fun k hk => (hc.frozen _ _ (World.block_lt_of_cell? w _ h.sl)).trans (h.fr k hk)⟩
theorem BRd.drew {w : World} {A sb so n rs j m i L C : Nat} {σ : Nat → Bool} (h : BRd w A sb so n rs j m i L C σ) : BRd w.drew A sb so n rs j m i L C σ := h.keep (Chg.drew (Chg.refl Nix w)) (fun _ h => h)
set_option maxRecDepth 100000 in
set_option maxHeartbeats 1000000 in
theorem bRdSet_ok (A sb so n rs j m i L C : Nat) (σ : Nat → Bool) (w : World) (h : BRd w A sb so n rs j m i L C σ) (hi : i < m) :
    Calls Tryz.prog 105 #[.pointer (some ⟨A, 0, none⟩)] w fun e w' => e = .returned (.bool (σ (8 * j + rs + i))) ∧ Chg Nix w w' := by
  obtain ⟨x, c3, hx8, hxt⟩ := h.cu
  have c5 := h.bi
  obtain ⟨r, hr⟩ : ∃ r, r = (rs + i) % 8 := ⟨_, rfl⟩
  rw [← hr] at c5
  have hr8 : r < 8 := by omega
  have hne := and_pow_ne x r
  rw [hxt hi r hr8, show 8 * (j + (rs + i) / 8) + r = 8 * j + rs + i by omega] at hne
  have hs : IntKind.u8.wrap (2 ^ r) = (2 ^ r : Nat) := by have := shl1 ⟨r, hr8⟩; rwa [Int.one_mul] at this
  have hp := pow8 r hr8
  have hand := u8_and_nat x (2 ^ r) hx8 (by omega)
  obtain ⟨P, hP⟩ : ∃ P, P = 2 ^ r := ⟨_, rfl⟩
  rw [← hP] at hne hand hs
  have r0 : 0 ≤ (r : Int) := by omega
  have r8 : (r : Int) ≤ 8 := by omega
  have hrt : ((r : Nat) : Int).toNat = r := by omega
  clear h hxt hr hP
  go_enter Tryz.func105, Tryz.ntmps105
  go_wp2_with fail
  (refine wp_region_txt [] (by kernel_rfl) (by kernel_rfl) ?_; repeat (first | (refine wpTxt_pure rfl rfl (fun K hK => ?_); go_simp; refine hK _ ?_; clear hK K) | (refine wpTxt_still rfl rfl (fun K hK => ?_); go_simp; refine hK _ ?_; clear hK K)))
  refine wpTxt_nil ?_
  go_wp2_with fail
  go_ret
  exact ⟨rfl, (Chg.refl _ _).drew⟩
set_option maxRecDepth 100000 in
set_option maxHeartbeats 1000000 in
theorem bRdNext_ok (A sb so n rs j m i L C : Nat) (σ : Nat → Bool) (w : World) (hB : Bmp w sb so n σ) (h : BRd w A sb so n rs j m i L C σ) (hA : A ≠ sb) (hi : i < m) (hm : m ≤ 8) (hr : rs < 8) (hL : rs + m ≤ 8 * L) (hn : j + L ≤ n) (hL2 : L ≤ 1000000000) :
    Calls Tryz.prog 106 #[.pointer (some ⟨A, 0, none⟩)] w fun e w' => e = .returned (.tuple #[]) ∧ Chg (Own A) w w' ∧ BRd w' A sb so n rs j m (i + 1) L C σ := by
  obtain ⟨x, c3, hx8, hxt⟩ := h.cu
  have c0 := h.sl
  have c1 := h.po
  have c2 := h.le
  have c4 := h.by'
  have c5 := h.bi
  have f1 := h.fr 1 (by omega)
  have f3 := h.fr 3 (by omega)
  have f4 := h.fr 4 (by omega)
  have f5 := h.fr 5 (by omega)
  have Hf := Lib.hid h.fr
  obtain ⟨r, hrr⟩ : ∃ r, r = (rs + i) % 8 := ⟨_, rfl⟩
  obtain ⟨q, hq⟩ : ∃ q, q = (rs + i) / 8 := ⟨_, rfl⟩
  rw [← hrr] at c5
  rw [← hq] at c4 hxt
  have Hxt := Lib.hid hxt
  have Hr := Lib.hid hrr
  have Hq := Lib.hid hq
  have HB := Lib.hid hB
  have hi8 : i ≤ 8 := by omega
  have hr8 : r < 8 := by omega
  have hq8 : q ≤ 2 := by omega
  clear h hxt hrr hq hB
  by_cases h7 : r = 7
  · subst h7
    by_cases hlast : i + 1 < m
    · have hlast' : (i : Int) + 1 < m := by omega
      have hqL : q + 1 < L := by have := Hr.out; have := Hq.out; omega
      have hqt : ((q : Int) + 1).toNat = q + 1 := by omega
      have hqL' : (q : Int) + 1 < L := by omega
      have hq0 : 0 ≤ (q : Int) + 1 := by omega
      obtain ⟨y, hy, hy8, hyt⟩ := HB.out.cell (j + (q + 1)) (by omega)
      rw [show so + (j + (q + 1)) = so + j + (q + 1) by omega] at hy
      have Hyt := Lib.hid hyt; clear hyt
      have Hy8 := Lib.hid hy8; clear hy8
      go_enter Tryz.func106, Tryz.ntmps106
      go_wp2_with fail
      (refine wp_region_txt [] (by kernel_rfl) (by kernel_rfl) ?_; repeat (first | (refine wpTxt_pure rfl rfl (fun K hK => ?_); go_simp; refine hK _ ?_; clear hK K) | (refine wpTxt_still rfl rfl (fun K hK => ?_); go_simp; refine hK _ ?_; clear hK K)))
      refine wpTxt_nil ?_
      go_wp2_with fail
      (refine wp_region_txt [] (by kernel_rfl) (by kernel_rfl) ?_; repeat (first | (refine wpTxt_pure rfl rfl (fun K hK => ?_); go_simp; refine hK _ ?_; clear hK K) | (refine wpTxt_still rfl rfl (fun K hK => ?_); go_simp; refine hK _ ?_; clear hK K)))
      (refine wpTxt_effect rfl rfl (fun K hK => ?_); go_simp; refine hK _ _ ?_; clear hK K)
      refine wpTxt_nil ?_
      go_wp2_with fail
      go_end0
      refine ⟨rfl, (((((Chg.refl _ _).own 5 _).own 1 _).own 5 _).own 4 _ |>.own 3 _).drew.drew, BRd.drew (BRd.drew ⟨by go_cell, ?_, by go_cell, ⟨y, by go_cell, Hy8.out, fun hh t ht => ?_⟩, ?_, ?_, fun k hk => by simp only [World.frozen?_setCell]; exact Hf.out k hk⟩)⟩
      · show _ = some (Value.int .i64 ((i : Int) + 1)); go_cell
      · rw [show (rs + (i + 1)) / 8 = q + 1 by have := Hr.out; have := Hq.out; omega]; exact Hyt.out t ht
      · rw [show (rs + (i + 1)) / 8 = q + 1 by have := Hr.out; have := Hq.out; omega]; show _ = some (Value.int .i64 ((q : Int) + 1)); go_cell
      · rw [show (rs + (i + 1)) % 8 = 0 by have := Hr.out; have := Hq.out; omega]; show _ = some (Value.int .i64 0); go_cell
    · have hlast' : ¬ (i : Int) + 1 < m := by omega
      go_enter Tryz.func106, Tryz.ntmps106
      go_wp2_with fail
      (refine wp_region_txt [] (by kernel_rfl) (by kernel_rfl) ?_; repeat (first | (refine wpTxt_pure rfl rfl (fun K hK => ?_); go_simp; refine hK _ ?_; clear hK K) | (refine wpTxt_still rfl rfl (fun K hK => ?_); go_simp; refine hK _ ?_; clear hK K)))
      refine wpTxt_nil ?_
      go_wp2_with fail
      go_end0
      refine ⟨rfl, ((((Chg.refl _ _).own 5 _).own 1 _).own 5 _).own 4 _ |>.drew, BRd.drew ⟨by go_cell, ?_, by go_cell, ⟨x, by go_cell, hx8, fun hh => by omega⟩, ?_, ?_, fun k hk => by simp only [World.frozen?_setCell]; exact Hf.out k hk⟩⟩
      · show _ = some (Value.int .i64 ((i : Int) + 1)); go_cell
      · rw [show (rs + (i + 1)) / 8 = q + 1 by have := Hr.out; have := Hq.out; omega]; show _ = some (Value.int .i64 ((q : Int) + 1)); go_cell
      · rw [show (rs + (i + 1)) % 8 = 0 by have := Hr.out; have := Hq.out; omega]; show _ = some (Value.int .i64 0); go_cell
  · have h7' : ¬ (r : Int) + 1 = 8 := by omega
    go_enter Tryz.func106, Tryz.ntmps106
    go_wp2_with fail
    go_end0
    refine ⟨rfl, ((Chg.refl _ _).own 5 _).own 1 _, ⟨by go_cell, ?_, by go_cell, ⟨x, by go_cell, hx8, fun hh t ht => ?_⟩, ?_, ?_, fun k hk => by simp only [World.frozen?_setCell]; exact Hf.out k hk⟩⟩
    · show _ = some (Value.int .i64 ((i : Int) + 1)); go_cell
    · rw [show (rs + (i + 1)) / 8 = q by have := Hr.out; have := Hq.out; omega]; exact Hxt.out (by omega) t ht
    · rw [show (rs + (i + 1)) / 8 = q by have := Hr.out; have := Hq.out; omega]; go_cell
    · rw [show (rs + (i + 1)) % 8 = r + 1 by have := Hr.out; have := Hq.out; omega]; show _ = some (Value.int .i64 ((r : Int) + 1)); go_cell
end Go.Proofs.YtameepdbnnaaaaaGreatDoor
/- The reader of a bitmap by words: its last byte. -/
namespace Go.Proofs.YtameepdbnnaaaaaGreatDoor
open Go Go.RowKit
/-- i bits have come in from above. -/
structure Inc (σ : Nat → Bool) (p i v : Nat) : Prop where
  lt : v < 256
  tb : ∀ t, t < 8 → v.testBit t = (decide (8 - i ≤ t) && σ (p + (t - (8 - i))))
theorem tb_half (v t : Nat) : (v / 2).testBit t = v.testBit (t + 1) := by
  have := Nat.testBit_div_two_pow (n := 1) v t
  simpa using this
theorem tb_hi (v t : Nat) (hv : v < 256) (ht : 8 ≤ t) : v.testBit t = false := Nat.testBit_lt_two_pow (Nat.lt_of_lt_of_le hv (Nat.pow_le_pow_right (n := 2) (by decide) ht))
theorem Inc.half {σ : Nat → Bool} {p i v : Nat} (h : Inc σ p i v) (hi : i < 8) (hs : σ (p + i) = false) : Inc σ p (i + 1) (v / 2) := by
  refine ⟨by have := h.lt; omega, fun t ht => ?_⟩
  rw [tb_half]
  by_cases h7 : t = 7
  · subst h7
    rw [tb_hi v _ h.lt (by omega), show 7 - (8 - (i + 1)) = i by omega, hs, Bool.and_false]
  · rw [h.tb (t + 1) (by omega), show t + 1 - (8 - i) = t - (8 - (i + 1)) by omega]
    congr 1
    rw [decide_eq_decide]; omega
theorem tb_128 (t : Nat) : (128 : Nat).testBit t = decide (7 = t) := tb_pow 7 t
theorem Inc.half1 {σ : Nat → Bool} {p i v : Nat} (h : Inc σ p i v) (hi : i < 8) (hs : σ (p + i) = true) : Inc σ p (i + 1) (v / 2 ||| 128) := by
  refine ⟨or_lt _ _ (by have := h.lt; omega) (by decide), fun t ht => ?_⟩
  rw [Nat.testBit_or, tb_128, tb_half]
  by_cases h7 : t = 7
  · subst h7
    rw [show 7 - (8 - (i + 1)) = i by omega, hs, Bool.and_true]
    simp
  · rw [h.tb (t + 1) (by omega), show t + 1 - (8 - i) = t - (8 - (i + 1)) by omega, (show decide (7 = t) = false from decide_eq_false (fun e => h7 e.symm)), Bool.or_false]
    congr 1
    rw [decide_eq_decide]; omega
theorem Inc.fin {σ : Nat → Bool} {p m v : Nat} (h : Inc σ p m v) (hm : m ≤ 8) : Byt σ p m (v / 2 ^ (8 - m)) := by
  refine ⟨Nat.lt_of_le_of_lt (Nat.div_le_self _ _) h.lt, fun t ht => ?_⟩
  rw [Nat.testBit_div_two_pow]
  by_cases htm : t < m
  · rw [h.tb _ (by omega), decide_eq_true (by omega), decide_eq_true htm]
    congr 2; omega
  · rw [tb_hi v _ h.lt (by omega), decide_eq_false htm, Bool.false_and]
set_option maxRecDepth 100000 in
set_option maxHeartbeats 1000000 in
theorem lastTrail_ok (A sb so n rs j L C nw tb ty cur : Nat) (σ : Nat → Bool) (w : World) (hB : Bmp w sb so n σ) (h : WR w A sb so rs j L C nw tb ty cur) (hA : A ≠ sb) (hr : rs < 8) (htb1 : 1 ≤ tb) (htb : tb ≤ 8) (hL : rs + tb ≤ 8 * L) (hL2 : L ≤ 1000000000) (hn : j + L ≤ n) :
    Calls Tryz.prog 97 #[.pointer (some ⟨A, 0, none⟩)] w fun e w' => ∃ v : Nat, e = .returned (.tuple #[.int .u8 v, .int .i64 tb]) ∧ Byt σ (8 * j + rs) tb v ∧ Chg (Own A) w w' ∧ WR w' A sb so rs j L C nw 0 ty cur := by
  have c0 := h.sl
  have c1 := h.of
  have c3 := h.tb
  have f3 := h.fr 3 (by omega)
  have hW1 := h.tb' 0
  have hc1 := (Chg.refl (Own A) w).own 3 (.int .i64 (0 : Nat))
  have hB1 := hB.keep hc1 (fun _ _ hh => hA hh.symm)
  have hAl := h.lt
  have hsl : sb < w.heap.size := by obtain ⟨x, hx, -⟩ := hB.cell j (by omega); exact World.block_lt_of_cell? w _ hx
  have hz : (w.setCell ⟨A, 3, none⟩ (.int .i64 (0 : Nat))).heap.size = w.heap.size := by simp
  have HW1 := Lib.hid hW1
  have Hc1 := Lib.hid hc1
  have HB1 := Lib.hid hB1
  have Hz := Lib.hid hz
  have htb' : (tb : Int) ≤ 8 := by omega
  clear hB h hW1 hc1 hB1 hz
  go_enter Tryz.func97, Tryz.ntmps97
  go_wp2_with fail
  refine (assert_ok _ _ _).mono ?_
  rintro e w1 ⟨rfl, rfl⟩
  go_wp2_with fail
  rw [show ((0 : Nat) : Int) = 0 from rfl] at HW1 Hc1 HB1 Hz
  generalize w.setCell ⟨A, 3, none⟩ (.int .i64 0) = w2 at HW1 Hc1 HB1 Hz ⊢
  clear c0 c1 c3 f3
  have c0 := HW1.out.sl
  have c1 := HW1.out.of
  (refine wp_region_txt [] (by kernel_rfl) (by kernel_rfl) ?_; repeat (first | (refine wpTxt_pure rfl rfl (fun K hK => ?_); go_simp; refine hK _ ?_; clear hK K) | (refine wpTxt_still rfl rfl (fun K hK => ?_); go_simp; refine hK _ ?_; clear hK K)))
  refine wpTxt_effect rfl rfl (fun K hK => ?_); go_simp
  refine (newBRd_ok sb so n rs j tb L C σ _ (by exact HB1.out.drew) hr htb1 htb (by omega) hn).mono ?_
  rintro e w3 ⟨rfl, h3, hl3, hR3⟩
  have h3' := h3.undrew
  obtain ⟨K0, hK0⟩ : ∃ K0, K0 = w2.heap.size := ⟨_, rfl⟩
  have hR3' : BRd w3 K0 sb so n rs j tb 0 L C σ := by rw [hK0]; exact hR3
  have hKs : K0 ≠ sb := by rw [hK0, Hz.out]; omega
  have hKA : K0 ≠ A := by rw [hK0, Hz.out]; omega
  have HR3 := Lib.hid hR3'
  have H3 := Lib.hid h3'
  have HW3 := Lib.hid (HW1.out.keep h3' (fun _ h => h))
  have HB3 := Lib.hid (HB1.out.keep h3' (fun _ _ h => h))
  have hlt2 : w2.heap.size = w.heap.size := Hz.out
  have hK2 : Hid (K0 = w2.heap.size) := Lib.hid hK0
  rw [show (⟨w2.drew.heap.size, 0, none⟩ : Addr) = ⟨K0, 0, none⟩ by rw [hK0]; rfl]
  clear h3 h3' hR3 hR3' hl3 c0 c1 hK0 hlt2
  (refine hK _ _ ?_; clear hK K)
  repeat (first | (refine wpTxt_pure rfl rfl (fun K hK => ?_); go_simp; refine hK _ ?_; clear hK K) | (refine wpTxt_still rfl rfl (fun K hK => ?_); go_simp; refine hK _ ?_; clear hK K))
  refine wpTxt_nil ?_
  go_wp2_with fail
  go_loopw [2, 5] (fun v i wx => ∃ y k : Nat, k ≤ tb ∧ i = .int .i64 k ∧ v = .int .u8 y ∧ Inc σ (8 * j + rs) k y ∧ BRd wx K0 sb so n rs j tb k L C σ ∧ Chg (Own K0) w3 wx) (fun _ i _ => tb - (intOf i).toNat)
  case atStart => exact ⟨0, 0, Nat.zero_le _, rfl, rfl, ⟨by decide, fun t ht => by rw [Nat.zero_testBit, decide_eq_false (by omega), Bool.false_and]⟩, HR3.out, Chg.refl _ _⟩
  case round =>
    obtain ⟨y, k, hk, rfl, rfl, hI, hR, hc⟩ := hrel
    by_cases hlt : k < tb
    · have hB4 := HB3.out.keep hc (fun _ _ hh => hKs hh.symm)
      have hset := bRdSet_ok K0 sb so n rs j tb k L C σ wr hR hlt
      have hnext := fun W hW hb => bRdNext_ok K0 sb so n rs j tb k L C σ W hb hW hKs hlt htb hr hL hn hL2
      have Hset := Lib.hid hset
      have Hnext := Lib.hid hnext
      have HI := Lib.hid hI
      have HR := Lib.hid hR
      have Hc := Lib.hid hc
      have HB4 := Lib.hid hB4
      have hy8 := HI.out.lt
      have hor := u8_or_nat (y / 2) 128 (by omega) (by decide)
      have e2 : (y : Int) / 2 = (y / 2 : Nat) := by omega
      obtain ⟨y2, hy2⟩ : ∃ y2, y2 = y / 2 := ⟨_, rfl⟩
      rw [← hy2] at hor e2
      have hor' : bits .or .u8 (y2 : Int) 128 = ((y2 ||| 128 : Nat) : Int) := hor
      have Hy2 := Lib.hid hy2
      clear hI hR hc hB4 hset hnext hy2 hor
      go_wp2_with fail
      refine Hset.out.mono ?_
      rintro e w4 ⟨rfl, h4⟩
      have hR4 := HR.out.keep h4 (fun _ h => h)
      have hB5 := HB4.out.keep h4 (fun _ _ h => h)
      have hN := Hnext.out w4 hR4 hB5
      have HN := Lib.hid hN
      have H4 := Lib.hid h4
      clear h4 hR4 hB5 hN
      cases hσ : σ (8 * j + rs + k)
      all_goals
        go_wp2_with fail
        refine HN.out.mono ?_
        rintro e w5 ⟨rfl, h5, hR5⟩
        have HR5 := Lib.hid hR5
        have Hc5 := Lib.hid ((Hc.out.trans (H4.out.mono (fun _ _ _ h => h.elim))).trans h5)
        clear h5 hR5
        go_wp2_with fail
        go_roundw
        case rel =>
          first
          | exact ⟨y2, k + 1, by omega, rfl, rfl, by rw [Hy2.out]; exact HI.out.half (by omega) hσ, HR5.out, Hc5.out⟩
          | exact ⟨y2 ||| 128, k + 1, by omega, rfl, rfl, by rw [Hy2.out]; exact HI.out.half1 (by omega) hσ, HR5.out, Hc5.out⟩
        case measure => simp [intOf]; omega
    · obtain rfl : k = tb := by omega
      have hF := hI.fin htb
      have hs : (y : Int) / 2 ^ (8 - k) = (y / 2 ^ (8 - k) : Nat) := by norm_cast
      have hkt : ((8 : Int) - k).toNat = 8 - k := by omega
      have HW5 := Lib.hid (HW3.out.keep hc (fun x hh => hKA hh.symm))
      have Hc5 : Hid (Chg (Own A) w wr) := Lib.hid ((Hc1.out.trans (H3.out.mono (fun _ _ _ h => h.elim))).comp hc (fun _ _ _ h => h) (fun a x ha hh => by have := hK2.out; have := Hz.out; have := hh; unfold Own at *; omega))
      have k0 : 0 ≤ (8 : Int) - k := by omega
      have k8 : (8 : Int) - k ≤ 8 := by omega
      have HF := Lib.hid hF
      obtain ⟨Y, hY⟩ : ∃ Y, Y = y / 2 ^ (8 - k) := ⟨_, rfl⟩
      rw [← hY] at hs
      have HY := Lib.hid hY
      clear hI hR hc hF hY HR3 H3 HB3 HB1
      go_wp2_with fail
      go_ret2
      exact ⟨Y, rfl, by rw [HY.out]; exact HF.out, Hc5.out, HW5.out⟩
end Go.Proofs.YtameepdbnnaaaaaGreatDoor
/- Bits that are copied from a byte's beginning to another bit. -/
namespace Go.Proofs.YtameepdbnnaaaaaGreatDoor
open Go Go.RowKit
/-- The bits of σ, len of them, from place d on. -/
def copyB (β σ : Nat → Bool) (d len : Nat) : Nat → Bool := fun i => if d ≤ i ∧ i < d + len then σ (i - d) else β i
theorem copyB_zero (β σ : Nat → Bool) (d : Nat) : copyB β σ d 0 = β := by funext i; unfold copyB; rw [if_neg (by omega)]
theorem copyB_more (β σ : Nat → Bool) (d len m v : Nat) (hv : ∀ t, t < m → v.testBit t = σ (len + t)) : paste (copyB β σ d len) (d + len) m v = copyB β σ d (len + m) := by
  funext i
  unfold paste copyB
  by_cases h : d + len ≤ i ∧ i < d + len + m
  · rw [if_pos h, if_pos (by omega), hv _ (by omega)]; congr 1; omega
  · rw [if_neg h]
    by_cases h2 : d ≤ i ∧ i < d + len
    · rw [if_pos h2, if_pos (by omega)]
    · rw [if_neg h2, if_neg (by omega)]
/-- Behind some bytes that are copied. -/
structure Tr (sb so m b off n A Z rd q len : Nat) (β σ : Nat → Bool) (w0 wx : World) (j tb ty nw L C L2 C2 cu cz : Nat) : Prop where
  wr : WR wx A sb so 0 j L C nw tb ty cu
  lo : Lo8 σ (8 * j) cu
  ww : WW wx Z b off rd (q + j) L2 C2 (2 ^ rd - 1) len cz
  lz : Lo8 (copyB β σ (8 * q + rd) (8 * j)) (8 * (q + j)) cz
  bs : Bmp wx sb so m σ
  bd : Bmp wx b off n (copyB β σ (8 * q + rd) (8 * j))
  chg : Chg (fun k x => k = A ∨ k = Z ∨ RowS b off n k x) w0 wx
  sb' : sb ≠ b
  Ab : A ≠ b
  Zb : Z ≠ b
  As : A ≠ sb
  Zs : Z ≠ sb
  AZ : A ≠ Z
theorem Tr.step {sb so m b off n A Z rd q len : Nat} {β σ : Nat → Bool} {w0 wx w1 w2 : World} {j tb ty nw L C L2 C2 cu cz : Nat} (h : Tr sb so m b off n A Z rd q len β σ w0 wx j tb ty nw L C L2 C2 cu cz)
    (g v V X tb' ty' L' C' L2' C2' : Nat) (hv : ∀ t, t < 8 * g → v.testBit t = σ (8 * j + t)) (c1 : Chg (Own A) wx w1) (r1 : WR w1 A sb so 0 (j + g) L' C' nw tb' ty' V) (n1 : Lo8 σ (8 * (j + g)) V)
    (c2 : Chg (WS Z b off n) w1 w2) (b2 : Bmp w2 b off n (paste (copyB β σ (8 * q + rd) (8 * j)) (8 * (q + j) + rd) (8 * g) v)) (r2 : WW w2 Z b off rd (q + j + g) L2' C2' (2 ^ rd - 1) len X) (n2 : Lo8 (paste (copyB β σ (8 * q + rd) (8 * j)) (8 * (q + j) + rd) (8 * g) v) (8 * (q + j + g)) X) :
    Tr sb so m b off n A Z rd q len β σ w0 w2 (j + g) tb' ty' nw L' C' L2' C2' V X := by
  have e : paste (copyB β σ (8 * q + rd) (8 * j)) (8 * (q + j) + rd) (8 * g) v = copyB β σ (8 * q + rd) (8 * (j + g)) := by
    rw [show 8 * (q + j) + rd = (8 * q + rd) + 8 * j by omega, copyB_more _ _ _ _ _ _ hv]
    congr 1; omega
  rw [e] at b2 n2
  have hA : ∀ x, ¬ WS Z b off n A x := by
    rintro x (hh | hh)
    · exact h.AZ hh
    · exact h.Ab hh.1
  have hs : ∀ x, ¬ WS Z b off n sb x := by
    rintro x (hh | hh)
    · exact h.Zs hh.symm
    · exact h.sb' hh.1
  refine ⟨r1.keep c2 hA, n1, by rw [← Nat.add_assoc]; exact r2, by rw [← Nat.add_assoc]; exact n2, (h.bs.keep c1 (fun _ _ hh => h.As hh.symm)).keep c2 (fun _ _ => hs _), b2, (h.chg.trans (c1.mono (fun _ _ _ hh => .inl hh))).trans (c2.mono (fun _ _ _ hh => .inr hh)), h.sb', h.Ab, h.Zb, h.As, h.Zs, h.AZ⟩
theorem Tr.ww1 {sb so m b off n A Z rd q len : Nat} {β σ : Nat → Bool} {w0 wx w1 : World} {j tb ty nw L C L2 C2 cu cz : Nat} (h : Tr sb so m b off n A Z rd q len β σ w0 wx j tb ty nw L C L2 C2 cu cz) (c1 : Chg (Own A) wx w1) :
    WW w1 Z b off rd (q + j) L2 C2 (2 ^ rd - 1) len cz ∧ Bmp w1 b off n (copyB β σ (8 * q + rd) (8 * j)) ∧ Bmp w1 sb so m σ :=
  ⟨h.ww.keep c1 (fun _ hh => h.AZ hh.symm), h.bd.keep c1 (fun _ _ hh => h.Ab hh.symm), h.bs.keep c1 (fun _ _ hh => h.As hh.symm)⟩
set_option maxRecDepth 100000 in
set_option maxHeartbeats 1000000 in
theorem transfer0_ok (sb so m slen scap b off n cap d length : Nat) (β σ : Nat → Bool) (w : World) (hS : Bmp w sb so m σ) (hB : Bmp w b off n β) (hsb : sb ≠ b) (hd : 1 ≤ d % 8) (h1 : 1 ≤ length) (h8 : length % 8 = 0) (hl : length ≤ 1000000000) (hm : length / 8 ≤ m) (hms : m ≤ slen) (hsc : slen ≤ scap) (hscap : scap ≤ 1000000000000) (hn : d + length ≤ 8 * n) (hnc : n ≤ cap) (hcap : cap ≤ 1000000000000) :
    Calls Tryz.prog 57 #[.int .i8 0, .slice (some ⟨sb, so, none⟩) slen scap, .int .i64 0, .int .i64 length, .slice (some ⟨b, off, none⟩) n cap, .int .i64 d] w fun e w' => e = .returned (.tuple #[]) ∧ Chg (RowS b off n) w w' ∧ Bmp w' b off n (copyB β σ d length) := by
  obtain ⟨q, hq⟩ : ∃ q, q = d / 8 := ⟨_, rfl⟩
  obtain ⟨rd, hrd⟩ : ∃ rd, rd = d % 8 := ⟨_, rfl⟩
  have hdq : 8 * q + rd = d := by omega
  have hc1 := newWR_ok sb so m 0 0 slen scap length σ w hS (by omega) h1 hl (by omega) hms hsc hscap
  rw [show ((8 * 0 + 0 : Nat) : Int) = 0 from rfl] at hc1
  have hc2 := fun W hB => newWW_ok b off n q rd cap length β W hB (by omega) (by omega) h1 hl (by omega) hnc hcap
  rw [hdq] at hc2
  have e1 : (d : Int) % 8 = rd := by omega
  have hrd0 : ¬ (rd : Int) = 0 := by omega
  have hl0 : ¬ (length : Int) = 0 := by omega
  have hsl : sb < w.heap.size := by obtain ⟨x, hx, -⟩ := hS.cell 0 (by omega); exact World.block_lt_of_cell? w _ hx
  have hbl : b < w.heap.size := by obtain ⟨x, hx, -⟩ := hB.cell q (by omega); exact World.block_lt_of_cell? w _ hx
  have Hc1 := Lib.hid hc1
  have Hc2 := Lib.hid hc2
  have HS := Lib.hid hS
  have HB := Lib.hid hB
  have Hdq := Lib.hid hdq
  have Hq := Lib.hid hq
  have Hrd := Lib.hid hrd
  have H8 := Lib.hid h8
  have Hd := Lib.hid hd
  clear hc1 hc2 hS hB hdq hq hrd h8 hd
  go_enter Tryz.func57, Tryz.ntmps57
  go_wp2_with fail
  refine Hc1.out.mono ?_
  rintro e w1 ⟨rfl, k1, hA1, cu, kW, kC⟩
  obtain ⟨A, hA⟩ : ∃ A, A = w.heap.size := ⟨_, rfl⟩
  rw [← hA] at hA1 kW hsl hbl ⊢
  have HA := Lib.hid hA
  have HB1 := Lib.hid (HB.out.keep k1 (fun _ _ h => h))
  have HS1 := Lib.hid (HS.out.keep k1 (fun _ _ h => h))
  have K1 := Lib.hid k1
  have KW := Lib.hid kW
  have KC := Lib.hid kC
  clear k1 kW kC hA
  go_wp2_with fail
  refine (Hc2.out w1 HB1.out).mono ?_
  rintro e w2 ⟨rfl, k2, hZ1, cz, jW, jL, jN⟩
  obtain ⟨Z, hZ⟩ : ∃ Z, Z = w1.heap.size := ⟨_, rfl⟩
  rw [← hZ] at hZ1 jW hA1 ⊢
  have HZ := Lib.hid hZ
  have HAZ : Hid (A < Z) := Lib.hid hA1
  have hAw : Hid (A < w2.heap.size) := Lib.hid (Nat.lt_trans hA1 hZ1)
  have KW2 := KW.out.keep k2 (fun _ h => h)
  obtain ⟨nw, hnw⟩ : ∃ nw, nw = length / 64 - 1 := ⟨_, rfl⟩
  obtain ⟨tb, htb⟩ : ∃ tb, tb = length - nw * 64 := ⟨_, rfl⟩
  obtain ⟨ty, hty⟩ : ∃ ty, ty = (tb + 7) / 8 := ⟨_, rfl⟩
  obtain ⟨L, hL⟩ : ∃ L, L = (0 + length + 7) / 8 := ⟨_, rfl⟩
  rw [← hnw, ← htb, ← hty, ← hL] at KW2
  have hT : Tr sb so m b off n A Z rd q length β σ w w2 0 tb ty nw L scap (n - q) (cap - q) cu cz := by
    refine ⟨KW2, KC.out.lo8, jW, ?_, HS1.out.keep k2 (fun _ _ h => h), ?_, ((K1.out.trans k2).mono (fun _ _ _ h => h.elim)), hsb, by omega, by omega, by omega, by omega, by omega⟩
    · rw [Nat.mul_zero, copyB_zero]; exact jL
    · rw [Nat.mul_zero, copyB_zero]; exact HB1.out.keep k2 (fun _ _ h => h)
  have hfirst : 0 < nw → Num64 σ 0 cu ∧ Num64 (copyB β σ (8 * q + rd) 0) (8 * q) cz := by
    intro h0
    refine ⟨KC.out.hi (by omega), ?_⟩
    rw [copyB_zero]
    exact jN (by omega)
  have HT := Lib.hid hT
  have Hf := Lib.hid hfirst
  have Hnw := Lib.hid hnw
  have Htb := Lib.hid htb
  have Hty := Lib.hid hty
  have HL := Lib.hid hL
  have c2 := hT.wr.nw
  have c4 := hT.wr.ty
  have hwords := words_ok A sb so 0 0 L scap nw tb ty cu w2 hT.wr
  have Hwords := Lib.hid hwords
  clear k2 jW jL jN hZ KW2 hnw htb hty hL hT hfirst hwords KW KC HB1 HS1 K1 hA1 hZ1
  go_wp2_with fail
  refine Hwords.out.mono ?_
  rintro e w3 ⟨rfl, rfl⟩
  go_upto_block 0 with fail
  go_cut [16] (fun s wx => ∃ cu cz, Tr sb so m b off n A Z rd q length β σ w wx (8 * nw) tb ty nw (L - 8 * nw) (scap - 8 * nw) (n - q - 8 * nw) (cap - q - 8 * nw) cu cz)
  case first =>
    go_wp2_with fail
    go_loopw [16] (fun s wx => ∃ k cu cz, k ≤ nw ∧ s = .int .i64 (nw - k : Nat) ∧ Tr sb so m b off n A Z rd q length β σ w wx (8 * k) tb ty nw (L - 8 * k) (scap - 8 * k) (n - q - 8 * k) (cap - q - 8 * k) cu cz ∧ (k < nw → Num64 σ (8 * (8 * k)) cu ∧ Num64 (copyB β σ (8 * q + rd) (8 * (8 * k))) (8 * (q + 8 * k)) cz)) (fun s _ => (intOf s).toNat)
    case atStart => exact ⟨0, cu, cz, Nat.zero_le _, rfl, HT.out, fun h0 => Hf.out h0⟩
    case round =>
      clear HT Hf
      obtain ⟨k, cu, cz, hk, rfl, hT, hN⟩ := hrel
      by_cases hlt : k < nw
      · obtain ⟨N1, N2⟩ := hN hlt
        have hk1 : (0 : Int) < (nw - k : Nat) := by omega
        have hkb : ((nw - k : Nat) : Int) ≤ 1000000000 := by have := Hnw.out; omega
        have hk2 : ((nw - k : Nat) : Int) - 1 = (nw - (k + 1) : Nat) := by omega
        have Hk2 := Lib.hid hk2
        have hd1 := nextWord0_ok A sb so m (8 * k) (L - 8 * k) (scap - 8 * k) nw tb ty cu σ wr hT.bs hT.wr hT.As (by have := HL.out; have := Hnw.out; omega) (by have := HL.out; have := H8.out; omega) (by have := Hnw.out; have := H8.out; omega) N1
        have Hd1 := Lib.hid hd1
        have HT := Lib.hid hT
        have HN1 := Lib.hid N1
        have HN2 := Lib.hid N2
        clear hT hN N1 N2 hk2 hd1
        go_wp2_with fail
        refine Hd1.out.mono ?_
        rintro e w4 ⟨rfl, h4, V, hV, nV⟩
        obtain ⟨q1, q2, q3⟩ := HT.out.ww1 h4
        have hd2 := putWord_ok Z b off n rd (q + 8 * k) (n - q - 8 * k) (cap - q - 8 * k) length cz cu _ w4 q2 q1 HT.out.Zb (by have := Hd.out; have := Hrd.out; omega) (by have := Hrd.out; omega) (by have := Hnw.out; have := Hdq.out; omega) (by omega) (by have := Hnw.out; have := Hdq.out; omega) HN2.out HN1.out.lt
        have Hd2 := Lib.hid hd2
        have H4 := Lib.hid h4
        have HV := Lib.hid hV
        have HnV := Lib.hid nV
        clear h4 hV nV q1 q2 q3 hd2
        go_wp2_with fail
        refine Hd2.out.mono ?_
        rintro e w5 ⟨rfl, h5, b5, X, hX, nX⟩
        have hT5 := HT.out.step 8 cu V X tb ty (L - 8 * k - 8) (scap - 8 * k - 8) (n - q - 8 * k - 8) (cap - q - 8 * k - 8) HN1.out.tb H4.out HV.out HnV.out.lo8 h5 b5 hX nX.lo8
        have hT6 : Tr sb so m b off n A Z rd q length β σ w w5 (8 * (k + 1)) tb ty nw (L - 8 * (k + 1)) (scap - 8 * (k + 1)) (n - q - 8 * (k + 1)) (cap - q - 8 * (k + 1)) V X := by
          rw [show L - 8 * (k + 1) = L - 8 * k - 8 by omega, show scap - 8 * (k + 1) = scap - 8 * k - 8 by omega, show n - q - 8 * (k + 1) = n - q - 8 * k - 8 by omega, show cap - q - 8 * (k + 1) = cap - q - 8 * k - 8 by omega]
          exact hT5
        have hN6 : Num64 (copyB β σ (8 * q + rd) (8 * (8 * (k + 1)))) (8 * (q + 8 * (k + 1))) X := by
          have e : paste (copyB β σ (8 * q + rd) (8 * (8 * k))) (8 * (q + 8 * k) + rd) 64 cu = copyB β σ (8 * q + rd) (8 * (8 * (k + 1))) := by
            rw [show 8 * (q + 8 * k) + rd = (8 * q + rd) + 8 * (8 * k) by omega, copyB_more _ _ _ _ 64 _ HN1.out.tb]
            congr 1
          rw [e] at nX
          exact nX
        have HT6 := Lib.hid hT6
        have HN6 := Lib.hid hN6
        clear h5 b5 hX nX hT5 hT6 hN6
        go_wp2_with fail
        go_roundw
        case rel => exact ⟨k + 1, V, X, hlt, by rw [← Hk2.out], HT6.out, fun _ => ⟨HnV.out, HN6.out⟩⟩
        case measure => simp [intOf]; omega
      · obtain rfl : k = nw := by omega
        have hk0 : ((k - k : Nat) : Int) = 0 := by omega
        have HT := Lib.hid hT
        clear hT hN
        go_wp2_with fail
        go_meet
        exact ⟨cu, cz, HT.out⟩
  case rest =>
  clear HT Hf c2 c4 cu cz
  obtain ⟨cu, cz, hT⟩ := hcut
  have c4' := trailing_count A sb so 0 (8 * nw) (L - 8 * nw) (scap - 8 * nw) nw tb ty cu wc hT.wr
  have Hc4 := Lib.hid c4'
  have HT := Lib.hid hT
  clear hT c4'
  go_wp2_with fail
  refine Hc4.out.mono ?_
  rintro e w4 ⟨rfl, rfl⟩
  go_wp2_with fail
  go_loopw [17] (fun s wx => ∃ k, k ≤ ty ∧ s = .int .i64 (ty - k : Nat) ∧ (k < ty → ∃ cu cz, Tr sb so m b off n A Z rd q length β σ w wx (8 * nw + k) (tb - 8 * k) (ty - k) nw (L - 8 * nw - k) (scap - 8 * nw - k) (n - q - 8 * nw - k) (cap - q - 8 * nw - k) cu cz) ∧ Bmp wx b off n (copyB β σ (8 * q + rd) (8 * (8 * nw + k))) ∧ Chg (fun k x => k = A ∨ k = Z ∨ RowS b off n k x) w wx) (fun s _ => (intOf s).toNat)
  case atStart => exact ⟨0, Nat.zero_le _, rfl, fun _ => ⟨cu, cz, HT.out⟩, HT.out.bd, HT.out.chg⟩
  case round =>
    clear HT
    clear cu cz
    obtain ⟨k, hk, rfl, ht, hbd, hch⟩ := hrel
    by_cases hlt : k < ty
    · obtain ⟨cu, cz, hT⟩ := ht hlt
      clear ht hbd hch
      have hk1 : (0 : Int) < (ty - k : Nat) := by omega
      have hkb : ((ty - k : Nat) : Int) ≤ 1000000000 := by have := Hty.out; have := Htb.out; omega
      have hk2 : ((ty - k : Nat) : Int) - 1 = (ty - (k + 1) : Nat) := by omega
      have Hk2 := Lib.hid hk2
      have HT := Lib.hid hT
      clear hT hk2
      have hj : 8 * (8 * nw + k) + 8 ≤ length := by have := Hty.out; have := Htb.out; have := Hnw.out; have := H8.out; omega
      have hd1 : Calls Tryz.prog 97 #[.pointer (some ⟨A, 0, none⟩)] wr fun e w' => ∃ v V tb2 ty2 L2 C2 : Nat, e = .returned (.tuple #[.int .u8 v, .int .i64 8]) ∧ Byt σ (8 * (8 * nw + k)) 8 v ∧ Chg (Own A) wr w' ∧ (k + 1 < ty → tb2 = tb - 8 * (k + 1) ∧ ty2 = ty - (k + 1) ∧ L2 = L - 8 * nw - (k + 1) ∧ C2 = scap - 8 * nw - (k + 1) ∧ WR w' A sb so 0 (8 * nw + k + 1) L2 C2 nw tb2 ty2 V ∧ Lo8 σ (8 * (8 * nw + k + 1)) V) := by
        by_cases hlast : k + 1 < ty
        · refine (nextTrail0_ok A sb so m (8 * nw + k) (L - 8 * nw - k) (scap - 8 * nw - k) nw (tb - 8 * k) (ty - k) cu σ wr HT.out.bs HT.out.wr HT.out.As (by have := HL.out; have := Hty.out; have := Htb.out; omega) (by have := HL.out; have := H8.out; omega) (by have := HL.out; have := Hty.out; have := Htb.out; have := H8.out; omega) HT.out.lo (by have := Hty.out; omega) (by omega) (by have := Htb.out; omega) (by omega)).mono ?_
          rintro e w' ⟨v, V, rfl, h2, h3, h4, h5⟩
          exact ⟨v, V, _, _, _, _, rfl, h2, h3, fun _ => ⟨by omega, by omega, by omega, by omega, h4, h5⟩⟩
        · have htb8 : tb - 8 * k = 8 := by have := Hty.out; have := Htb.out; have := H8.out; omega
          refine (lastTrail_ok A sb so m 0 (8 * nw + k) (L - 8 * nw - k) (scap - 8 * nw - k) nw (tb - 8 * k) (ty - k) cu σ wr HT.out.bs HT.out.wr HT.out.As (by omega) (by omega) (by omega) (by have := HL.out; have := Hty.out; have := Htb.out; omega) (by have := HL.out; omega) (by have := HL.out; have := Hty.out; have := Htb.out; have := H8.out; omega)).mono ?_
          rintro e w' ⟨v, rfl, h2, h3, h4⟩
          rw [htb8, Nat.add_zero] at h2
          rw [htb8]
          exact ⟨v, 0, 0, 0, 0, 0, rfl, h2, h3, fun hh => absurd hh hlast⟩
      have Hd1 := Lib.hid hd1
      have Hj := Lib.hid hj
      clear hd1 hj
      go_wp2_with fail
      refine Hd1.out.mono ?_
      rintro e w5 ⟨v, V, tb2, ty2, L2, C2, rfl, hv, h5, hn⟩
      obtain ⟨q1, q2, q3⟩ := HT.out.ww1 h5
      have hd2 := putTrail8_ok Z b off n rd (q + (8 * nw + k)) (n - q - 8 * nw - k) (cap - q - 8 * nw - k) length cz v _ w5 q2 q1 HT.out.Zb (by have := Hd.out; have := Hrd.out; omega) (by have := Hrd.out; omega) (by have := Hj.out; have := Hdq.out; have := Hd.out; have := Hrd.out; omega) (by omega) (by have := Hj.out; have := Hdq.out; have := Hd.out; have := Hrd.out; omega) HT.out.lz hv.lt
      have Hd2 := Lib.hid hd2
      have H5 := Lib.hid h5
      have Hv := Lib.hid hv
      have Hn := Lib.hid hn
      have Hq3 := Lib.hid q3
      clear h5 hv hn q1 q2 q3 hd2
      go_wp2_with fail
      refine Hd2.out.mono ?_
      rintro e w6 ⟨rfl, h6, b6, X, hX, nX⟩
      have e : paste (copyB β σ (8 * q + rd) (8 * (8 * nw + k))) (8 * (q + (8 * nw + k)) + rd) 8 v = copyB β σ (8 * q + rd) (8 * (8 * nw + (k + 1))) := by
        rw [show 8 * (q + (8 * nw + k)) + rd = (8 * q + rd) + 8 * (8 * nw + k) by omega, copyB_more _ _ _ _ _ _ (fun t ht => by rw [Hv.out.tb t ht, decide_eq_true ht, Bool.true_and])]
        congr 1
      have hb7 := b6
      rw [e] at hb7
      have hc7 := (HT.out.chg.trans (H5.out.mono (fun _ _ _ hh => .inl hh))).trans (h6.mono (fun _ _ _ hh => .inr hh))
      have hT7 : k + 1 < ty → ∃ cu cz, Tr sb so m b off n A Z rd q length β σ w w6 (8 * nw + (k + 1)) (tb - 8 * (k + 1)) (ty - (k + 1)) nw (L - 8 * nw - (k + 1)) (scap - 8 * nw - (k + 1)) (n - q - 8 * nw - (k + 1)) (cap - q - 8 * nw - (k + 1)) cu cz := by
        intro hlt2
        obtain ⟨rfl, rfl, rfl, rfl, g1, g2⟩ := Hn.out hlt2
        refine ⟨V, X, ?_⟩
        have := HT.out.step 1 v V X (tb - 8 * (k + 1)) (ty - (k + 1)) (L - 8 * nw - (k + 1)) (scap - 8 * nw - (k + 1)) (n - q - 8 * nw - k - 1) (cap - q - 8 * nw - k - 1) (fun t ht => by rw [Hv.out.tb t (by omega), decide_eq_true (by omega), Bool.true_and]) H5.out g1 g2 h6 b6 hX nX
        rw [show n - q - 8 * nw - (k + 1) = n - q - 8 * nw - k - 1 by omega, show cap - q - 8 * nw - (k + 1) = cap - q - 8 * nw - k - 1 by omega, ← Nat.add_assoc]
        exact this
      have Hb7 := Lib.hid hb7
      have Hc7 := Lib.hid hc7
      have HT7 := Lib.hid hT7
      clear h6 b6 hX nX e hb7 hc7 hT7
      go_wp2_with fail
      go_roundw
      case rel => exact ⟨k + 1, hlt, by rw [← Hk2.out], HT7.out, Hb7.out, Hc7.out⟩
      case measure => simp [intOf]; omega
    · obtain rfl : k = ty := by omega
      have hk0 : ((k - k : Nat) : Int) = 0 := by omega
      have Hbd := Lib.hid hbd
      have Hch := Lib.hid hch
      clear ht hbd hch
      go_wp2_with fail
      refine bodyPost_ret (results_none rfl _ _ _) rfl ?_
      refine ⟨rfl, Hch.out.mono (fun a x ha hh => ?_), ?_⟩
      · rcases hh with hh | hh | hh
        · have := HA.out; omega
        · have := HA.out; have := HAZ.out; omega
        · exact hh
      · have := Hbd.out
        rwa [Hdq.out, show 8 * (8 * nw + k) = length by have := Hty.out; have := Htb.out; have := Hnw.out; have := H8.out; omega] at this
set_option maxRecDepth 100000 in
set_option maxHeartbeats 1000000 in
theorem copyBitmap0_ok (sb so m slen scap b off n cap d length : Nat) (β σ : Nat → Bool) (w : World) (hS : Bmp w sb so m σ) (hB : Bmp w b off n β) (hsb : sb ≠ b) (hd : 1 ≤ d % 8) (h1 : 1 ≤ length) (h8 : length % 8 = 0) (hl : length ≤ 1000000000) (hm : length / 8 ≤ m) (hms : m ≤ slen) (hsc : slen ≤ scap) (hscap : scap ≤ 1000000000000) (hn : d + length ≤ 8 * n) (hnc : n ≤ cap) (hcap : cap ≤ 1000000000000) :
    Calls Tryz.prog 51 #[.slice (some ⟨sb, so, none⟩) slen scap, .int .i64 0, .int .i64 length, .slice (some ⟨b, off, none⟩) n cap, .int .i64 d] w fun e w' => e = .returned (.tuple #[]) ∧ Chg (RowS b off n) w w' ∧ Bmp w' b off n (copyB β σ d length) := by
  have H := Lib.hid (transfer0_ok sb so m slen scap b off n cap d length β σ w hS hB hsb hd h1 h8 hl hm hms hsc hscap hn hnc hcap)
  clear hS hB hd h8
  go_enter Tryz.func51, Tryz.ntmps51
  go_wp2_with fail
  refine H.out.mono ?_
  rintro e w1 ⟨rfl, h1, h2⟩
  have H1 := Lib.hid h1
  have H2 := Lib.hid h2
  clear h1 h2
  go_wp2_with fail
  go_end0
  exact ⟨rfl, H1.out, H2.out⟩
end Go.Proofs.YtameepdbnnaaaaaGreatDoor
