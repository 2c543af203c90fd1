/- Part 16 of the proof: the texts BW, BX, BY, BU, joined. What each proves stands ahead of it. -/
import Derived.Test.YtflgbndhahcdnaaGreatDoorKG
import Derived.Test.YtflgbndhahcdnaaGreatDoorKO
import Derived.Test.YtflgbndhahcdnaaGreatDoorKH
set_option linter.unusedVariables false
set_option linter.unusedSimpArgs false
/- The writer of a bitmap by words, from a bit that begins no byte. -/
namespace Go.Proofs.YtflgbndhahcdnaaGreatDoor
open Go Go.RowKit
/-- A writer of a bitmap by words, a block of its own: at byte j of (b, off). -/
structure WW (w : World) (Z b off rd j L C M len cur : Nat) : Prop where
  sl : w.cell? ⟨Z, 0, none⟩ = some (.slice (some ⟨b, off + j, none⟩) L C)
  of : w.cell? ⟨Z, 1, none⟩ = some (.int .i64 rd)
  le : w.cell? ⟨Z, 2, none⟩ = some (.int .i64 len)
  ma : w.cell? ⟨Z, 3, none⟩ = some (.int .u64 M)
  cu : w.cell? ⟨Z, 4, none⟩ = some (.int .u64 cur)
  fr : ∀ k, k < 5 → w.frozen? ⟨Z, k, none⟩ = false
theorem WW.lt {w : World} {Z b off rd j L C M len cur : Nat} (h : WW w Z b off rd j L C M len cur) : Z < w.heap.size := World.block_lt_of_cell? w _ h.sl
theorem WW.keep {w w' : World} {Z b off rd j L C M len cur : Nat} (h : WW w Z b off rd j L C M len cur) {S : Nat → Nat → Prop} (hc : Chg S w w') (hS : ∀ x, ¬ S Z x) : WW w' Z b off rd j L C M len cur :=
  ⟨hc.keep h.sl (hS _), hc.keep h.of (hS _), hc.keep h.le (hS _), hc.keep h.ma (hS _), hc.keep h.cu (hS _), fun k hk => (hc.frozen _ _ h.lt).trans (h.fr k hk)⟩
theorem WW.drew {w : World} {Z b off rd j L C M len cur : Nat} (h : WW w Z b off rd j L C M len cur) : WW w.drew Z b off rd j L C M len cur := h.keep (Chg.drew (Chg.refl Nix w)) (fun _ h => h)
theorem WW.cur' {w : World} {Z b off rd j L C M len cur : Nat} (h : WW w Z b off rd j L C M len cur) (v : Nat) : WW (w.setCell ⟨Z, 4, none⟩ (.int .u64 v)) Z b off rd j L C M len v :=
  ⟨cell_ne _ h.sl (by omega), cell_ne _ h.of (by omega), cell_ne _ h.le (by omega), cell_ne _ h.ma (by omega), World.cell?_setCell_same _ _ _ h.cu, fun k hk => by rw [World.frozen?_setCell]; exact h.fr k hk⟩
theorem WW.sl' {w : World} {Z b off rd j L C M len cur : Nat} (h : WW w Z b off rd j L C M len cur) (j' L' C' : Nat) : WW (w.setCell ⟨Z, 0, none⟩ (.slice (some ⟨b, off + j', none⟩) L' C')) Z b off rd j' L' C' M len cur :=
  ⟨World.cell?_setCell_same _ _ _ h.sl, cell_ne _ h.of (by omega), cell_ne _ h.le (by omega), cell_ne _ h.ma (by omega), cell_ne _ h.cu (by omega), fun k hk => by rw [World.frozen?_setCell]; exact h.fr k hk⟩
/-- What a writer may turn. -/
def WS (Z b off n : Nat) : Nat → Nat → Prop := fun k x => k = Z ∨ RowS b off n k x
set_option maxRecDepth 100000 in
set_option maxHeartbeats 1000000 in
theorem putWord_ok (Z b off n rd j L C len cur V : Nat) (β : Nat → Bool) (w : World) (hB : Bmp w b off n β) (h : WW w Z b off rd j L C (2 ^ rd - 1) len cur) (hZ : Z ≠ b) (hr1 : 1 ≤ rd) (hr : rd < 8) (hL : 16 ≤ L) (hLC : L ≤ C) (hn : j + 16 ≤ n) (hcur : Num64 β (8 * j) cur) (hV : V < 2 ^ 64) :
    Calls Tryz.prog 61 #[.pointer (some ⟨Z, 0, none⟩), .int .u64 V] w fun e w' => e = .returned (.tuple #[]) ∧ Chg (WS Z b off n) w w' ∧ Bmp w' b off n (paste β (8 * j + rd) 64 V) ∧ ∃ X, WW w' Z b off rd (j + 8) (L - 8) (C - 8) (2 ^ rd - 1) len X ∧ Num64 (paste β (8 * j + rd) 64 V) (8 * (j + 8)) X := by
  obtain ⟨M, hM⟩ : ∃ M, M = 2 ^ rd - 1 := ⟨_, rfl⟩
  rw [← hM] at h
  have c0 := h.sl
  have c1 := h.of
  have c3 := h.ma
  have c4 := h.cu
  have f0 := h.fr 0 (by omega)
  have f4 := h.fr 4 (by omega)
  have hM64 : M < 2 ^ 64 := by rw [hM]; exact ones_lt 64 rd (by omega)
  have hcap : ¬ C = 8 := by omega
  have h8 : (8 : Nat) ≤ L := by omega
  have h8i : (8 : Int) ≤ L := by omega
  have hcapi : ¬ (C : Int) = 8 := by omega
  have hrd0 : ¬ (rd : Int) = 0 := by omega
  have hwr : IntKind.u64.wrap (rd : Int) = rd := IntWalk.u64_in _ (by omega)
  have hs1 := shlw64_is V rd
  have hs2 : (V : Int) / 2 ^ (64 - rd) = (V / 2 ^ (64 - rd) : Nat) := by norm_cast
  have hs3 : ((64 : Int) - rd).toNat = 64 - rd := by omega
  have hs4 : IntKind.i64.wrap ((64 : Int) - rd) = 64 - rd := IntWalk.i64_in _ (by omega)
  have hs5 : (0 : Int) ≤ 64 - rd := by omega
  have hs6 : (64 : Int) - rd ≤ 64 := by omega
  have hw64 : IntKind.i64.wrap 64 = 64 := by decide
  have hrt : ((rd : Nat) : Int).toNat = rd := by omega
  have hR := rotw_lt 64 V rd hV
  have hsor : bits .or .u64 ((shlw 64 V rd : Nat) : Int) ((V / 2 ^ (64 - rd) : Nat) : Int) = (rotw 64 V rd : Nat) := u64_or_nat _ _ (shlw_lt 64 V rd) (Nat.lt_of_le_of_lt (Nat.div_le_self _ _) hV)
  obtain ⟨R, hRe⟩ : ∃ R, R = rotw 64 V rd := ⟨_, rfl⟩
  obtain ⟨A, hAe⟩ : ∃ A, A = shlw 64 V rd := ⟨_, rfl⟩
  obtain ⟨B, hBe⟩ : ∃ B, B = V / 2 ^ (64 - rd) := ⟨_, rfl⟩
  rw [← hRe] at hR
  rw [← hRe, ← hAe, ← hBe] at hsor
  rw [← hAe] at hs1
  rw [← hBe] at hs2
  have d1 := u64_and_nat cur M hcur.lt hM64
  have d2 := u64_andNot_nat R M hR hM64
  have d3 := u64_or_nat (cur &&& M) (R &&& (2 ^ 64 - 1 - M)) (and64_lt _ _ hcur.lt) (and64_lt _ _ hR)
  have d4 := u64_and_nat R M hR hM64
  have hd3 : (cur &&& M) ||| (R &&& (2 ^ 64 - 1 - M)) = mixw 64 cur R M := rfl
  rw [hd3] at d3
  obtain ⟨D1, hD1⟩ : ∃ D1, D1 = cur &&& M := ⟨_, rfl⟩
  obtain ⟨D2, hD2⟩ : ∃ D2, D2 = R &&& (2 ^ 64 - 1 - M) := ⟨_, rfl⟩
  obtain ⟨D3, hD3⟩ : ∃ D3, D3 = mixw 64 cur R M := ⟨_, rfl⟩
  obtain ⟨D4, hD4⟩ : ∃ D4, D4 = R &&& M := ⟨_, rfl⟩
  rw [← hD1] at d1 d3
  rw [← hD2] at d2 d3
  rw [← hD3] at d3
  rw [← hD4] at d4
  have H := Lib.hid h
  have HB := Lib.hid hB
  have Hcur := Lib.hid hcur
  have HV := Lib.hid hV
  have HM64 := Lib.hid hM64
  have HR := Lib.hid hR
  have HM := Lib.hid hM
  have HRe := Lib.hid hRe
  have HD3 := Lib.hid hD3
  have HD4 := Lib.hid hD4
  clear h hB hcur hV hM64 hR hM hRe hAe hBe hD1 hD2 hD3 hD4 hd3
  go_enter Tryz.func61, Tryz.ntmps61
  go_wp2_with fail
  (refine wp_region_txt [] (by kernel_rfl) (by kernel_rfl) ?_; repeat (first | (refine wpTxt_pure rfl rfl (fun K hK => ?_); go_simp; refine hK _ ?_; clear hK K) | (refine wpTxt_still rfl rfl (fun K hK => ?_); go_simp; refine hK _ ?_; clear hK K)))
  refine wpTxt_nil ?_
  have HW0 := Lib.hid H.out.drew
  have HB0 := Lib.hid HB.out.drew
  have Hc0 : Hid (Chg (WS Z b off n) w w.drew) := Lib.hid (Chg.refl _ _).drew
  generalize w.drew = w0 at HW0 HB0 Hc0 ⊢
  clear c0 c1 c3 c4 f0 f4 hs1 hs2 hsor
  have c0 := HW0.out.sl
  have c3 := HW0.out.ma
  have c4 := HW0.out.cu
  have hcall := leBits_ok b off n (j + 8) (L - 8) (C - 8) β w0.drew HB0.out.drew (by omega) (by omega)
  rw [show off + (j + 8) = off + j + 8 by omega] at hcall
  have Hcall := Lib.hid hcall; clear hcall
  go_wp2_with fail
  refine wp_region_txt [72] (by kernel_rfl) (by kernel_rfl) ?_
  repeat (first | (refine wpTxt_pure rfl rfl (fun K hK => ?_); go_simp; refine hK _ ?_; clear hK K) | (refine wpTxt_still rfl rfl (fun K hK => ?_); go_simp; refine hK _ ?_; clear hK K))
  refine wpTxt_effect rfl rfl (fun K hK => ?_); go_simp
  refine Hcall.out.mono ?_
  rintro e w1 ⟨N, rfl, hN, h1⟩
  have HN := Lib.hid hN
  have HW1 := Lib.hid (HW0.out.keep h1.undrew (fun _ h => h))
  have HB1 := Lib.hid (HB0.out.keep h1.undrew (fun _ _ h => h))
  have Hc1 := Lib.hid (Hc0.out.trans (h1.undrew.mono (fun _ _ _ h => h.elim)))
  clear h1 hN c0 c3 c4 Hcall
  have d5 := u64_andNot_nat N M HN.out.lt HM64.out
  have d6 := u64_or_nat (N &&& (2 ^ 64 - 1 - M)) (R &&& M) (and64_lt _ _ HN.out.lt) (and64_lt _ _ HR.out)
  have hd6 : (N &&& (2 ^ 64 - 1 - M)) ||| (R &&& M) = mixw 64 R N M := Nat.or_comm _ _
  rw [hd6, ← HD4.out] at d6
  obtain ⟨D5, hD5⟩ : ∃ D5, D5 = N &&& (2 ^ 64 - 1 - M) := ⟨_, rfl⟩
  obtain ⟨D6, hD6⟩ : ∃ D6, D6 = mixw 64 R N M := ⟨_, rfl⟩
  rw [← hD5] at d5 d6
  rw [← hD6] at d6
  have HD6 := Lib.hid hD6
  clear hD5 hD6 hd6
  have c3 := HW1.out.ma
  have c4 := HW1.out.cu
  have f4 := HW1.out.fr 4 (by omega)
  (refine hK _ _ ?_; clear hK K)
  repeat (first | (refine wpTxt_pure rfl rfl (fun K hK => ?_); go_simp; refine hK _ ?_; clear hK K) | (refine wpTxt_still rfl rfl (fun K hK => ?_); go_simp; refine hK _ ?_; clear hK K))
  refine wpTxt_still rfl rfl (fun K hK => ?_)
  go_simp
  refine ⟨_, toLE_ok N _, ?_⟩
  (refine hK _ ?_; clear hK K)
  repeat (first | (refine wpTxt_pure rfl rfl (fun K hK => ?_); go_simp; refine hK _ ?_; clear hK K) | (refine wpTxt_still rfl rfl (fun K hK => ?_); go_simp; refine hK _ ?_; clear hK K))
  refine wpTxt_nil ?_
  go_wp2_with fail
  (refine wp_region_txt [] (by kernel_rfl) (by kernel_rfl) ?_; repeat (first | (refine wpTxt_pure rfl rfl (fun K hK => ?_); go_simp; refine hK _ ?_; clear hK K) | (refine wpTxt_still rfl rfl (fun K hK => ?_); go_simp; refine hK _ ?_; clear hK K)))
  (refine wpTxt_effect rfl rfl (fun K hK => ?_); go_simp; refine hK _ _ ?_; clear hK K)
  refine wpTxt_nil ?_
  have HW2 := Lib.hid ((HW1.out.cur' D3).drew)
  have Hc2 : Hid (Chg (WS Z b off n) w (w1.setCell ⟨Z, 4, none⟩ (.int .u64 D3)).drew) := Lib.hid (Hc1.out.setCell Z 4 (fun _ => .inl rfl) _).drew
  have HB2 := Lib.hid ((HB1.out.keep ((Chg.refl (Own Z) w1).own 4 (.int .u64 D3)) (fun _ _ hh => hZ hh.symm)).drew)
  generalize (w1.setCell ⟨Z, 4, none⟩ (.int .u64 D3)).drew = w2 at HW2 Hc2 HB2 ⊢
  clear c3 c4 f4 HW1 Hc1 HB1 d1 d2 d3
  have c3 := HW2.out.ma
  go_wp2_with fail
  (refine wp_region_txt [] (by kernel_rfl) (by kernel_rfl) ?_; repeat (first | (refine wpTxt_pure rfl rfl (fun K hK => ?_); go_simp; refine hK _ ?_; clear hK K) | (refine wpTxt_still rfl rfl (fun K hK => ?_); go_simp; refine hK _ ?_; clear hK K)))
  refine wpTxt_nil ?_
  have HW3 := Lib.hid HW2.out.drew
  have HB3 := Lib.hid HB2.out.drew
  have Hc3 := Lib.hid Hc2.out.drew
  generalize w2.drew = w3 at HW3 Hc3 HB3 ⊢
  clear c3 HW2 Hc2 HB2 d4 d5 d6
  have c0 := HW3.out.sl
  have c4 := HW3.out.cu
  have hD3l : D3 < 2 ^ 64 := by rw [HD3.out]; exact mixw_lt 64 cur R M Hcur.out.lt HR.out
  have hD6l : D6 < 2 ^ 64 := by rw [HD6.out]; exact mixw_lt 64 R N M HR.out HN.out.lt
  have hcall := put64_ok b (off + j) L C D3 w3.drew hD3l (by omega) (fun i hi => by obtain ⟨x, hx, -⟩ := HB3.out.cell (j + i) (by omega); exact ⟨x, by rw [Nat.add_assoc]; exact hx⟩) (fun i hi => by rw [Nat.add_assoc]; exact HB3.out.fr (j + i) (by omega))
  have Hcall := Lib.hid hcall
  have HD3l := Lib.hid hD3l
  have HD6l := Lib.hid hD6l
  clear hcall hD3l hD6l
  go_wp2_with fail
  refine wp_region_txt [72] (by kernel_rfl) (by kernel_rfl) ?_
  repeat (first | (refine wpTxt_pure rfl rfl (fun K hK => ?_); go_simp; refine hK _ ?_; clear hK K) | (refine wpTxt_still rfl rfl (fun K hK => ?_); go_simp; refine hK _ ?_; clear hK K))
  refine wpTxt_still rfl rfl (fun K hK => ?_)
  go_simp
  refine ⟨_, toLE_ok D3 _, ?_⟩
  (refine hK _ ?_; clear hK K)
  refine wpTxt_effect rfl rfl (fun K hK => ?_); go_simp
  refine Hcall.out.mono ?_
  rintro e w4 ⟨rfl, h4, hb4⟩
  have h4' := h4.undrew
  have HB4 := Lib.hid (HB3.out.put64 j D3 (by omega) h4' hb4)
  have HW4 := Lib.hid (HW3.out.keep h4' (fun x hh => hZ hh.1))
  have Hc4 := Lib.hid (Hc3.out.trans (h4'.mono (fun k x _ hh => .inr ⟨hh.1, by omega, by omega⟩)))
  clear h4 h4' hb4 c0 c4 HW3 Hc3 HB3 Hcall
  (refine hK _ _ ?_; clear hK K)
  refine wpTxt_nil ?_
  have c0 := HW4.out.sl
  have hcall := put64_ok b (off + j + 8) (L - 8) (C - 8) D6 w4.drew HD6l.out (by omega) (fun i hi => by obtain ⟨x, hx, -⟩ := HB4.out.cell (j + 8 + i) (by omega); exact ⟨x, by rw [show off + j + 8 + i = off + (j + 8 + i) by omega]; exact hx⟩) (fun i hi => by rw [show off + j + 8 + i = off + (j + 8 + i) by omega]; exact HB4.out.fr (j + 8 + i) (by omega))
  have Hcall := Lib.hid hcall
  clear hcall
  go_wp2_with fail
  refine wp_region_txt [72] (by kernel_rfl) (by kernel_rfl) ?_
  repeat (first | (refine wpTxt_pure rfl rfl (fun K hK => ?_); go_simp; refine hK _ ?_; clear hK K) | (refine wpTxt_still rfl rfl (fun K hK => ?_); go_simp; refine hK _ ?_; clear hK K))
  refine wpTxt_still rfl rfl (fun K hK => ?_)
  go_simp
  refine ⟨_, toLE_ok D6 _, ?_⟩
  (refine hK _ ?_; clear hK K)
  refine wpTxt_effect rfl rfl (fun K hK => ?_); go_simp
  refine Hcall.out.mono ?_
  rintro e w5 ⟨rfl, h5, hb5⟩
  have h5' := h5.undrew
  have hp2 := HB4.out.put64 (j + 8) D6 (by omega) (h5'.mono (fun k x _ hh => ⟨hh.1, by omega, by omega⟩)) (by rw [← Nat.add_assoc]; exact hb5)
  rw [HD3.out, HD6.out, HRe.out, HM.out, show 8 * (j + 8) = 8 * j + 64 by omega, paste_two 64 (8 * j) rd cur N V β (by omega) HV.out Hcur.out.tb (fun t ht => by have := HN.out.tb t ht; rwa [show 8 * (j + 8) + t = 8 * j + 64 + t by omega] at this)] at hp2
  have HB5 := Lib.hid hp2
  have hW5 := (HW4.out.keep h5' (fun x hh => hZ hh.1))
  have Hc5 := Lib.hid (Hc4.out.trans (h5'.mono (fun k x _ hh => .inr ⟨hh.1, by omega, by omega⟩)))
  have c0' := hW5.sl
  have c4' := hW5.cu
  have f0' := hW5.fr 0 (by omega)
  have f4' := hW5.fr 4 (by omega)
  have hW6 := (hW5.cur' D6).sl' (j + 8) (L - 8) (C - 8)
  rw [show off + (j + 8) = off + j + 8 by omega] at hW6
  have hc6 := (Hc5.out.setCell Z 4 (fun _ => .inl rfl) (.int .u64 D6)).setCell Z 0 (fun _ => .inl rfl) (.slice (some ⟨b, off + j + 8, none⟩) (L - 8) (C - 8))
  have hB6 := HB5.out.keep (((Chg.refl (Own Z) w5).own 4 (.int .u64 D6)).own 0 (.slice (some ⟨b, off + j + 8, none⟩) (L - 8) (C - 8))) (fun _ _ hh => hZ hh.symm)
  have HW6 := Lib.hid hW6
  have Hc6 := Lib.hid hc6
  have HB6 := Lib.hid hB6
  clear h5 h5' hb5 hp2 hW5 hW6 hc6 hB6 c0 HW4 Hc4 HB4 Hcall HB5 Hc5
  (refine hK _ _ ?_; clear hK K)
  refine wpTxt_nil ?_
  go_wp2_with fail
  go_end0
  rw [← HM.out]
  refine ⟨rfl, Hc6.out, HB6.out, D6, HW6.out, HD6l.out, fun t ht => ?_⟩
  rw [HD6.out, HRe.out, HM.out, paste_next 64 (8 * j) rd cur N V β (by omega) HV.out Hcur.out.tb (fun t ht => by have := HN.out.tb t ht; rwa [show 8 * (j + 8) + t = 8 * j + 64 + t by omega] at this) t ht]
  congr 1
end Go.Proofs.YtflgbndhahcdnaaGreatDoor
/- The writer of a bitmap by words: made; the next byte. -/
namespace Go.Proofs.YtflgbndhahcdnaaGreatDoor
open Go Go.RowKit
set_option maxRecDepth 100000 in
set_option maxHeartbeats 1000000 in
theorem newWW_ok (b off n q rd cap length : Nat) (β : Nat → Bool) (w : World) (hB : Bmp w b off n β) (hr1 : 1 ≤ rd) (hr : rd < 8) (h1 : 1 ≤ length) (hl2 : length ≤ 1000000000) (hn : q + (rd + length + 7) / 8 ≤ n) (hnc : n ≤ cap) (hcap : cap ≤ 1000000000000) :
    Calls Tryz.prog 59 #[.slice (some ⟨b, off, none⟩) n cap, .int .i64 (8 * q + rd : Nat), .int .i64 length] w fun e w' => e = .returned (.pointer (some ⟨w.heap.size, 0, none⟩)) ∧ Chg Nix w w' ∧ w.heap.size < w'.heap.size ∧ ∃ cur, WW w' w.heap.size b off rd q (n - q) (cap - q) (2 ^ rd - 1) length cur ∧ Lo8 β (8 * q) cur ∧ (64 ≤ length → Num64 β (8 * q) cur) := by
  obtain ⟨o, ho⟩ : ∃ o, o = 8 * q + rd := ⟨_, rfl⟩
  rw [← ho]
  have e1 : (o : Int) / 8 = q := by omega
  have e2 : (o : Int) % 8 = rd := by omega
  have hqt : ((q : Nat) : Int).toNat = q := by omega
  have hqc : ¬ cap = q := by omega
  have hwr : IntKind.u64.wrap (rd : Int) = rd := IntWalk.u64_in _ (by omega)
  have hrt : ((rd : Nat) : Int).toNat = rd := by omega
  have hp : (2 : Nat) ^ rd ≤ 128 := pow8 rd (by omega)
  have hp0 : 1 ≤ (2 : Nat) ^ rd := Nat.two_pow_pos rd
  obtain ⟨P, hP⟩ : ∃ P, P = 2 ^ rd := ⟨_, rfl⟩
  have hP2 : (2 : Int) ^ rd = (P : Nat) := by rw [hP]; norm_cast
  rw [← hP] at hp hp0
  have hwP : IntKind.u64.wrap (P : Int) = P := IntWalk.u64_in _ (by omega)
  have hP1 : (P : Int) - 1 = (P - 1 : Nat) := by omega
  have HP1 := Lib.hid hP1
  have hwP1 : IntKind.u64.wrap ((P : Int) - 1) = (P : Int) - 1 := IntWalk.u64_in _ (by omega)
  have hrd0 : ¬ (rd : Int) = 0 := by omega
  have hbl : b < w.heap.size := by obtain ⟨x, hx, -⟩ := hB.cell q (by omega); exact World.block_lt_of_cell? w _ hx
  have HB := Lib.hid hB
  have HP := Lib.hid hP
  clear hB hP ho hP1
  go_enter Tryz.func59, Tryz.ntmps59
  go_upto_if 26 with fail
  rw [HP1.out]
  have hW : WW (w.alloc (Obj.cells #[.slice (some ⟨b, off + q, none⟩) (n - q) (cap - q), .int .i64 rd, .int .i64 length, .int .u64 (P - 1 : Nat), .int .u64 0] 149)) w.heap.size b off rd q (n - q) (cap - q) (P - 1) length 0 := ⟨by simp, by simp, by simp, by simp, by simp, fun k _ => by simp⟩
  have hc : Chg Nix w (w.alloc (Obj.cells #[.slice (some ⟨b, off + q, none⟩) (n - q) (cap - q), .int .i64 rd, .int .i64 length, .int .u64 (P - 1 : Nat), .int .u64 0] 149)) := Chg.new _ _
  obtain ⟨Z, hZ⟩ : ∃ Z, Z = w.heap.size := ⟨_, rfl⟩
  rw [← hZ] at hW hbl ⊢
  have HZ := Lib.hid hZ
  generalize (w.alloc (Obj.cells #[.slice (some ⟨b, off + q, none⟩) (n - q) (cap - q), .int .i64 rd, .int .i64 length, .int .u64 (P - 1 : Nat), .int .u64 0] 149)) = w2 at hW hc ⊢
  have HW := Lib.hid hW
  have Hc := Lib.hid hc
  have HB2 := Lib.hid (HB.out.keep hc (fun _ _ h => h))
  have c0 := HW.out.sl
  have c1 := HW.out.of
  have c2 := HW.out.le
  have c4 := HW.out.cu
  have f4 := HW.out.fr 4 (by omega)
  have hown : ∀ (w' : World) (v : Value), Chg Nix w w' → Chg Nix w (w'.setCell ⟨Z, 4, none⟩ v) := fun w' v h => ((h.mono (S' := fun k _ => k = Z) (fun _ _ _ h => h.elim)).setCell Z 4 (fun _ => rfl) _).mono (fun k x hk hh => by have := HZ.out; omega)
  have Hown := Lib.hid hown
  clear hZ hW hc hown
  by_cases h64 : 64 ≤ length
  · have hcall := leBits_ok b off n q (n - q) (cap - q) β w2.drew HB2.out.drew (by omega) (by omega)
    have Hcall := Lib.hid hcall; clear hcall
    have h64' : (64 : Int) ≤ length := by omega
    go_wp2_with fail
    refine wp_region_txt [72] (by kernel_rfl) (by kernel_rfl) ?_
    repeat (first | (refine wpTxt_pure rfl rfl (fun K hK => ?_); go_simp; refine hK _ ?_; clear hK K) | (refine wpTxt_still rfl rfl (fun K hK => ?_); go_simp; refine hK _ ?_; clear hK K))
    refine wpTxt_effect rfl rfl (fun K hK => ?_); go_simp
    refine Hcall.out.mono ?_
    rintro e w5 ⟨V, rfl, hV, h5⟩
    have hW5 := HW.out.keep h5.undrew (fun _ h => h)
    have c4' := hW5.cu
    have f4' := hW5.fr 4 (by omega)
    have HW6 := Lib.hid (hW5.cur' V)
    have Hc6 := Lib.hid (Hown.out _ (.int .u64 V) (Hc.out.trans h5.undrew))
    have HV := Lib.hid hV
    clear h5 hW5 hV
    (refine hK _ _ ?_; clear hK K)
    repeat (first | (refine wpTxt_pure rfl rfl (fun K hK => ?_); go_simp; refine hK _ ?_; clear hK K) | (refine wpTxt_still rfl rfl (fun K hK => ?_); go_simp; refine hK _ ?_; clear hK K))
    refine wpTxt_still rfl rfl (fun K hK => ?_)
    go_simp
    refine ⟨_, toLE_ok V _, ?_⟩
    (refine hK _ ?_; clear hK K)
    repeat (first | (refine wpTxt_pure rfl rfl (fun K hK => ?_); go_simp; refine hK _ ?_; clear hK K) | (refine wpTxt_still rfl rfl (fun K hK => ?_); go_simp; refine hK _ ?_; clear hK K))
    (refine wpTxt_effect rfl rfl (fun K hK => ?_); go_simp; refine hK _ _ ?_; clear hK K)
    refine wpTxt_nil ?_
    go_wp2_with fail
    go_ret
    rw [← HZ.out, ← HP.out]
    exact ⟨rfl, Hc6.out, HW6.out.lt, V, HW6.out, HV.out.lo8, fun _ => HV.out⟩
  · have h64' : ¬ (64 : Int) ≤ length := by omega
    have hl0 : (0 : Int) < length := by omega
    obtain ⟨x, hx, hx8, hxt⟩ := HB2.out.cell q (by omega)
    have hL0 : 0 < n - q := by omega
    have hcall := setLSB_ok Z 4 0 x w2.drew (by decide) hx8 c4 f4
    have Hcall := Lib.hid hcall
    have HW6 := Lib.hid (HW.out.cur' (lsb 0 x))
    have Hc6 := Lib.hid (Hown.out _ (.int .u64 (lsb 0 x : Nat)) Hc.out)
    have Hx := Lib.hid hxt
    clear hcall hxt
    go_wp2_with fail
    (refine wp_region_txt [] (by kernel_rfl) (by kernel_rfl) ?_; repeat (first | (refine wpTxt_pure rfl rfl (fun K hK => ?_); go_simp; refine hK _ ?_; clear hK K) | (refine wpTxt_still rfl rfl (fun K hK => ?_); go_simp; refine hK _ ?_; clear hK K)))
    refine wpTxt_effect rfl rfl (fun K hK => ?_); go_simp
    refine Hcall.out.mono ?_
    rintro e w5 ⟨rfl, rfl⟩
    (refine hK _ _ ?_; clear hK K)
    repeat (first | (refine wpTxt_pure rfl rfl (fun K hK => ?_); go_simp; refine hK _ ?_; clear hK K) | (refine wpTxt_still rfl rfl (fun K hK => ?_); go_simp; refine hK _ ?_; clear hK K))
    refine wpTxt_nil ?_
    go_wp2_with fail
    go_ret
    rw [← HZ.out, ← HP.out]
    exact ⟨rfl, Hc6.out.drew, HW6.out.drew.lt, lsb 0 x, HW6.out.drew, ⟨lsb_lt 0 x (by decide) hx8, fun t ht => by rw [lsb_tb _ _ _ hx8 ht, Hx.out t ht]⟩, fun h => absurd h h64⟩
end Go.Proofs.YtflgbndhahcdnaaGreatDoor
/- The writer of a bitmap by words: the next byte. -/
namespace Go.Proofs.YtflgbndhahcdnaaGreatDoor
open Go Go.RowKit
theorem byt_paste (β : Nat → Bool) (q x : Nat) : byt β q x = paste β (8 * q) 8 x := by
  funext i
  unfold byt paste
  by_cases h : i / 8 = q
  · rw [if_pos h, if_pos (by omega)]; congr 1; omega
  · rw [if_neg h, if_neg (by omega)]
set_option maxRecDepth 100000 in
set_option maxHeartbeats 1000000 in
theorem putTrail8_ok (Z b off n rd j L C len cur V : Nat) (β : Nat → Bool) (w : World) (hB : Bmp w b off n β) (h : WW w Z b off rd j L C (2 ^ rd - 1) len cur) (hZ : Z ≠ b) (hr1 : 1 ≤ rd) (hr : rd < 8) (hL : 2 ≤ L) (hLC : L ≤ C) (hn : j + 2 ≤ n) (hcur : Lo8 β (8 * j) cur) (hV : V < 256) :
    Calls Tryz.prog 65 #[.pointer (some ⟨Z, 0, none⟩), .int .u8 V, .int .i64 8] w fun e w' => e = .returned (.tuple #[]) ∧ Chg (WS Z b off n) w w' ∧ Bmp w' b off n (paste β (8 * j + rd) 8 V) ∧ ∃ X, WW w' Z b off rd (j + 1) (L - 1) (C - 1) (2 ^ rd - 1) len X ∧ Lo8 (paste β (8 * j + rd) 8 V) (8 * (j + 1)) X := by
  obtain ⟨M, hM⟩ : ∃ M, M = 2 ^ rd - 1 := ⟨_, rfl⟩
  have hM8 : M < 256 := by rw [hM]; exact ones_lt 8 rd (by omega)
  rw [← hM] at h
  have c0 := h.sl
  have c1 := h.of
  have c3 := h.ma
  have c4 := h.cu
  have f0 := h.fr 0 (by omega)
  have f4 := h.fr 4 (by omega)
  have hcap : ¬ C = 1 := by omega
  have hrd0 : ¬ (rd : Int) = 0 := by omega
  have hrt : ((rd : Nat) : Int).toNat = rd := by omega
  have hs3 : ((8 : Int) - rd).toNat = 8 - rd := by omega
  have hs4 : IntKind.i64.wrap ((8 : Int) - rd) = 8 - rd := IntWalk.i64_in _ (by omega)
  have hs5 : (0 : Int) ≤ 8 - rd := by omega
  have hs6 : (8 : Int) - rd ≤ 8 := by omega
  have hr0 : (0 : Int) ≤ rd := by omega
  have hr8 : (rd : Int) ≤ 8 := by omega
  have hs1 := shlw8_is V rd
  have hs2 : (V : Int) / 2 ^ (8 - rd) = (V / 2 ^ (8 - rd) : Nat) := by norm_cast
  have hwM : IntKind.u8.wrap (M : Int) = M := IntWalk.u8_in _ (by omega)
  have hR : rotw 8 V rd < 256 := rotw_lt 8 V rd hV
  have hsor : bits .or .u8 ((shlw 8 V rd : Nat) : Int) ((V / 2 ^ (8 - rd) : Nat) : Int) = (rotw 8 V rd : Nat) := u8_or_nat _ _ (shlw_lt 8 V rd) (Nat.lt_of_le_of_lt (Nat.div_le_self _ _) hV)
  obtain ⟨R, hRe⟩ : ∃ R, R = rotw 8 V rd := ⟨_, rfl⟩
  obtain ⟨A, hAe⟩ : ∃ A, A = shlw 8 V rd := ⟨_, rfl⟩
  obtain ⟨B, hBe⟩ : ∃ B, B = V / 2 ^ (8 - rd) := ⟨_, rfl⟩
  rw [← hRe] at hR
  rw [← hRe, ← hAe, ← hBe] at hsor
  rw [← hAe] at hs1
  rw [← hBe] at hs2
  obtain ⟨cb, hcb⟩ : ∃ cb, cb = cur % 256 := ⟨_, rfl⟩
  have hcb8 : cb < 256 := by omega
  have hcbt : ∀ t, t < 8 → cb.testBit t = β (8 * j + t) := fun t ht => by rw [hcb, mod_tb _ _ ht]; exact hcur.lo t ht
  have hcall := fun W => getLSB_ok cur W
  rw [← hcb] at hcall
  obtain ⟨x0, hx0, -⟩ := hB.cell j (by omega)
  have hfx0 := hB.fr j (by omega)
  obtain ⟨x, hx, hx8, hxt⟩ := hB.cell (j + 1) (by omega)
  have hfx := hB.fr (j + 1) (by omega)
  have d1 := u8_and_nat cb M hcb8 hM8
  have d2 := u8_andNot_nat R M hR hM8
  have d3 := u8_or_nat (cb &&& M) (R &&& (255 - M)) (and_lt _ _ hcb8) (and_lt _ _ hR)
  have d4 := u8_and_nat R M hR hM8
  have d5 := u8_andNot_nat x M hx8 hM8
  have d6 := u8_or_nat (x &&& (255 - M)) (R &&& M) (and_lt _ _ hx8) (and_lt _ _ hR)
  have hd3 : (cb &&& M) ||| (R &&& (255 - M)) = mixw 8 cb R M := rfl
  have hd6 : (x &&& (255 - M)) ||| (R &&& M) = mixw 8 R x M := Nat.or_comm _ _
  rw [hd3] at d3
  rw [hd6] at d6
  obtain ⟨D1, hD1⟩ : ∃ D1, D1 = cb &&& M := ⟨_, rfl⟩
  obtain ⟨D2, hD2⟩ : ∃ D2, D2 = R &&& (255 - M) := ⟨_, rfl⟩
  obtain ⟨D3, hD3⟩ : ∃ D3, D3 = mixw 8 cb R M := ⟨_, rfl⟩
  obtain ⟨D4, hD4⟩ : ∃ D4, D4 = R &&& M := ⟨_, rfl⟩
  obtain ⟨D5, hD5⟩ : ∃ D5, D5 = x &&& (255 - M) := ⟨_, rfl⟩
  obtain ⟨D6, hD6⟩ : ∃ D6, D6 = mixw 8 R x M := ⟨_, rfl⟩
  rw [← hD1] at d1 d3
  rw [← hD2] at d2 d3
  rw [← hD3] at d3
  rw [← hD4] at d4 d6
  rw [← hD5] at d5 d6
  rw [← hD6] at d6
  have hD3l : D3 < 256 := by rw [hD3]; exact mixw_lt 8 cb R M hcb8 hR
  have hD6l : D6 < 256 := by rw [hD6]; exact mixw_lt 8 R x M hR hx8
  have hwD : IntKind.u64.wrap (D6 : Int) = D6 := IntWalk.u64_in _ (by omega)
  have hp := (hB.byte j D3 hD3l).byte (j + 1) D6 hD6l
  rw [byt_paste, byt_paste, hD3, hD6, hRe, hM, show 8 * (j + 1) = 8 * j + 8 by omega, paste_two 8 (8 * j) rd cb x V β (by omega) hV hcbt (fun t ht => by have := hxt t ht; rwa [show 8 * (j + 1) + t = 8 * j + 8 + t by omega] at this), ← hM, ← hRe, ← hD3, ← hD6] at hp
  have hpn := fun t ht => paste_next 8 (8 * j) rd cb x V β (by omega) hV hcbt (fun t ht => by have := hxt t ht; rwa [show 8 * (j + 1) + t = 8 * j + 8 + t by omega] at this) t ht
  rw [← hM, ← hRe, ← hD6] at hpn
  rw [show off + (j + 1) = off + j + 1 by omega] at hp hx hfx
  have hrow : Chg (RowS b off n) w ((w.setCell ⟨b, off + j, none⟩ (.int .u8 D3)).setCell ⟨b, off + j + 1, none⟩ (.int .u8 D6)) := ((Chg.refl _ _).setCell _ _ (fun _ => ⟨rfl, by omega, by omega⟩) _).setCell _ _ (fun _ => ⟨rfl, by omega, by omega⟩) _
  have hW2 := ((h.keep hrow (fun y hh => hZ hh.1)).cur' D6).sl' (j + 1) (L - 1) (C - 1)
  rw [show off + (j + 1) = off + j + 1 by omega] at hW2
  have hc2 : Chg (WS Z b off n) w _ := ((hrow.mono (fun _ _ _ hh => .inr hh)).setCell Z 4 (fun _ => .inl rfl) (.int .u64 D6)).setCell Z 0 (fun _ => .inl rfl) (.slice (some ⟨b, off + j + 1, none⟩) (L - 1) (C - 1))
  have hB2 := hp.keep (((Chg.refl (Own Z) _).own 4 (.int .u64 D6)).own 0 (.slice (some ⟨b, off + j + 1, none⟩) (L - 1) (C - 1))) (fun _ _ hh => hZ hh.symm)
  have Hcall := Lib.hid hcall
  have HW2 := Lib.hid hW2
  have Hc2 := Lib.hid hc2
  have HB2 := Lib.hid hB2
  have Hpn := Lib.hid hpn
  have HM := Lib.hid hM
  have HD6l := Lib.hid hD6l
  have hL1 : 1 < L := by omega
  have hL0 : 0 < L := by omega
  clear hB h hcur hM hRe hAe hBe hcb hcbt hcall hxt hD1 hD2 hD3 hD4 hD5 hD6 hd3 hd6 hp hpn hrow hW2 hc2 hB2 hD3l hD6l
  go_enter Tryz.func65, Tryz.ntmps65
  go_wp2_with fail
  refine (Hcall.out _).mono ?_
  rintro e w1 ⟨rfl, rfl⟩
  go_wp2_with fail
  (refine wp_region_txt [] (by kernel_rfl) (by kernel_rfl) ?_; repeat (first | (refine wpTxt_pure rfl rfl (fun K hK => ?_); go_simp; refine hK _ ?_; clear hK K) | (refine wpTxt_still rfl rfl (fun K hK => ?_); go_simp; refine hK _ ?_; clear hK K)))
  refine wpTxt_nil ?_
  go_wp2_with fail
  (refine wp_region_txt [] (by kernel_rfl) (by kernel_rfl) ?_; repeat (first | (refine wpTxt_pure rfl rfl (fun K hK => ?_); go_simp; refine hK _ ?_; clear hK K) | (refine wpTxt_still rfl rfl (fun K hK => ?_); go_simp; refine hK _ ?_; clear hK K)))
  refine wpTxt_nil ?_
  go_wp2_with fail
  (refine wp_region_txt [] (by kernel_rfl) (by kernel_rfl) ?_; repeat (first | (refine wpTxt_pure rfl rfl (fun K hK => ?_); go_simp; refine hK _ ?_; clear hK K) | (refine wpTxt_still rfl rfl (fun K hK => ?_); go_simp; refine hK _ ?_; clear hK K)))
  refine wpTxt_nil ?_
  go_wp2_with fail
  go_end0
  rw [← HM.out]
  exact ⟨rfl, Hc2.out.drew.drew.drew, HB2.out.drew.drew.drew, D6, HW2.out.drew.drew.drew, Nat.lt_trans HD6l.out (by decide), fun t ht => by rw [Hpn.out t ht]; congr 1⟩
end Go.Proofs.YtflgbndhahcdnaaGreatDoor
/- The reader of a bitmap by words: its last byte. -/
namespace Go.Proofs.YtflgbndhahcdnaaGreatDoor
open Go Go.RowKit
/-- i bits have come in from above. -/
structure Inc (σ : Nat → Bool) (p i v : Nat) : Prop where
  lt : v < 256
  tb : ∀ t, t < 8 → v.testBit t = (decide (8 - i ≤ t) && σ (p + (t - (8 - i))))
theorem tb_half (v t : Nat) : (v / 2).testBit t = v.testBit (t + 1) := by
  have := Nat.testBit_div_two_pow (n := 1) v t
  simpa using this
theorem tb_hi (v t : Nat) (hv : v < 256) (ht : 8 ≤ t) : v.testBit t = false := Nat.testBit_lt_two_pow (Nat.lt_of_lt_of_le hv (Nat.pow_le_pow_right (n := 2) (by decide) ht))
theorem Inc.half {σ : Nat → Bool} {p i v : Nat} (h : Inc σ p i v) (hi : i < 8) (hs : σ (p + i) = false) : Inc σ p (i + 1) (v / 2) := by
  refine ⟨by have := h.lt; omega, fun t ht => ?_⟩
  rw [tb_half]
  by_cases h7 : t = 7
  · subst h7
    rw [tb_hi v _ h.lt (by omega), show 7 - (8 - (i + 1)) = i by omega, hs, Bool.and_false]
  · rw [h.tb (t + 1) (by omega), show t + 1 - (8 - i) = t - (8 - (i + 1)) by omega]
    congr 1
    rw [decide_eq_decide]; omega
theorem tb_128 (t : Nat) : (128 : Nat).testBit t = decide (7 = t) := tb_pow 7 t
theorem Inc.half1 {σ : Nat → Bool} {p i v : Nat} (h : Inc σ p i v) (hi : i < 8) (hs : σ (p + i) = true) : Inc σ p (i + 1) (v / 2 ||| 128) := by
  refine ⟨or_lt _ _ (by have := h.lt; omega) (by decide), fun t ht => ?_⟩
  rw [Nat.testBit_or, tb_128, tb_half]
  by_cases h7 : t = 7
  · subst h7
    rw [show 7 - (8 - (i + 1)) = i by omega, hs, Bool.and_true]
    simp
  · rw [h.tb (t + 1) (by omega), show t + 1 - (8 - i) = t - (8 - (i + 1)) by omega, (show decide (7 = t) = false from decide_eq_false (fun e => h7 e.symm)), Bool.or_false]
    congr 1
    rw [decide_eq_decide]; omega
theorem Inc.fin {σ : Nat → Bool} {p m v : Nat} (h : Inc σ p m v) (hm : m ≤ 8) : Byt σ p m (v / 2 ^ (8 - m)) := by
  refine ⟨Nat.lt_of_le_of_lt (Nat.div_le_self _ _) h.lt, fun t ht => ?_⟩
  rw [Nat.testBit_div_two_pow]
  by_cases htm : t < m
  · rw [h.tb _ (by omega), decide_eq_true (by omega), decide_eq_true htm]
    congr 2; omega
  · rw [tb_hi v _ h.lt (by omega), decide_eq_false htm, Bool.false_and]
set_option maxRecDepth 100000 in
set_option maxHeartbeats 1000000 in
theorem lastTrail_ok (A sb so n rs j L C nw tb ty cur : Nat) (σ : Nat → Bool) (w : World) (hB : Bmp w sb so n σ) (h : WR w A sb so rs j L C nw tb ty cur) (hA : A ≠ sb) (hr : rs < 8) (htb1 : 1 ≤ tb) (htb : tb ≤ 8) (hL : rs + tb ≤ 8 * L) (hL2 : L ≤ 1000000000) (hn : j + L ≤ n) :
    Calls Tryz.prog 64 #[.pointer (some ⟨A, 0, none⟩)] w fun e w' => ∃ v : Nat, e = .returned (.tuple #[.int .u8 v, .int .i64 tb]) ∧ Byt σ (8 * j + rs) tb v ∧ Chg (Own A) w w' ∧ WR w' A sb so rs j L C nw 0 ty cur := by
  have c0 := h.sl
  have c1 := h.of
  have c3 := h.tb
  have f3 := h.fr 3 (by omega)
  have hW1 := h.tb' 0
  have hc1 := (Chg.refl (Own A) w).own 3 (.int .i64 (0 : Nat))
  have hB1 := hB.keep hc1 (fun _ _ hh => hA hh.symm)
  have hAl := h.lt
  have hsl : sb < w.heap.size := by obtain ⟨x, hx, -⟩ := hB.cell j (by omega); exact World.block_lt_of_cell? w _ hx
  have hz : (w.setCell ⟨A, 3, none⟩ (.int .i64 (0 : Nat))).heap.size = w.heap.size := by simp
  have HW1 := Lib.hid hW1
  have Hc1 := Lib.hid hc1
  have HB1 := Lib.hid hB1
  have Hz := Lib.hid hz
  have htb' : (tb : Int) ≤ 8 := by omega
  clear hB h hW1 hc1 hB1 hz
  go_enter Tryz.func64, Tryz.ntmps64
  go_wp2_with fail
  refine (assert_ok _ _ _).mono ?_
  rintro e w1 ⟨rfl, rfl⟩
  go_wp2_with fail
  rw [show ((0 : Nat) : Int) = 0 from rfl] at HW1 Hc1 HB1 Hz
  generalize w.setCell ⟨A, 3, none⟩ (.int .i64 0) = w2 at HW1 Hc1 HB1 Hz ⊢
  clear c0 c1 c3 f3
  have c0 := HW1.out.sl
  have c1 := HW1.out.of
  (refine wp_region_txt [] (by kernel_rfl) (by kernel_rfl) ?_; repeat (first | (refine wpTxt_pure rfl rfl (fun K hK => ?_); go_simp; refine hK _ ?_; clear hK K) | (refine wpTxt_still rfl rfl (fun K hK => ?_); go_simp; refine hK _ ?_; clear hK K)))
  refine wpTxt_effect rfl rfl (fun K hK => ?_); go_simp
  refine (newBRd_ok sb so n rs j tb L C σ _ (by exact HB1.out.drew) hr htb1 htb (by omega) hn).mono ?_
  rintro e w3 ⟨rfl, h3, hl3, hR3⟩
  have h3' := h3.undrew
  obtain ⟨K0, hK0⟩ : ∃ K0, K0 = w2.heap.size := ⟨_, rfl⟩
  have hR3' : BRd w3 K0 sb so n rs j tb 0 L C σ := by rw [hK0]; exact hR3
  have hKs : K0 ≠ sb := by rw [hK0, Hz.out]; omega
  have hKA : K0 ≠ A := by rw [hK0, Hz.out]; omega
  have HR3 := Lib.hid hR3'
  have H3 := Lib.hid h3'
  have HW3 := Lib.hid (HW1.out.keep h3' (fun _ h => h))
  have HB3 := Lib.hid (HB1.out.keep h3' (fun _ _ h => h))
  have hlt2 : w2.heap.size = w.heap.size := Hz.out
  have hK2 : Hid (K0 = w2.heap.size) := Lib.hid hK0
  rw [show (⟨w2.drew.heap.size, 0, none⟩ : Addr) = ⟨K0, 0, none⟩ by rw [hK0]; rfl]
  clear h3 h3' hR3 hR3' hl3 c0 c1 hK0 hlt2
  (refine hK _ _ ?_; clear hK K)
  repeat (first | (refine wpTxt_pure rfl rfl (fun K hK => ?_); go_simp; refine hK _ ?_; clear hK K) | (refine wpTxt_still rfl rfl (fun K hK => ?_); go_simp; refine hK _ ?_; clear hK K))
  refine wpTxt_nil ?_
  go_wp2_with fail
  go_loopw [2, 5] (fun v i wx => ∃ y k : Nat, k ≤ tb ∧ i = .int .i64 k ∧ v = .int .u8 y ∧ Inc σ (8 * j + rs) k y ∧ BRd wx K0 sb so n rs j tb k L C σ ∧ Chg (Own K0) w3 wx) (fun _ i _ => tb - (intOf i).toNat)
  case atStart => exact ⟨0, 0, Nat.zero_le _, rfl, rfl, ⟨by decide, fun t ht => by rw [Nat.zero_testBit, decide_eq_false (by omega), Bool.false_and]⟩, HR3.out, Chg.refl _ _⟩
  case round =>
    obtain ⟨y, k, hk, rfl, rfl, hI, hR, hc⟩ := hrel
    by_cases hlt : k < tb
    · have hB4 := HB3.out.keep hc (fun _ _ hh => hKs hh.symm)
      have hset := bRdSet_ok K0 sb so n rs j tb k L C σ wr hR hlt
      have hnext := fun W hW hb => bRdNext_ok K0 sb so n rs j tb k L C σ W hb hW hKs hlt htb hr hL hn hL2
      have Hset := Lib.hid hset
      have Hnext := Lib.hid hnext
      have HI := Lib.hid hI
      have HR := Lib.hid hR
      have Hc := Lib.hid hc
      have HB4 := Lib.hid hB4
      have hy8 := HI.out.lt
      have hor := u8_or_nat (y / 2) 128 (by omega) (by decide)
      have e2 : (y : Int) / 2 = (y / 2 : Nat) := by omega
      obtain ⟨y2, hy2⟩ : ∃ y2, y2 = y / 2 := ⟨_, rfl⟩
      rw [← hy2] at hor e2
      have hor' : bits .or .u8 (y2 : Int) 128 = ((y2 ||| 128 : Nat) : Int) := hor
      have Hy2 := Lib.hid hy2
      clear hI hR hc hB4 hset hnext hy2 hor
      go_wp2_with fail
      refine Hset.out.mono ?_
      rintro e w4 ⟨rfl, h4⟩
      have hR4 := HR.out.keep h4 (fun _ h => h)
      have hB5 := HB4.out.keep h4 (fun _ _ h => h)
      have hN := Hnext.out w4 hR4 hB5
      have HN := Lib.hid hN
      have H4 := Lib.hid h4
      clear h4 hR4 hB5 hN
      cases hσ : σ (8 * j + rs + k)
      all_goals
        go_wp2_with fail
        refine HN.out.mono ?_
        rintro e w5 ⟨rfl, h5, hR5⟩
        have HR5 := Lib.hid hR5
        have Hc5 := Lib.hid ((Hc.out.trans (H4.out.mono (fun _ _ _ h => h.elim))).trans h5)
        clear h5 hR5
        go_wp2_with fail
        go_roundw
        case rel =>
          first
          | exact ⟨y2, k + 1, by omega, rfl, rfl, by rw [Hy2.out]; exact HI.out.half (by omega) hσ, HR5.out, Hc5.out⟩
          | exact ⟨y2 ||| 128, k + 1, by omega, rfl, rfl, by rw [Hy2.out]; exact HI.out.half1 (by omega) hσ, HR5.out, Hc5.out⟩
        case measure => simp [intOf]; omega
    · obtain rfl : k = tb := by omega
      have hF := hI.fin htb
      have hs : (y : Int) / 2 ^ (8 - k) = (y / 2 ^ (8 - k) : Nat) := by norm_cast
      have hkt : ((8 : Int) - k).toNat = 8 - k := by omega
      have HW5 := Lib.hid (HW3.out.keep hc (fun x hh => hKA hh.symm))
      have Hc5 : Hid (Chg (Own A) w wr) := Lib.hid ((Hc1.out.trans (H3.out.mono (fun _ _ _ h => h.elim))).comp hc (fun _ _ _ h => h) (fun a x ha hh => by have := hK2.out; have := Hz.out; have := hh; unfold Own at *; omega))
      have k0 : 0 ≤ (8 : Int) - k := by omega
      have k8 : (8 : Int) - k ≤ 8 := by omega
      have HF := Lib.hid hF
      obtain ⟨Y, hY⟩ : ∃ Y, Y = y / 2 ^ (8 - k) := ⟨_, rfl⟩
      rw [← hY] at hs
      have HY := Lib.hid hY
      clear hI hR hc hF hY HR3 H3 HB3 HB1
      go_wp2_with fail
      go_ret2
      exact ⟨Y, rfl, by rw [HY.out]; exact HF.out, Hc5.out, HW5.out⟩
end Go.Proofs.YtflgbndhahcdnaaGreatDoor
