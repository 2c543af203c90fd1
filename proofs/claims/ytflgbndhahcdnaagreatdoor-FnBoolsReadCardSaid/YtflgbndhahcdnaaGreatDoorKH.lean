/- Part 8 of the proof: the texts BT, OB, OC, Q0, joined. What each proves stands ahead of it. -/
import Derived.Test.YtflgbndhahcdnaaGreatDoorKG
import Derived.Test.YtflgbndhahcdnaaGreatDoorKC
set_option linter.unusedVariables false
set_option linter.unusedSimpArgs false
/- The reader of a bitmap by bits. -/
namespace Go.Proofs.YtflgbndhahcdnaaGreatDoor
open Go Go.RowKit
/-- A reader of bits of a bitmap, behind i of m bits; the first one lies at bit rs of byte j. -/
structure BRd (w : World) (A sb so n rs j m i L C : Nat) (σ : Nat → Bool) : Prop where
  sl : w.cell? ⟨A, 0, none⟩ = some (.slice (some ⟨sb, so + j, none⟩) L C)
  po : w.cell? ⟨A, 1, none⟩ = some (.int .i64 i)
  le : w.cell? ⟨A, 2, none⟩ = some (.int .i64 m)
  cu : ∃ x : Nat, w.cell? ⟨A, 3, none⟩ = some (.int .u8 x) ∧ x < 256 ∧ (i < m → ∀ t, t < 8 → x.testBit t = σ (8 * (j + (rs + i) / 8) + t))
  by' : w.cell? ⟨A, 4, none⟩ = some (.int .i64 ((rs + i) / 8 : Nat))
  bi : w.cell? ⟨A, 5, none⟩ = some (.int .i64 ((rs + i) % 8 : Nat))
  fr : ∀ k, k < 6 → w.frozen? ⟨A, k, none⟩ = false
set_option maxRecDepth 100000 in
set_option maxHeartbeats 1000000 in
theorem newBRd_ok (sb so n rs j m L C : Nat) (σ : Nat → Bool) (w : World) (hB : Bmp w sb so n σ) (hr : rs < 8) (hm : 1 ≤ m) (hm2 : m ≤ 8) (hL : 1 ≤ L) (hn : j + L ≤ n) :
    Calls Tryz.prog 76 #[.slice (some ⟨sb, so + j, none⟩) L C, .int .i64 rs, .int .i64 m] w fun e w' => e = .returned (.pointer (some ⟨w.heap.size, 0, none⟩)) ∧ Chg Nix w w' ∧ w.heap.size < w'.heap.size ∧ BRd w' w.heap.size sb so n rs j m 0 L C σ := by
  obtain ⟨x, hx, hx8, hxt⟩ := hB.cell j (by omega)
  have e1 : (rs : Int) / 8 = 0 := by omega
  have e2 : (rs : Int) % 8 = rs := by omega
  have hm0 : (0 : Int) < m := by omega
  have hL0 : 0 < L := by omega
  have Hxt := Lib.hid hxt
  clear hB hxt
  go_enter Tryz.func76, Tryz.ntmps76
  go_wp2_with fail
  go_ret
  refine ⟨rfl, Chg.new _ _, by simp, ⟨by simp, by simp, by simp, ⟨x, by simp, hx8, fun _ t ht => ?_⟩, ?_, ?_, fun k _ => by simp⟩⟩
  · rw [Hxt.out t ht, show (rs + 0) / 8 = 0 by omega, Nat.add_zero]
  · rw [show (rs + 0) / 8 = 0 by omega]; simp
  · rw [show (rs + 0) % 8 = rs by omega]; simp
theorem shl1 : ∀ t : Fin 8, IntKind.u8.wrap (1 * 2 ^ t.val) = (2 ^ t.val : Nat) := by decide
theorem BRd.keep {w w' : World} {A sb so n rs j m i L C : Nat} {σ : Nat → Bool} (h : BRd w A sb so n rs j m i L C σ) {S : Nat → Nat → Prop} (hc : Chg S w w') (hS : ∀ x, ¬ S A x) : BRd w' A sb so n rs j m i L C σ :=
  ⟨hc.keep h.sl (hS _), hc.keep h.po (hS _), hc.keep h.le (hS _), let ⟨x, h1, h2⟩ := h.cu; ⟨x, hc.keep h1 (hS _), h2⟩, hc.keep h.by' (hS _), hc.keep h.bi (hS _), fun k hk => (hc.frozen _ _ (World.block_lt_of_cell? w _ h.sl)).trans (h.fr k hk)⟩
theorem BRd.drew {w : World} {A sb so n rs j m i L C : Nat} {σ : Nat → Bool} (h : BRd w A sb so n rs j m i L C σ) : BRd w.drew A sb so n rs j m i L C σ := h.keep (Chg.drew (Chg.refl Nix w)) (fun _ h => h)
set_option maxRecDepth 100000 in
set_option maxHeartbeats 1000000 in
theorem bRdSet_ok (A sb so n rs j m i L C : Nat) (σ : Nat → Bool) (w : World) (h : BRd w A sb so n rs j m i L C σ) (hi : i < m) :
    Calls Tryz.prog 77 #[.pointer (some ⟨A, 0, none⟩)] w fun e w' => e = .returned (.bool (σ (8 * j + rs + i))) ∧ Chg Nix w w' := by
  obtain ⟨x, c3, hx8, hxt⟩ := h.cu
  have c5 := h.bi
  obtain ⟨r, hr⟩ : ∃ r, r = (rs + i) % 8 := ⟨_, rfl⟩
  rw [← hr] at c5
  have hr8 : r < 8 := by omega
  have hne := and_pow_ne x r
  rw [hxt hi r hr8, show 8 * (j + (rs + i) / 8) + r = 8 * j + rs + i by omega] at hne
  have hs : IntKind.u8.wrap (2 ^ r) = (2 ^ r : Nat) := by have := shl1 ⟨r, hr8⟩; rwa [Int.one_mul] at this
  have hp := pow8 r hr8
  have hand := u8_and_nat x (2 ^ r) hx8 (by omega)
  obtain ⟨P, hP⟩ : ∃ P, P = 2 ^ r := ⟨_, rfl⟩
  rw [← hP] at hne hand hs
  have r0 : 0 ≤ (r : Int) := by omega
  have r8 : (r : Int) ≤ 8 := by omega
  have hrt : ((r : Nat) : Int).toNat = r := by omega
  clear h hxt hr hP
  go_enter Tryz.func77, Tryz.ntmps77
  go_wp2_with fail
  (refine wp_region_txt [] (by kernel_rfl) (by kernel_rfl) ?_; repeat (first | (refine wpTxt_pure rfl rfl (fun K hK => ?_); go_simp; refine hK _ ?_; clear hK K) | (refine wpTxt_still rfl rfl (fun K hK => ?_); go_simp; refine hK _ ?_; clear hK K)))
  refine wpTxt_nil ?_
  go_wp2_with fail
  go_ret
  exact ⟨rfl, (Chg.refl _ _).drew⟩
set_option maxRecDepth 100000 in
set_option maxHeartbeats 1000000 in
theorem bRdNext_ok (A sb so n rs j m i L C : Nat) (σ : Nat → Bool) (w : World) (hB : Bmp w sb so n σ) (h : BRd w A sb so n rs j m i L C σ) (hA : A ≠ sb) (hi : i < m) (hm : m ≤ 8) (hr : rs < 8) (hL : rs + m ≤ 8 * L) (hn : j + L ≤ n) (hL2 : L ≤ 1000000000) :
    Calls Tryz.prog 78 #[.pointer (some ⟨A, 0, none⟩)] w fun e w' => e = .returned (.tuple #[]) ∧ Chg (Own A) w w' ∧ BRd w' A sb so n rs j m (i + 1) L C σ := by
  obtain ⟨x, c3, hx8, hxt⟩ := h.cu
  have c0 := h.sl
  have c1 := h.po
  have c2 := h.le
  have c4 := h.by'
  have c5 := h.bi
  have f1 := h.fr 1 (by omega)
  have f3 := h.fr 3 (by omega)
  have f4 := h.fr 4 (by omega)
  have f5 := h.fr 5 (by omega)
  have Hf := Lib.hid h.fr
  obtain ⟨r, hrr⟩ : ∃ r, r = (rs + i) % 8 := ⟨_, rfl⟩
  obtain ⟨q, hq⟩ : ∃ q, q = (rs + i) / 8 := ⟨_, rfl⟩
  rw [← hrr] at c5
  rw [← hq] at c4 hxt
  have Hxt := Lib.hid hxt
  have Hr := Lib.hid hrr
  have Hq := Lib.hid hq
  have HB := Lib.hid hB
  have hi8 : i ≤ 8 := by omega
  have hr8 : r < 8 := by omega
  have hq8 : q ≤ 2 := by omega
  clear h hxt hrr hq hB
  by_cases h7 : r = 7
  · subst h7
    by_cases hlast : i + 1 < m
    · have hlast' : (i : Int) + 1 < m := by omega
      have hqL : q + 1 < L := by have := Hr.out; have := Hq.out; omega
      have hqt : ((q : Int) + 1).toNat = q + 1 := by omega
      have hqL' : (q : Int) + 1 < L := by omega
      have hq0 : 0 ≤ (q : Int) + 1 := by omega
      obtain ⟨y, hy, hy8, hyt⟩ := HB.out.cell (j + (q + 1)) (by omega)
      rw [show so + (j + (q + 1)) = so + j + (q + 1) by omega] at hy
      have Hyt := Lib.hid hyt; clear hyt
      have Hy8 := Lib.hid hy8; clear hy8
      go_enter Tryz.func78, Tryz.ntmps78
      go_wp2_with fail
      (refine wp_region_txt [] (by kernel_rfl) (by kernel_rfl) ?_; repeat (first | (refine wpTxt_pure rfl rfl (fun K hK => ?_); go_simp; refine hK _ ?_; clear hK K) | (refine wpTxt_still rfl rfl (fun K hK => ?_); go_simp; refine hK _ ?_; clear hK K)))
      refine wpTxt_nil ?_
      go_wp2_with fail
      (refine wp_region_txt [] (by kernel_rfl) (by kernel_rfl) ?_; repeat (first | (refine wpTxt_pure rfl rfl (fun K hK => ?_); go_simp; refine hK _ ?_; clear hK K) | (refine wpTxt_still rfl rfl (fun K hK => ?_); go_simp; refine hK _ ?_; clear hK K)))
      (refine wpTxt_effect rfl rfl (fun K hK => ?_); go_simp; refine hK _ _ ?_; clear hK K)
      refine wpTxt_nil ?_
      go_wp2_with fail
      go_end0
      refine ⟨rfl, (((((Chg.refl _ _).own 5 _).own 1 _).own 5 _).own 4 _ |>.own 3 _).drew.drew, BRd.drew (BRd.drew ⟨by go_cell, ?_, by go_cell, ⟨y, by go_cell, Hy8.out, fun hh t ht => ?_⟩, ?_, ?_, fun k hk => by simp only [World.frozen?_setCell]; exact Hf.out k hk⟩)⟩
      · show _ = some (Value.int .i64 ((i : Int) + 1)); go_cell
      · rw [show (rs + (i + 1)) / 8 = q + 1 by have := Hr.out; have := Hq.out; omega]; exact Hyt.out t ht
      · rw [show (rs + (i + 1)) / 8 = q + 1 by have := Hr.out; have := Hq.out; omega]; show _ = some (Value.int .i64 ((q : Int) + 1)); go_cell
      · rw [show (rs + (i + 1)) % 8 = 0 by have := Hr.out; have := Hq.out; omega]; show _ = some (Value.int .i64 0); go_cell
    · have hlast' : ¬ (i : Int) + 1 < m := by omega
      go_enter Tryz.func78, Tryz.ntmps78
      go_wp2_with fail
      (refine wp_region_txt [] (by kernel_rfl) (by kernel_rfl) ?_; repeat (first | (refine wpTxt_pure rfl rfl (fun K hK => ?_); go_simp; refine hK _ ?_; clear hK K) | (refine wpTxt_still rfl rfl (fun K hK => ?_); go_simp; refine hK _ ?_; clear hK K)))
      refine wpTxt_nil ?_
      go_wp2_with fail
      go_end0
      refine ⟨rfl, ((((Chg.refl _ _).own 5 _).own 1 _).own 5 _).own 4 _ |>.drew, BRd.drew ⟨by go_cell, ?_, by go_cell, ⟨x, by go_cell, hx8, fun hh => by omega⟩, ?_, ?_, fun k hk => by simp only [World.frozen?_setCell]; exact Hf.out k hk⟩⟩
      · show _ = some (Value.int .i64 ((i : Int) + 1)); go_cell
      · rw [show (rs + (i + 1)) / 8 = q + 1 by have := Hr.out; have := Hq.out; omega]; show _ = some (Value.int .i64 ((q : Int) + 1)); go_cell
      · rw [show (rs + (i + 1)) % 8 = 0 by have := Hr.out; have := Hq.out; omega]; show _ = some (Value.int .i64 0); go_cell
  · have h7' : ¬ (r : Int) + 1 = 8 := by omega
    go_enter Tryz.func78, Tryz.ntmps78
    go_wp2_with fail
    go_end0
    refine ⟨rfl, ((Chg.refl _ _).own 5 _).own 1 _, ⟨by go_cell, ?_, by go_cell, ⟨x, by go_cell, hx8, fun hh t ht => ?_⟩, ?_, ?_, fun k hk => by simp only [World.frozen?_setCell]; exact Hf.out k hk⟩⟩
    · show _ = some (Value.int .i64 ((i : Int) + 1)); go_cell
    · rw [show (rs + (i + 1)) / 8 = q by have := Hr.out; have := Hq.out; omega]; exact Hxt.out (by omega) t ht
    · rw [show (rs + (i + 1)) / 8 = q by have := Hr.out; have := Hq.out; omega]; go_cell
    · rw [show (rs + (i + 1)) % 8 = r + 1 by have := Hr.out; have := Hq.out; omega]; show _ = some (Value.int .i64 ((r : Int) + 1)); go_cell
end Go.Proofs.YtflgbndhahcdnaaGreatDoor
/- The plain decoder of bools: the bits of a byte one by one; whole bytes; Decode. -/
namespace Go.Proofs.YtflgbndhahcdnaaGreatDoor
open Go Go.RowKit
/-- What Decode's inner function captured. -/
structure Cap (w : World) (X M O d ob m cap : Nat) : Prop where
  cx : w.cell? ⟨X, 0, none⟩ = some (.pointer (some ⟨d, 0, none⟩))
  cm : w.cell? ⟨M, 0, none⟩ = some (.int .i64 m)
  co : w.cell? ⟨O, 0, none⟩ = some (.slice (some ⟨ob, 0, none⟩) m cap)
  oc : ∀ j, j < m → ∃ u, w.cell? ⟨ob, j, none⟩ = some u
  of : ∀ j, j < m → w.frozen? ⟨ob, j, none⟩ = false
  xd : X ≠ d
  md : M ≠ d
  od : O ≠ d
  xo : X ≠ ob
  mo : M ≠ ob
  oo : O ≠ ob
  dob : d ≠ ob
/-- A round of the inner loop. -/
structure Ext (d ob i p : Nat) (β : Nat → Bool) (w wx : World) (t : Nat) : Prop where
  bo : wx.cell? ⟨d, 3, none⟩ = some (.int .i64 (p % 8 + t : Nat))
  out : ∀ j, j < t → wx.cell? ⟨ob, i + j, none⟩ = some (.bool (β (p + j)))
  chg : Chg (fun k x => (k = d ∧ x = 3) ∨ (k = ob ∧ i ≤ x ∧ x < i + t)) w wx
set_option maxRecDepth 100000 in
set_option maxHeartbeats 1000000 in
theorem extract_ok (X M O d b ob p N V L m cap i : Nat) (β : Nat → Bool) (w : World) (h : PX w d b p N V L β) (hC : Cap w X M O d ob m cap) (hi : i ≤ m) (hN : m - i ≤ N) (hm : m ≤ 1000000) (hbo : b ≠ ob) :
    Calls Tryz.prog 39 #[.int .i64 i, .pointer (some ⟨X, 0, none⟩), .pointer (some ⟨M, 0, none⟩), .pointer (some ⟨O, 0, none⟩)] w fun e w' =>
      ∃ k, k = min (m - i) (8 - p % 8) ∧ e = .returned (.int .i64 (i + k : Nat)) ∧ (∀ j, j < k → w'.cell? ⟨ob, i + j, none⟩ = some (.bool (β (p + j)))) ∧ Chg (fun a x => a = d ∨ (a = ob ∧ i ≤ x ∧ x < i + k)) w w' ∧ PX w' d b (p + k) (N - k) V L β := by
  have H := Lib.hid h
  have HC := Lib.hid hC
  have h0 : Ext d ob i p β w w 0 := ⟨h.bo, fun j hj => by omega, Chg.refl _ _⟩
  have H0 := Lib.hid h0
  clear h hC h0
  go_enter Tryz.func39, Tryz.ntmps39
  go_wp2_with fail
  go_loopw [0] (fun v wx => ∃ t, v = .int .i64 (i + t : Nat) ∧ i + t ≤ m ∧ p % 8 + t ≤ 8 ∧ Ext d ob i p β w wx t) (fun v _ => m - (intOf v).toNat)
  case atStart => exact ⟨0, rfl, hi, by omega, H0.out⟩
  case round =>
    obtain ⟨t, rfl, ht, ht8, hE⟩ := hrel
    have cX := hE.chg.keep HC.out.cx (by have := HC.out; rintro (⟨h, -⟩ | ⟨h, -⟩); exact this.xd h; exact this.xo h)
    have cM := hE.chg.keep HC.out.cm (by have := HC.out; rintro (⟨h, -⟩ | ⟨h, -⟩); exact this.md h; exact this.mo h)
    have cO := hE.chg.keep HC.out.co (by have := HC.out; rintro (⟨h, -⟩ | ⟨h, -⟩); exact this.od h; exact this.oo h)
    obtain ⟨r, hr⟩ : ∃ r, r = p % 8 + t := ⟨_, rfl⟩
    obtain ⟨ii, hii⟩ : ∃ ii, ii = i + t := ⟨_, rfl⟩
    have c3 := hE.bo
    rw [← hr] at c3
    rw [← hii] at ht ⊢
    have f3 := (hE.chg.frozen d 3 H.out.lt).trans (H.out.fr 3 (by omega))
    by_cases hg : r < 8 ∧ ii < m
    · obtain ⟨hr8, hi8⟩ := hg
      obtain ⟨x, hx, hx8, hxb⟩ := H.out.dt.cell (p / 8) (by have := H.out.room; omega)
      rw [Nat.zero_add] at hx
      have hx2 := hE.chg.keep hx (by have := H.out.ne; rintro (⟨h, -⟩ | ⟨h, -⟩); exact this h.symm; exact hbo h)
      obtain ⟨a, c, c1, hc, -, hca⟩ := H.out.da
      obtain rfl := hca (by have := H.out.room; omega)
      have c1' := hE.chg.keep c1 (by have := HC.out.dob; rintro (⟨-, h⟩ | ⟨h, -⟩); cases h; exact this h)
      obtain ⟨u, hu⟩ := HC.out.oc ii hi8
      have hu2 := hE.chg.keep hu (by have := HC.out.dob; rintro (⟨h, -⟩ | ⟨-, h1, h2⟩); exact this h.symm; omega)
      have hof := (hE.chg.frozen ob ii (World.block_lt_of_cell? _ _ hu)).trans (HC.out.of ii hi8)
      have hne := and_pow_ne x r
      rw [hxb r hr8, show 8 * (p / 8) + r = p + t by omega] at hne
      have hs : IntKind.u8.wrap (2 ^ r) = (2 ^ r : Nat) := by have := shl1 ⟨r, hr8⟩; rwa [Int.one_mul] at this
      have hp := pow8 r hr8
      have hand := u8_and_nat x (2 ^ r) hx8 (by omega)
      obtain ⟨P, hP⟩ : ∃ P, P = 2 ^ r := ⟨_, rfl⟩
      rw [← hP] at hne hand hs
      have r0 : 0 ≤ (r : Int) := by omega
      have r8 : (r : Int) ≤ 8 := by omega
      have r8' : (r : Int) < 8 := by omega
      have hrt : ((r : Nat) : Int).toNat = r := by omega
      have hit : ((ii : Nat) : Int).toNat = ii := by omega
      have hi0 : (0 : Int) ≤ ii := by omega
      have hi8' : (ii : Int) < m := by omega
      have hL0 : 0 < L - p / 8 := by have := H.out.room; omega
      have hiw : IntKind.i64.wrap ((ii : Int) + 1) = (ii + 1 : Nat) := by rw [IntWalk.i64_in _ (by omega)]; omega
      have hrw : IntKind.i64.wrap ((r : Int) + 1) = (r + 1 : Nat) := by rw [IntWalk.i64_in _ (by omega)]; omega
      have HE := Lib.hid hE
      have Hr := Lib.hid hr
      have Hii := Lib.hid hii
      clear hE hx hxb hP hca c1 hu hp hr hii
      go_wp2_with fail
      (refine wp_region_txt [] (by kernel_rfl) (by kernel_rfl) ?_; repeat (first | (refine wpTxt_pure rfl rfl (fun K hK => ?_); go_simp; refine hK _ ?_; clear hK K) | (refine wpTxt_still rfl rfl (fun K hK => ?_); go_simp; refine hK _ ?_; clear hK K)))
      (refine wpTxt_effect rfl rfl (fun K hK => ?_); go_simp; refine hK _ _ ?_; clear hK K)
      refine wpTxt_nil ?_
      go_wp2_with fail
      have hs2 : Chg (fun k y => k = ob ∧ y = ii) wr (wr.setCell ⟨ob, ii, none⟩ (.bool (β (p + t)))) := (Chg.refl _ _).setCell _ _ (fun _ => ⟨rfl, rfl⟩) _
      have hv2 := World.cell?_setCell_same wr ⟨ob, ii, none⟩ (.bool (β (p + t))) hu2
      generalize wr.setCell ⟨ob, ii, none⟩ (.bool (β (p + t))) = w2 at hs2 hv2 ⊢
      have dX := hs2.keep cX (by have := HC.out; rintro ⟨h, -⟩; exact this.xo h)
      have d3 := hs2.keep c3 (by have := HC.out; rintro ⟨h, -⟩; exact this.dob h)
      have g3 := (hs2.frozen d 3 (World.block_lt_of_cell? _ _ c3)).trans f3
      have Hs2 := Lib.hid hs2
      have Hv2 := Lib.hid hv2
      clear cX cM cO c3 f3 hx2 c1' hu2 hof hs hand hne hs2 hv2
      (refine wp_region_txt [] (by kernel_rfl) (by kernel_rfl) ?_; repeat (first | (refine wpTxt_pure rfl rfl (fun K hK => ?_); go_simp; refine hK _ ?_; clear hK K) | (refine wpTxt_still rfl rfl (fun K hK => ?_); go_simp; refine hK _ ?_; clear hK K)))
      (refine wpTxt_effect rfl rfl (fun K hK => ?_); go_simp; refine hK _ _ ?_; clear hK K)
      refine wpTxt_nil ?_
      go_wp2_with fail
      go_roundw
      case rel =>
        have hii := Hii.out
        have hrr := Hr.out
        have hc3 : Chg (fun k y => (k = d ∧ y = 3) ∨ (k = ob ∧ y = ii)) wr (w2.setCell ⟨d, 3, none⟩ (.int .i64 ((r : Int) + 1))).drew.drew := (((Hs2.out.mono (fun _ _ _ h => .inr h)).setCell d 3 (fun _ => .inl ⟨rfl, rfl⟩) _).drew).drew
        refine ⟨t + 1, by rw [show ((i + (t + 1) : Nat) : Int) = (ii : Int) + 1 by omega], by omega, by omega, ?_, fun j hj => ?_, (HE.out.chg.mono (fun k y _ h => ?_)).trans (hc3.mono (fun k y _ h => ?_))⟩
        · rw [show ((p % 8 + (t + 1) : Nat) : Int) = (r : Int) + 1 by omega]
          exact World.cell?_setCell_same w2 ⟨d, 3, none⟩ _ d3
        · by_cases hjt : j < t
          · exact hc3.keep (HE.out.out j hjt) (by rintro (⟨h, -⟩ | ⟨-, h⟩); exact HC.out.dob h.symm; omega)
          · obtain rfl : j = t := by omega
            rw [← hii]
            show (w2.setCell ⟨d, 3, none⟩ (.int .i64 ((r : Int) + 1))).cell? ⟨ob, ii, none⟩ = _
            rw [World.cell?_setCell_other _ _ _ _ (by intro e; injection e with e1 e2; exact HC.out.dob e1)]
            exact Hv2.out
        · rcases h with h | ⟨h, h1, h2⟩
          · exact .inl h
          · exact .inr ⟨h, h1, by omega⟩
        · rcases h with h | ⟨h, h1⟩
          · exact .inl h
          · exact .inr ⟨h, by omega, by omega⟩
      case measure => simp [intOf]; omega
    · have HE := Lib.hid hE
      have hch : ∀ k, k = t → Chg (fun a x => a = d ∨ (a = ob ∧ i ≤ x ∧ x < i + k)) w wr := fun k hk => hE.chg.mono (fun a x _ h => by
        subst hk
        rcases h with ⟨h, -⟩ | h
        · exact .inl h
        · exact .inr h)
      have Hch := Lib.hid hch
      have Hr := Lib.hid hr
      have Hii := Lib.hid hii
      by_cases hr8 : r < 8
      · have him : ii = m := by omega
        subst him
        have r8' : ¬ (r : Int) = 8 := by omega
        clear hE hch hr hii hg
        go_wp2_with fail
        go_ret
        have hii := Hii.out
        have hrr := Hr.out
        refine ⟨t, by omega, by subst hii; rfl, HE.out.out, Hch.out t rfl, ?_, ?_, ?_, fun j hj => (Hch.out t rfl).frozen d j H.out.lt |>.trans (H.out.fr j hj), H.out.dt.keep (Hch.out t rfl) (fun j hj => by rintro (h | ⟨h, -⟩); exact H.out.ne h.symm; exact hbo h), by have := H.out.room; omega, H.out.big, H.out.ne⟩
        · exact HE.out.chg.keep H.out.nv (by have := HC.out.dob; rintro (⟨-, h⟩ | ⟨h, -⟩); cases h; exact this h)
        · obtain ⟨a, c, c1, hc, hcm, hca⟩ := H.out.da
          rw [show (p + t) / 8 = p / 8 by omega]
          exact ⟨a, c, HE.out.chg.keep c1 (by have := HC.out.dob; rintro (⟨-, h⟩ | ⟨h, -⟩); cases h; exact this h), hc, hcm, hca⟩
        · rw [show ((p + t) % 8 : Nat) = r by omega]; exact c3
      · obtain rfl : r = 8 := by omega
        obtain ⟨a, c, c1, hc, hcm, hca⟩ := H.out.da
        have Hcm := Lib.hid hcm
        clear hcm
        have hq : p / 8 < L := by have := H.out.room; have := Hr.out; omega
        obtain rfl := hca hq
        have c1' := hE.chg.keep c1 (by have := HC.out.dob; rintro (⟨-, h⟩ | ⟨h, -⟩); cases h; exact this h)
        have f1 := (hE.chg.frozen d 1 H.out.lt).trans (H.out.fr 1 (by omega))
        have hnv := HE.out.chg.keep H.out.nv (by have := HC.out.dob; rintro (⟨-, h⟩ | ⟨h, -⟩); cases h; exact this h)
        obtain ⟨K, hK⟩ : ∃ K, K = L - p / 8 := ⟨_, rfl⟩
        rw [← hK] at c1' hc
        have hK1 : 1 ≤ K := by omega
        have HK := Lib.hid hK
        have Hnv := Lib.hid hnv
        have Hhc := Lib.hid hc
        have hK1c : (1 : Int) ≤ K := by omega
        clear hE hch hr hii hg hca hq hK c1 hnv
        have fin : ∀ (w3 : World) (A : Option Addr) (C : Nat), Chg (Own d) wr w3 → w3.cell? ⟨d, 0, none⟩ = some (.int .i64 V) → w3.cell? ⟨d, 1, none⟩ = some (.slice A (K - 1) C) → K - 1 ≤ C → C ≤ c → (K ≠ 1 → A = some ⟨b, p / 8 + 1, none⟩) → w3.cell? ⟨d, 3, none⟩ = some (.int .i64 0) → ∃ k, k = min (m - i) (8 - p % 8) ∧ Ending.returned (.int .i64 ii) = .returned (.int .i64 (i + k : Nat)) ∧ (∀ j, j < k → w3.cell? ⟨ob, i + j, none⟩ = some (.bool (β (p + j)))) ∧ Chg (fun a x => a = d ∨ (a = ob ∧ i ≤ x ∧ x < i + k)) w w3 ∧ PX w3 d b (p + k) (N - k) V L β := by
          intro w3 A C hc3 k0 k1 hcc hCc hA k3
          have hii := Hii.out
          have hrr := Hr.out
          have hKK := HK.out
          have hcw := (Hch.out t rfl).trans (hc3.mono (fun _ _ _ h => .inl h))
          refine ⟨t, by omega, by rw [hii], fun j hj => hc3.keep (HE.out.out j hj) (fun h => HC.out.dob h.symm), hcw, k0, ⟨A, C, ?_, ?_, Nat.le_trans hCc Hcm.out, fun h => ?_⟩, ?_, fun j hj => (hcw.frozen d j H.out.lt).trans (H.out.fr j hj), H.out.dt.keep hcw (fun j hj => by rintro (h | ⟨h, -⟩); exact H.out.ne h.symm; exact hbo h), by have := H.out.room; omega, H.out.big, H.out.ne⟩
          · rw [show L - (p + t) / 8 = K - 1 by omega]; exact k1
          · omega
          · rw [show (p + t) / 8 = p / 8 + 1 by omega]; exact hA (by omega)
          · rw [show (p + t) % 8 = 0 by omega]; exact k3
        have Hfin := Lib.hid fin
        clear fin
        by_cases hc1 : c = 1
        · subst hc1
          obtain rfl : K = 1 := by omega
          go_wp2_with fail
          (refine wp_region_txt [] (by kernel_rfl) (by kernel_rfl) ?_; repeat (first | (refine wpTxt_pure rfl rfl (fun K hK => ?_); go_simp; refine hK _ ?_; clear hK K) | (refine wpTxt_still rfl rfl (fun K hK => ?_); go_simp; refine hK _ ?_; clear hK K)))
          (refine wpTxt_effect rfl rfl (fun K hK => ?_); go_simp; refine hK _ _ ?_; clear hK K)
          refine wpTxt_nil ?_
          go_wp2_with fail
          have hnv := Hnv.out
          go_ret
          exact Hfin.out _ _ _ ((((Chg.refl (Own d) wr).own 3 _).own 1 _).drew) (by show World.cell? (World.setCell _ _ _) _ = _; go_cell) (by show World.cell? (World.setCell _ _ _) _ = _; go_cell) (by omega) (by omega) (fun h => absurd rfl h) (by show World.cell? (World.setCell _ _ _) _ = _; go_cell)
        · go_wp2_with fail
          (refine wp_region_txt [] (by kernel_rfl) (by kernel_rfl) ?_; repeat (first | (refine wpTxt_pure rfl rfl (fun K hK => ?_); go_simp; refine hK _ ?_; clear hK K) | (refine wpTxt_still rfl rfl (fun K hK => ?_); go_simp; refine hK _ ?_; clear hK K)))
          (refine wpTxt_effect rfl rfl (fun K hK => ?_); go_simp; refine hK _ _ ?_; clear hK K)
          refine wpTxt_nil ?_
          go_wp2_with fail
          have hnv := Hnv.out
          go_ret
          exact Hfin.out _ _ _ ((((Chg.refl (Own d) wr).own 3 _).own 1 _).drew) (by show World.cell? (World.setCell _ _ _) _ = _; go_cell) (by show World.cell? (World.setCell _ _ _) _ = _; go_cell) (by omega) (by omega) (fun h => rfl) (by show World.cell? (World.setCell _ _ _) _ = _; go_cell)
end Go.Proofs.YtflgbndhahcdnaaGreatDoor
/- Whole bytes become bools. -/
namespace Go.Proofs.YtflgbndhahcdnaaGreatDoor
open Go Go.RowKit
structure TB (ob i0 q : Nat) (β : Nat → Bool) (w wx : World) (t : Nat) : Prop where
  out : ∀ j, j < t → wx.cell? ⟨ob, i0 + j, none⟩ = some (.bool (β (8 * q + j)))
  chg : Chg (fun a x => a = ob ∧ i0 ≤ x ∧ x < i0 + t) w wx
theorem TB.put {ob i0 q t ii : Nat} {β : Nat → Bool} {w wx : World} (h : TB ob i0 q β w wx t) (hii : ii = i0 + t) {u : Value} (hu : wx.cell? ⟨ob, ii, none⟩ = some u) : TB ob i0 q β w (wx.setCell ⟨ob, ii, none⟩ (.bool (β (8 * q + t)))) (t + 1) := by
  refine ⟨fun j hj => ?_, (h.chg.mono (fun a x _ h => ⟨h.1, h.2.1, by omega⟩)).setCell _ _ (fun _ => ⟨rfl, by omega, by omega⟩) _⟩
  by_cases e : j = t
  · subst e
    rw [← hii]
    exact World.cell?_setCell_same wx ⟨ob, ii, none⟩ _ hu
  · rw [World.cell?_setCell_other _ _ _ _ (by intro e2; injection e2 with _ e3; omega)]
    exact h.out j (by omega)
set_option maxRecDepth 100000 in
set_option maxHeartbeats 1000000 in
theorem toBoolsGo_ok (b q A cap ob i0 n capo L : Nat) (β : Nat → Bool) (w : World) (hB : Bmp w b 0 L β) (hq : q + A ≤ L) (hoc : ∀ j, j < n → ∃ u, w.cell? ⟨ob, i0 + j, none⟩ = some u) (hof : ∀ j, j < n → w.frozen? ⟨ob, i0 + j, none⟩ = false) (hn : 8 * A ≤ n) (hbo : b ≠ ob) (hA : A ≤ 1000000) (hnb : n ≤ 100000000) :
    Calls Tryz.prog 48 #[.slice (some ⟨b, q, none⟩) A cap, .slice (some ⟨ob, i0, none⟩) n capo] w fun e w' =>
      e = .returned (.tuple #[]) ∧ TB ob i0 q β w w' (8 * A) := by
  have H0 : Hid (TB ob i0 q β w w 0) := Lib.hid ⟨fun j hj => by omega, Chg.refl _ _⟩
  have HB := Lib.hid hB
  have Hoc := Lib.hid hoc
  have Hof := Lib.hid hof
  have Hn := Lib.hid hn
  clear hB hoc hof hn
  go_enter Tryz.func48, Tryz.ntmps48
  go_wp2_with fail
  go_loopw [10] (fun v wx => ∃ k, v = .int .i64 (k : Nat) ∧ k ≤ A ∧ TB ob i0 q β w wx (8 * k)) (fun v _ => A - (intOf v).toNat)
  case atStart => exact ⟨0, rfl, Nat.zero_le _, H0.out⟩
  case round =>
    obtain ⟨k, rfl, hk, hT⟩ := hrel
    by_cases hlt : k < A
    · obtain ⟨x, hx, hx8, hxb⟩ := HB.out.cell (q + k) (by omega)
      rw [Nat.zero_add] at hx
      have hx2 := hT.chg.keep hx (by rintro ⟨h, -⟩; exact hbo h)
      have HT := Lib.hid hT
      have Hxb := Lib.hid hxb
      have hkA : (k : Int) < A := by omega
      clear hT hx hxb
      go_wp2_with fail
      go_loopw [6] (fun v wx => ∃ j, v = .int .i64 (j : Nat) ∧ j ≤ 8 ∧ TB ob i0 q β w wx (8 * k + j)) (fun v _ => 8 - (intOf v).toNat)
      case atStart => exact ⟨0, rfl, Nat.zero_le _, HT.out⟩
      case round =>
        obtain ⟨r, rfl, hr, hT⟩ := hrel
        by_cases hr8 : r < 8
        · have hr8' : (r : Int) < 8 := by omega
          obtain ⟨u, hu⟩ := Hoc.out (8 * k + r) (by have := Hn.out; omega)
          have hu2 := hT.chg.keep hu (by rintro ⟨-, h1, h2⟩; omega)
          have hf2 := (hT.chg.frozen ob (i0 + (8 * k + r)) (World.block_lt_of_cell? _ _ hu)).trans (Hof.out (8 * k + r) (by have := Hn.out; omega))
          have hne := and_pow_ne x r
          rw [Hxb.out r hr8, show 8 * (q + k) + r = 8 * q + (8 * k + r) by omega] at hne
          have hs : IntKind.u8.wrap (2 ^ r) = (2 ^ r : Nat) := by have := shl1 ⟨r, hr8⟩; rwa [Int.one_mul] at this
          have hp := pow8 r hr8
          have hand := u8_and_nat x (2 ^ r) hx8 (by omega)
          obtain ⟨P, hP⟩ : ∃ P, P = 2 ^ r := ⟨_, rfl⟩
          rw [← hP] at hne hand hs
          have r0 : 0 ≤ (r : Int) := by omega
          have hrt : ((r : Nat) : Int).toNat = r := by omega
          have hin : 8 * (k : Int) + r < n := by have := Hn.out; omega
          have hi0 : 0 ≤ 8 * (k : Int) + r := by omega
          have hit : (8 * (k : Int) + r).toNat = 8 * k + r := by omega
          have hst := Lib.hid (hT.put rfl hu2)
          clear hT hu hp hP
          go_wp2_with fail
          exact ⟨⟨r + 1, by go_num, by omega, hst.out⟩, by simp [intOf]; omega⟩
        · have hr8' : ¬ (r : Int) < 8 := by omega
          obtain rfl : r = 8 := by omega
          have HT2 := Lib.hid hT
          clear hT
          go_wp2_with fail
          go_roundw
          case rel => exact ⟨k + 1, by go_num, by omega, HT2.out⟩
          case measure => simp [intOf]; omega
    · obtain rfl : k = A := by omega
      have HT := Lib.hid hT
      clear hT
      go_wp2_with fail
      go_end0
      exact ⟨rfl, HT.out⟩
theorem toBools_ok (b q A cap ob i0 n capo L : Nat) (β : Nat → Bool) (w : World) (hB : Bmp w b 0 L β) (hq : q + A ≤ L) (hoc : ∀ j, j < n → ∃ u, w.cell? ⟨ob, i0 + j, none⟩ = some u) (hof : ∀ j, j < n → w.frozen? ⟨ob, i0 + j, none⟩ = false) (hn : 8 * A ≤ n) (hbo : b ≠ ob) (hA : A ≤ 1000000) (hnb : n ≤ 100000000) :
    Calls Tryz.prog 41 #[.slice (some ⟨b, q, none⟩) A cap, .slice (some ⟨ob, i0, none⟩) n capo] w fun e w' =>
      e = .returned (.tuple #[]) ∧ TB ob i0 q β w w' (8 * A) := by
  have Hcall := Lib.hid (toBoolsGo_ok b q A cap ob i0 n capo L β w hB hq hoc hof hn hbo hA hnb)
  clear hB hoc hof
  go_enter Tryz.func41, Tryz.ntmps41
  go_wp2_with fail
  refine Hcall.out.mono ?_
  rintro e w1 ⟨rfl, h1⟩
  have H1 := Lib.hid h1
  clear h1
  go_wp2_with fail
  go_end0
  exact ⟨rfl, H1.out⟩
theorem minN_ok (a b : Nat) (w : World) : Calls Tryz.prog 34 #[.int .i64 a, .int .i64 b] w fun e w' => e = .returned (.int .i64 (min a b : Nat)) ∧ w' = w := by
  by_cases h : (a : Int) < b
  · go_enter Tryz.func34, Tryz.ntmps34
    go_wp2_with fail
    go_ret
    exact ⟨by rw [show min a b = a by omega]; rfl, rfl⟩
  · go_enter Tryz.func34, Tryz.ntmps34
    go_wp2_with fail
    go_ret
    exact ⟨by rw [show min a b = b by omega]; rfl, rfl⟩
end Go.Proofs.YtflgbndhahcdnaaGreatDoor
/- Bytes set to a value; little-endian numbers that are cut off. -/
namespace Go.Proofs.YtflgbndhahcdnaaGreatDoor
open Go Go.RowKit
theorem leV_zero (D : Nat → Nat) : ∀ (m p : Nat), (∀ j, p ≤ j → j < p + m → D j = 0) → leV D p m = 0
  | 0, p, h => rfl
  | m + 1, p, h => by rw [leV, leV_zero D m (p + 1) (fun j h1 h2 => h j (by omega) (by omega)), h p (Nat.le_refl _) (by omega)]
theorem leV_cut (D E : Nat → Nat) : ∀ (n m o p : Nat), n ≤ m → (∀ j, j < n → E (p + j) = D (o + j)) → (∀ j, n ≤ j → j < m → E (p + j) = 0) → leV E p m = leV D o n
  | 0, m, o, p, h, h1, h2 => by
    refine leV_zero E m p (fun j hj hm => ?_)
    have := h2 (j - p) (by omega) (by omega)
    rwa [show p + (j - p) = j by omega] at this
  | n + 1, 0, o, p, h, h1, h2 => by omega
  | n + 1, m + 1, o, p, h, h1, h2 => by
    have h0 := h1 0 (by omega)
    rw [Nat.add_zero, Nat.add_zero] at h0
    rw [leV, leV, h0, leV_cut D E n m (o + 1) (p + 1) (by omega) (fun j hj => by have := h1 (j + 1) (by omega); rwa [show p + (j + 1) = p + 1 + j by omega, show o + (j + 1) = o + 1 + j by omega] at this) (fun j hj hm => by have := h2 (j + 1) (by omega) (by omega); rwa [show p + (j + 1) = p + 1 + j by omega] at this)]
set_option maxRecDepth 100000 in
set_option maxHeartbeats 1000000 in
theorem memsetGo_ok (b off len cap v : Nat) (w : World) (hlen : len ≤ 1000000000000000000) (hc : ∀ j, j < len → ∃ u, w.cell? ⟨b, off + j, none⟩ = some u) (hf : ∀ j, j < len → w.frozen? ⟨b, off + j, none⟩ = false) :
    Calls Tryz.prog 119 #[.slice (some ⟨b, off, none⟩) len cap, .int .u8 v] w fun e w' => e = .returned (.tuple #[]) ∧ Chg (fun k x => k = b ∧ off ≤ x ∧ x < off + len) w w' ∧ Bytes w' b off len (fun _ => v) := by
  have Hc := Lib.hid hc; clear hc
  have Hf := Lib.hid hf; clear hf
  go_enter Tryz.func119, Tryz.ntmps119
  go_wp2_with fail
  go_loopw [4] (fun i wx => ∃ k : Nat, k ≤ len ∧ i = .int .i64 k ∧ Chg (fun k x => k = b ∧ off ≤ x ∧ x < off + len) w wx ∧ (∀ j, j < len → ∃ u, wx.cell? ⟨b, off + j, none⟩ = some u) ∧ Bytes wx b off k (fun _ => v)) (fun i _ => len - (intOf i).toNat)
  case atStart => exact ⟨0, Nat.zero_le _, rfl, Chg.refl _ _, Hc.out, fun j hj => by omega⟩
  case round =>
    obtain ⟨k, hk, rfl, h1, h2, h3⟩ := hrel
    by_cases hlt : k < len
    · obtain ⟨u, hu⟩ := h2 k hlt
      obtain ⟨u0, hu0⟩ := Hc.out k hlt
      have hfz := (h1.frozen b (off + k) (World.block_lt_of_cell? w _ hu0)).trans (Hf.out k hlt)
      have H1 := Lib.hid h1; clear h1
      have H2 := Lib.hid h2; clear h2
      have H3 := Lib.hid h3; clear h3
      clear hu0 u0
      go_wp2_with fail
      go_roundw
      case rel =>
        refine ⟨k + 1, by omega, by go_num, H1.out.setCell _ _ (fun _ => ⟨rfl, by omega, by omega⟩) _, fun j hj => cell_is _ (H2.out j hj), fun j hj => ?_⟩
        by_cases hjk : j = k
        · subst hjk; exact World.cell?_setCell_same _ _ _ hu
        · exact cell_ne _ (H3.out j (by omega)) (by omega)
      case measure => simp [intOf]; omega
    · have : k = len := by omega
      subst this
      have H1 := Lib.hid h1; clear h1
      have H2 := Lib.hid h2; clear h2
      have H3 := Lib.hid h3; clear h3
      go_wp2_with fail
      go_end0
      exact ⟨rfl, H1.out, H3.out⟩
set_option maxRecDepth 100000 in
set_option maxHeartbeats 1000000 in
theorem memset_ok (b off len cap v : Nat) (w : World) (hlen : len ≤ 1000000000000000000) (hc : ∀ j, j < len → ∃ u, w.cell? ⟨b, off + j, none⟩ = some u) (hf : ∀ j, j < len → w.frozen? ⟨b, off + j, none⟩ = false) :
    Calls Tryz.prog 70 #[.slice (some ⟨b, off, none⟩) len cap, .int .u8 v] w fun e w' => e = .returned (.tuple #[]) ∧ Chg (fun k x => k = b ∧ off ≤ x ∧ x < off + len) w w' ∧ Bytes w' b off len (fun _ => v) := by
  have H := Lib.hid (memsetGo_ok b off len cap v w hlen hc hf)
  clear hc hf
  go_enter Tryz.func70, Tryz.ntmps70
  go_wp2_with fail
  refine H.out.mono ?_
  rintro e w1 ⟨rfl, h1, h2⟩
  have H1 := Lib.hid h1; clear h1
  have H2 := Lib.hid h2; clear h2
  go_wp2_with fail
  go_end0
  exact ⟨rfl, H1.out, H2.out⟩
set_option maxRecDepth 100000 in
set_option maxHeartbeats 1000000 in
theorem memsetGo_nil (pp : Option Addr) (cap v : Nat) (w : World) :
    Calls Tryz.prog 119 #[.slice pp 0 cap, .int .u8 v] w fun e w' => e = .returned (.tuple #[]) ∧ w = w' := by
  go_enter Tryz.func119, Tryz.ntmps119
  go_wp2_with fail
  refine wp_loop_rounds 1 ?_
  rw [rounds_succ]
  go_wp2
  go_end0
  exact ⟨rfl, rfl⟩
set_option maxRecDepth 100000 in
set_option maxHeartbeats 1000000 in
theorem memset_nil (pp : Option Addr) (cap v : Nat) (w : World) :
    Calls Tryz.prog 70 #[.slice pp (0 : Nat) cap, .int .u8 v] w fun e w' => e = .returned (.tuple #[]) ∧ w = w' := by
  go_enter Tryz.func70, Tryz.ntmps70
  go_wp2_with fail
  refine (memsetGo_nil pp cap v w).mono ?_
  rintro e w1 ⟨rfl, rfl⟩
  go_wp2_with fail
  go_end0
  exact ⟨rfl, rfl⟩
end Go.Proofs.YtflgbndhahcdnaaGreatDoor
