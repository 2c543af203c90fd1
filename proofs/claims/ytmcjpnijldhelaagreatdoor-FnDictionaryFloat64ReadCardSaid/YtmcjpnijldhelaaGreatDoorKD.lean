/- Part 4 of the proof: the texts F2, C2, U0, joined. What each proves stands ahead of it. -/
import Derived.Test.YtmcjpnijldhelaaGreatDoorKC
import Derived.Lib.Zigzag
import Derived.Test.YtmcjpnijldhelaaGreatDoorKB
set_option linter.unusedVariables false
set_option linter.unusedSimpArgs false
/- A number by sevens. -/
namespace Go.Proofs.YtmcjpnijldhelaaGreatDoor
open Go Go.RowKit
theorem leb_join (a b s : Nat) (ha : a < 2 ^ s) (hs : s ≤ 63) (hb : 2 ^ s * b < 2 ^ 64) : bits .or .u64 (a : Int) (IntKind.u64.wrap ((b : Nat) * 2 ^ s)) = (a + 2 ^ s * b : Nat) := by
  have h5 : (2 : Nat) ^ s ≤ 2 ^ 64 := Nat.pow_le_pow_right (by decide) (by omega)
  have e5 : ((b : Nat) : Int) * 2 ^ s = ((2 ^ s * b : Nat) : Int) := by rw [Nat.mul_comm]; norm_cast
  rw [e5, wrap64 _ (by omega) (by exact_mod_cast hb)]
  rw [bits_join_low .u64 64 (by decide) wraps_u64 s a _ (by omega) (by exact_mod_cast ha) (by exact_mod_cast Nat.lt_of_lt_of_le ha h5) (by omega) (by exact_mod_cast Nat.mul_mod_right _ _) (by exact_mod_cast hb)]
  omega
theorem nil_ReadByte (a : Addr) (w : World) : (nilAhead 455 176 (.pointer (some a)) "ReadByte").run Tryz.prog w = .ok (some false) w := by kernel_rfl
theorem method_ReadByte (a : Addr) (w : World) : (method 455 176 (.pointer (some a)) "ReadByte").run Tryz.prog w = .ok (233, .pointer (some a)) w := by kernel_rfl
/-- What is known behind i bytes. -/
def Uvs (c : RC) (q : Nat) (w wr : World) (i : Nat) : Prop := Chg (Own c.B) w wr ∧ ∃ o f, o + (f + 7) / 8 = q + i ∧ RS c wr o f
set_option maxRecDepth 100000 in
set_option maxHeartbeats 1000000 in
theorem uvarint_ok (c : RC) (o f k v : Nat) (w : World) (h : RS c w o f) (hk : Leb c.D (o + (f + 7) / 8) k v) (ho : o + (f + 7) / 8 + k ≤ c.L) :
    Calls Tryz.prog 130 #[.iface 176 (.pointer (some ⟨c.B, 0, none⟩))] w fun e w' =>
      e = .returned (.tuple #[.int .u64 v, .nilIface]) ∧ Chg (Own c.B) w w' ∧ NS c w' (o + (f + 7) / 8 + k) 0 := by
  have h0 : Uvs c (o + (f + 7) / 8) w w 0 := ⟨Chg.refl _ _, o, f, rfl, h⟩
  generalize o + (f + 7) / 8 = q at *
  clear h
  have H0 := Lib.hid h0; clear h0
  have Hk := Lib.hid hk; clear hk
  have Hn := nil_ReadByte
  have Hm := method_ReadByte
  go_enter Tryz.func130, Tryz.ntmps130
  go_wp2_with fail
  go_loopw [4, 5, 6] (fun x s i wr => ∃ n : Nat, n < k ∧ x = .int .u64 (lebV c.D q n) ∧ s = .int .u64 (7 * n : Nat) ∧ i = .int .i64 n ∧ Uvs c q w wr n) (fun _ _ i _ => 10 - (intOf i).toNat)
  case atStart => exact ⟨0, by have := Hk.out.k1; omega, rfl, rfl, rfl, H0.out⟩
  case round =>
    obtain ⟨n, hn, rfl, rfl, rfl, hu⟩ := hrel
    obtain ⟨hc, o1, f1, hof, hR⟩ := hu
    have hn10 : n < 10 := by have := Hk.out.k10; omega
    have hcall := readByte_ok c o1 f1 wr hR (by omega)
    rw [hof] at hcall
    have Hcall := Lib.hid hcall; clear hcall
    have Hc := Lib.hid hc; clear hc
    have Hof := Lib.hid hof; clear hof
    have HR := Lib.hid hR; clear hR
    have hb := HR.out.env.data.lt (q + n)
    obtain ⟨b, hbb⟩ : ∃ b, b = c.D (q + n) := ⟨_, rfl⟩
    rw [← hbb] at hb Hcall
    have Hbb := Lib.hid hbb; clear hbb
    obtain ⟨x, hx⟩ : ∃ x, x = lebV c.D q n := ⟨_, rfl⟩
    rw [← hx]
    have Hx := Lib.hid hx; clear hx
    obtain ⟨s, hs⟩ : ∃ s, s = 7 * n := ⟨_, rfl⟩
    rw [← hs]
    have hs63 : s ≤ 63 := by omega
    have Hs := Lib.hid hs; clear hs
    go_wp2_with fail
    refine Hcall.out.mono ?_
    rintro e w1 ⟨rfl, h1, h2⟩
    have H1 := Lib.hid (Hc.out.trans h1); clear h1
    have H2 := Lib.hid h2; clear h2
    clear Hcall
    have Hlt := Lib.hid (lebV_lt c.D q n)
    by_cases hb1 : b < 128
    · have hkn : k = n + 1 := by
        by_cases hh : n + 1 < k
        · have := Hk.out.more n hh; have := Hbb.out; omega
        · omega
      have ej : bits .or .u64 (x : Int) (IntKind.u64.wrap ((b : Nat) * 2 ^ s)) = (v : Nat) := by
        have h5 := Hk.out.val
        have h6 := Hk.out.lt
        have h7 := Hlt.out
        rw [hkn, lebV, ← Hbb.out, Nat.mod_eq_of_lt hb1, ← Hs.out, ← Hx.out] at h5
        rw [← Hs.out, ← Hx.out] at h7
        rw [leb_join x b s h7 hs63 (by omega), h5]
      have Hej := Lib.hid ej; clear ej
      have Hkn := Lib.hid hkn; clear hkn
      by_cases h9 : n = 9
      · have ht : b ≤ 1 := by
          have h8 := Hk.out
          rw [Hkn.out, h9] at h8
          have := h8.top
          have := Hbb.out
          rw [h9] at this
          omega
        subst h9
        go_wp2_with fail
        go_ret2
        exact ⟨ret_two Hej.out, H1.out, by rw [Hkn.out]; exact H2.out⟩
      · have h9' : ¬ (n : Int) = 9 := by omega
        go_wp2_with fail
        go_ret2
        exact ⟨ret_two Hej.out, H1.out, by rw [Hkn.out]; exact H2.out⟩
    · have hkn : n + 1 < k := by
        apply Decidable.byContradiction
        intro hh
        have h3 := Hk.out.last
        have h4 := Hbb.out
        rw [show q + k - 1 = q + n by omega] at h3
        omega
      have ej : bits .or .u64 (x : Int) (IntKind.u64.wrap ((b % 128 : Nat) * 2 ^ s)) = (lebV c.D q (n + 1) : Nat) := by
        have h7 := Hlt.out
        have h8 := Hk.out.k10
        have h10 : 2 ^ s * (b % 128) < 2 ^ 64 := by
          have h11 : (2 : Nat) ^ s * (b % 128) ≤ 2 ^ s * 127 := Nat.mul_le_mul_left _ (by omega)
          have h12 : (2 : Nat) ^ s ≤ 2 ^ 56 := Nat.pow_le_pow_right (by decide) (by have := Hs.out; omega)
          omega
        rw [lebV, ← Hbb.out, ← Hs.out, ← Hx.out]
        rw [← Hs.out, ← Hx.out] at h7
        rw [leb_join x _ s h7 hs63 h10]
      have Hej := Lib.hid ej; clear ej
      go_wp2_with fail
      go_roundw
      case rel =>
        have e1 : bits .and .u8 (b : Int) 127 = (b % 128 : Nat) := by
          have := bits_mask .u8 8 (by decide) wraps_u8 7 (by decide) b (by omega) (by show (b : Int) < 256; omega)
          rw [show ((127 : Int)) = 2 ^ 7 - 1 by decide, this]
          show (b : Int) % 128 = _
          omega
        have e2 : IntKind.u64.wrap ((b % 128 : Nat) : Int) = (b % 128 : Nat) := wrap64 _ (by omega) (by show ((b % 128 : Nat) : Int) < 18446744073709551616; omega)
        refine ⟨n + 1, hkn, ?_, ?_, rfl, H1.out, q + n + 1, 0, by omega, H2.out.rs⟩
        · rw [e1, e2, Hej.out]
        · have := Hs.out
          rw [show (s : Int) + 7 = (7 * (n + 1) : Nat) by omega]
      case measure => simp [intOf]; omega
set_option maxRecDepth 100000 in
set_option maxHeartbeats 1000000 in
theorem getVlq_ok (c : RC) (o f k v : Nat) (w : World) (h : RS c w o f) (hk : Leb c.D (o + (f + 7) / 8) k v) (ho : o + (f + 7) / 8 + k ≤ c.L) :
    Calls Tryz.prog 114 #[.pointer (some ⟨c.B, 0, none⟩)] w fun e w' =>
      e = .returned (.tuple #[.int .u64 v, .bool true]) ∧ Chg (Own c.B) w w' ∧ NS c w' (o + (f + 7) / 8 + k) 0 := by
  have H := Lib.hid (uvarint_ok c o f k v w h hk ho)
  clear h hk ho
  go_enter Tryz.func114, Tryz.ntmps114
  go_wp2_with fail
  refine H.out.mono ?_
  rintro e w1 ⟨rfl, h1, h2⟩
  have H1 := Lib.hid h1; clear h1
  have H2 := Lib.hid h2; clear h2
  go_wp2_with fail
  go_ret2
  exact ⟨rfl, H1.out, H2.out⟩
set_option maxRecDepth 100000 in
set_option maxHeartbeats 1000000 in
theorem newBits_ok (rb ro : Nat) (w : World) :
    Calls Tryz.prog 84 #[.iface 174 (.pointer (some ⟨rb, ro, none⟩))] w fun e w' => e = .returned (.pointer (some ⟨w.heap.size, 0, none⟩)) ∧ Chg Nix w w' ∧ w.heap.size < w'.heap.size ∧ BR w' w.heap.size rb ro 0 0 0 0 := by
  go_enter Tryz.func84, Tryz.ntmps84
  go_wp2_with fail
  go_ret
  have hz : Tryz.zeroCells223.size = 1037 := by kernel_rfl
  have h1 : Tryz.zeroCells223[1]? = some (.int .u64 0) := by kernel_rfl
  have h2 : Tryz.zeroCells223[2]? = some (.int .i64 0) := by kernel_rfl
  have h3 : Tryz.zeroCells223[3]? = some (.int .u64 0) := by kernel_rfl
  have h4 : Tryz.zeroCells223[4]? = some (.int .u64 0) := by kernel_rfl
  generalize Tryz.zeroCells223 = Z at *
  refine ⟨rfl, Chg.new _ _, by simp, ⟨?_, ?_, ?_, ?_, ?_, ?_, ?_, ?_⟩⟩
  · rw [World.cell?_alloc_new]; simp [hz]
  · rw [World.cell?_alloc_new]; simp [h1]
  · rw [World.cell?_alloc_new]; simp [h2]
  · rw [World.cell?_alloc_new]; simp [h3]
  · rw [World.cell?_alloc_new]; simp [h4]
  · intro j hj
    rw [World.cell?_alloc_new]
    exact ⟨_, Array.getElem?_eq_getElem (by simp [hz]; omega)⟩
  · intro j hj
    rw [World.cell?_alloc_new]
    exact ⟨_, Array.getElem?_eq_getElem (by simp [hz]; omega)⟩
  · intro j hj; simp
end Go.Proofs.YtmcjpnijldhelaaGreatDoor
/- Read, ReadAtLeast, ReadFull, readLittle. -/
namespace Go.Proofs.YtmcjpnijldhelaaGreatDoor
open Go Go.RowKit
set_option maxRecDepth 100000 in
set_option maxHeartbeats 1000000 in
theorem read_in (rb ro b bo L C pb po n c i : Nat) (pr : Int) (D : Nat → Nat) (w : World) (hR : Rdr w rb ro b bo L C i pr) (hD : Bytes w b bo L D) (hi : i < L) (hL : L ≤ C) (hC : C ≤ 9223372036854775807) (hpr : pb ≠ rb) (hpb : pb ≠ b) (hbr : b ≠ rb)
    (hp : ∀ j, j < n → ∃ u, w.cell? ⟨pb, po + j, none⟩ = some u) (hpf : ∀ j, j < n → w.frozen? ⟨pb, po + j, none⟩ = false) :
    Calls Tryz.prog 228 #[.pointer (some ⟨rb, ro, none⟩), .slice (some ⟨pb, po, none⟩) n c] w fun e w' =>
      e = .returned (.tuple #[.int .i64 (min (L - i) n : Nat), .nilIface]) ∧ Chg (fun k x => (k = rb ∧ ro ≤ x ∧ x < ro + 3) ∨ (k = pb ∧ po ≤ x ∧ x < po + min (L - i) n)) w w' ∧ Rdr w' rb ro b bo L C (i + min (L - i) n : Nat) (-1) ∧ Bytes w' pb po (min (L - i) n) (fun j => D (i + j)) := by
  have hs := hR.s
  have hri := hR.i
  have hrp := hR.p
  have f1 := hR.f 1 (by omega)
  have f2 := hR.f 2 (by omega)
  have HR := Lib.hid hR; clear hR
  have Hp := Lib.hid hp; clear hp
  have Hf := Lib.hid hpf; clear hpf
  have HD := Lib.hid hD; clear hD
  have c0 : 0 ≤ (i : Int) := by omega
  have c1 : i ≤ L := by omega
  go_enter Tryz.func228, Tryz.ntmps228
  go_wp2
  (refine wp_region_txt [] (by kernel_rfl) (by kernel_rfl) ?_; repeat (first | (refine wpTxt_pure rfl rfl (fun K hK => ?_); go_simp; refine hK _ ?_; clear hK K) | (refine wpTxt_still rfl rfl (fun K hK => ?_); go_simp; refine hK _ ?_; clear hK K)))
  refine wpTxt_nil ?_
  go_wp2
  (refine wp_region_txt [] (by kernel_rfl) (by kernel_rfl) ?_; repeat (first | (refine wpTxt_pure rfl rfl (fun K hK => ?_); go_simp; refine hK _ ?_; clear hK K) | (refine wpTxt_still rfl rfl (fun K hK => ?_); go_simp; refine hK _ ?_; clear hK K)))
  refine wpTxt_copy_chg rfl (.tmp 20) (.tmp 29) 24 24 rfl 5 Tryz.underlying24 (by kernel_rfl) _ _ _ _ _ _ rfl rfl (min (L - i) n) rfl pb po b (bo + i) (fun j => .int .u8 (D (i + j))) (fun _ => ⟨rfl, if_neg (by omega)⟩) ?c2 ?c3 ?c4 (fun _ _ => rfl) ?_
  all_goals have hch : Chg (fun k x => k = rb ∧ ro ≤ x ∧ x < ro + 3) w ((w.setCell ⟨rb, ro + 2, none⟩ (.int .i64 (-1))).drew.drew) := (((Chg.refl _ _).setCell rb (ro + 2) (fun _ => ⟨rfl, by omega, by omega⟩) _).drew).drew
  case c2 =>
    intro j hj
    have := hch.keep (HD.out (i + j) (by omega)) (by intro h; exact hbr h.1)
    rwa [← Nat.add_assoc] at this
  case c3 => exact fun j hj => let ⟨u, hu⟩ := Hp.out j (by omega); ⟨u, hch.keep hu (by intro h; exact hpr h.1)⟩
  case c4 => exact fun j hj => let ⟨u, hu⟩ := Hp.out j (by omega); (hch.frozen _ _ (World.block_lt_of_cell? w _ hu)).trans (Hf.out j (by omega))
  have hR1 : Rdr ((w.setCell ⟨rb, ro + 2, none⟩ (.int .i64 (-1))).drew.drew) rb ro b bo L C i (-1) := ⟨by go_cell, by go_cell, by go_cell, fun j hj => by simpa using HR.out.f j hj⟩
  have Hch := Lib.hid hch; clear hch
  intro w1 hch1 hv1
  have hR2 := hR1.keep hch1 (fun j _ h => hpr h.1.symm)
  have g1 := hR2.i
  have g2 := hR2.f 1 (by omega)
  have HR2 := Lib.hid hR2; clear hR2
  have Hv := Lib.hid hv1; clear hv1
  have Hc1 := Lib.hid hch1; clear hch1
  clear hs hri hrp f1 f2 hR1
  repeat (first | (refine wpTxt_pure rfl rfl (fun K hK => ?_); go_simp; refine hK _ ?_; clear hK K) | (refine wpTxt_still rfl rfl (fun K hK => ?_); go_simp; refine hK _ ?_; clear hK K))
  refine wpTxt_nil ?_
  go_wp2
  go_ret2
  have hall := (Hch.out.comp Hc1.out (T := fun k x => (k = rb ∧ ro ≤ x ∧ x < ro + 3) ∨ (k = pb ∧ po ≤ x ∧ x < po + min (L - i) n)) (fun _ _ _ h => .inl h) (fun _ _ _ h => .inr h)).setCell rb (ro + 1) (fun _ => .inl ⟨rfl, by omega, by omega⟩) (.int .i64 (↑i + ↑(min (L - i) n)))
  have h3 := HR2.out
  refine ⟨rfl, hall, ⟨?_, ?_, ?_, ?_⟩, ?_⟩
  · rw [World.cell?_setCell_other _ ⟨rb, ro + 1, none⟩ ⟨rb, ro, none⟩ _ (by intro e; injection e; omega)]; exact h3.s
  · exact World.cell?_setCell_same _ _ _ h3.i
  · rw [World.cell?_setCell_other _ ⟨rb, ro + 1, none⟩ ⟨rb, ro + 2, none⟩ _ (by intro e; injection e; omega)]; exact h3.p
  · intro j hj; rw [World.frozen?_setCell]; exact h3.f j hj
  · intro j hj
    rw [World.cell?_setCell_other _ ⟨rb, ro + 1, none⟩ ⟨pb, po + j, none⟩ _ (by intro e; injection e with e1; exact hpr e1.symm)]
    exact Hv.out j hj
theorem nil_Read (a : Addr) (w : World) : (nilAhead 455 174 (.pointer (some a)) "Read").run Tryz.prog w = .ok (some false) w := by kernel_rfl
theorem method_Read (a : Addr) (w : World) : (method 455 174 (.pointer (some a)) "Read").run Tryz.prog w = .ok (228, .pointer (some a)) w := by kernel_rfl
set_option maxRecDepth 100000 in
set_option maxHeartbeats 1000000 in
theorem readAtLeast_exact (rb ro b bo L C pb po n c i : Nat) (pr : Int) (D : Nat → Nat) (w : World) (hR : Rdr w rb ro b bo L C i pr) (hD : Bytes w b bo L D) (hn : 0 < n) (hi : i + n ≤ L) (hL : L ≤ C) (hC : C ≤ 9223372036854775807) (hpr : pb ≠ rb) (hpb : pb ≠ b) (hbr : b ≠ rb)
    (hp : ∀ j, j < n → ∃ u, w.cell? ⟨pb, po + j, none⟩ = some u) (hpf : ∀ j, j < n → w.frozen? ⟨pb, po + j, none⟩ = false) (hnc : n ≤ c) :
    Calls Tryz.prog 179 #[.iface 174 (.pointer (some ⟨rb, ro, none⟩)), .slice (some ⟨pb, po, none⟩) n c, .int .i64 n] w fun e w' =>
      e = .returned (.tuple #[.int .i64 n, .nilIface]) ∧ Chg (fun k x => (k = rb ∧ ro ≤ x ∧ x < ro + 3) ∨ (k = pb ∧ po ≤ x ∧ x < po + n)) w w' ∧ Rdr w' rb ro b bo L C (i + n : Nat) (-1) ∧ Bytes w' pb po n (fun j => D (i + j)) := by
  have HR := Lib.hid hR; clear hR
  have Hp := Lib.hid hp; clear hp
  have Hf := Lib.hid hpf; clear hpf
  have HD := Lib.hid hD; clear hD
  have hnil := nil_Read
  have hmet := method_Read
  have hi' : i < L := by omega
  go_enter Tryz.func179, Tryz.ntmps179
  go_wp2
  refine wp_loop_rounds 2 ?_
  rw [rounds_succ]
  go_wp2
  (refine wp_region_txt [] (by kernel_rfl) (by kernel_rfl) ?_; repeat (first | (refine wpTxt_pure rfl rfl (fun K hK => ?_); go_simp; refine hK _ ?_; clear hK K) | (refine wpTxt_still rfl rfl (fun K hK => ?_); go_simp; refine hK _ ?_; clear hK K)))
  refine wpTxt_effect rfl rfl (fun K hK => ?_)
  go_simp
  refine (read_in rb ro b bo L C pb po n c i pr D _ HR.out.drew HD.out hi' hL hC hpr hpb hbr Hp.out Hf.out).mono ?_
  rintro e w1 ⟨rfl, hch, hR1, hB1⟩
  refine hK _ _ ?_
  clear hK K
  have Hc := Lib.hid hch; clear hch
  have HR1 := Lib.hid hR1; clear hR1
  have HB1 := Lib.hid hB1; clear hB1
  obtain ⟨m, hm⟩ : ∃ m, m = min (L - i) n := ⟨_, rfl⟩
  have hmn : m = n := by omega
  rw [← hm, hmn] at HR1 HB1 Hc ⊢
  clear hm hmn m
  repeat (first | (refine wpTxt_pure rfl rfl (fun K hK => ?_); go_simp; refine hK _ ?_; clear hK K) | (refine wpTxt_still rfl rfl (fun K hK => ?_); go_simp; refine hK _ ?_; clear hK K))
  refine wpTxt_nil ?_
  go_wp2
  rw [rounds_succ]
  go_wp2
  go_ret2
  exact ⟨rfl, Hc.out.undrew, HR1.out, HB1.out⟩
set_option maxRecDepth 100000 in
set_option maxHeartbeats 1000000 in
theorem readFull_exact (rb ro b bo L C pb po n c i : Nat) (pr : Int) (D : Nat → Nat) (w : World) (hR : Rdr w rb ro b bo L C i pr) (hD : Bytes w b bo L D) (hn : 0 < n) (hi : i + n ≤ L) (hL : L ≤ C) (hC : C ≤ 9223372036854775807) (hpr : pb ≠ rb) (hpb : pb ≠ b) (hbr : b ≠ rb)
    (hp : ∀ j, j < n → ∃ u, w.cell? ⟨pb, po + j, none⟩ = some u) (hpf : ∀ j, j < n → w.frozen? ⟨pb, po + j, none⟩ = false) (hnc : n ≤ c) :
    Calls Tryz.prog 171 #[.iface 174 (.pointer (some ⟨rb, ro, none⟩)), .slice (some ⟨pb, po, none⟩) n c] w fun e w' =>
      e = .returned (.tuple #[.int .i64 n, .nilIface]) ∧ Chg (fun k x => (k = rb ∧ ro ≤ x ∧ x < ro + 3) ∨ (k = pb ∧ po ≤ x ∧ x < po + n)) w w' ∧ Rdr w' rb ro b bo L C (i + n : Nat) (-1) ∧ Bytes w' pb po n (fun j => D (i + j)) := by
  have h := fun W (hR : Rdr W rb ro b bo L C i pr) hD hp hpf => readAtLeast_exact rb ro b bo L C pb po n c i pr D W hR hD hn hi hL hC hpr hpb hbr hp hpf hnc
  have H := Lib.hid h; clear h
  have HR := Lib.hid hR; clear hR
  have Hp := Lib.hid hp; clear hp
  have Hf := Lib.hid hpf; clear hpf
  have HD := Lib.hid hD; clear hD
  go_enter Tryz.func171, Tryz.ntmps171
  go_wp2_with fail
  refine (H.out _ HR.out HD.out Hp.out Hf.out).mono ?_
  rintro e w1 ⟨rfl, hch, hR1, hB1⟩
  have Hc := Lib.hid hch; clear hch
  have HR1 := Lib.hid hR1; clear hR1
  have HB1 := Lib.hid hB1; clear hB1
  go_wp2
  go_ret2
  exact ⟨rfl, Hc.out, HR1.out, HB1.out⟩
set_option maxRecDepth 100000 in
set_option maxHeartbeats 1000000 in
theorem readLittle_ok (rb ro b bo L C pb po i : Nat) (pr : Int) (u : Value) (D : Nat → Nat) (hDl : ∀ j, D j < 256) (w : World) (hR : Rdr w rb ro b bo L C i pr) (hD : Bytes w b bo L D) (hi : i + 4 ≤ L) (hL : L ≤ C) (hC : C ≤ 9223372036854775807) (hpr : pb ≠ rb) (hbr : b ≠ rb)
    (hp : w.cell? ⟨pb, po, none⟩ = some u) (hpf : w.frozen? ⟨pb, po, none⟩ = false) :
    Calls Tryz.prog 178 #[.iface 174 (.pointer (some ⟨rb, ro, none⟩)), .pointer (some ⟨pb, po, none⟩)] w fun e w' =>
      e = .returned (.tuple #[]) ∧ Chg (fun k x => (k = rb ∧ ro ≤ x ∧ x < ro + 3) ∨ (k = pb ∧ x = po)) w w' ∧ Rdr w' rb ro b bo L C (i + 4 : Nat) (-1) ∧ w'.cell? ⟨pb, po, none⟩ = some (.int .u32 (leV D i 4)) := by
  have hlr := hR.lt
  have hlb : b < w.heap.size := World.block_lt_of_cell? w _ (hD 0 (by omega))
  have hlp := World.block_lt_of_cell? w _ hp
  have HR := Lib.hid hR; clear hR
  have HD := Lib.hid hD; clear hD
  have Hp := Lib.hid hp; clear hp
  have Hf := Lib.hid hpf; clear hpf
  go_enter Tryz.func178, Tryz.ntmps178
  go_wp2_with fail
  refine (readFull_exact rb ro b bo L C w.heap.size 0 4 4 i pr D _ (by exact HR.out.alloc _) (by exact HD.out.alloc _) (by omega) hi hL hC (by omega) (by omega) hbr
    (by
      intro j hj
      rw [World.cell?_alloc_new]
      have : j = 0 ∨ j = 1 ∨ j = 2 ∨ j = 3 := by omega
      rcases this with rfl | rfl | rfl | rfl <;> exact ⟨_, rfl⟩) (by intro j hj; simp) (by omega)).mono ?_
  rintro e w1 ⟨rfl, hch, hR1, hB1⟩
  have Hp1 := Lib.hid (hch.keep (cell_alloc _ Hp.out) (by rintro (h | h); exact hpr h.1; omega))
  have Hf1 := Lib.hid ((hch.frozen pb po (by simp; omega)).trans (frozen_alloc _ hlp Hf.out))
  have hlt1 : w.heap.size < w1.heap.size := Nat.lt_of_lt_of_le (by simp) hch.size
  have Hc1 := Lib.hid (hch.unalloc (T := fun k x => (k = rb ∧ ro ≤ x ∧ x < ro + 3) ∨ (k = pb ∧ x = po)) (by rintro k x hk (h | h); exact .inl h; omega))
  have HR1 := Lib.hid hR1; clear hR1
  have HB1 := Lib.hid hB1; clear hB1
  clear hch
  go_wp2
  (refine wp_region_txt [] (by kernel_rfl) (by kernel_rfl) ?_; repeat (first | (refine wpTxt_pure rfl rfl (fun K hK => ?_); go_simp; refine hK _ ?_; clear hK K) | (refine wpTxt_still rfl rfl (fun K hK => ?_); go_simp; refine hK _ ?_; clear hK K)))
  refine wpTxt_effect rfl rfl (fun K hK => ?_)
  go_simp
  refine (le32_any w.heap.size 0 4 4 (fun j => D (i + j)) (fun j => hDl _) _ (by omega) (by exact HB1.out)).mono ?_
  rintro e w2 ⟨rfl, hch2⟩
  refine hK _ _ ?_
  clear hK K
  have hlp1 : pb < w1.heap.size := World.block_lt_of_cell? w1 _ Hp1.out
  have Hp2 := hch2.keep (v := u) (k := pb) (o := po) Hp1.out (fun h => h)
  have Hf2 := (hch2.frozen pb po hlp1).trans Hf1.out
  have HR2 := Lib.hid (HR1.out.drew.keep hch2 (fun _ _ h => h))
  have Hc2 := Lib.hid (Hc1.out.trans (hch2.undrew.mono (fun _ _ _ h => h.elim)))
  clear hch2
  repeat (first | (refine wpTxt_pure rfl rfl (fun K hK => ?_); go_simp; refine hK _ ?_; clear hK K) | (refine wpTxt_still rfl rfl (fun K hK => ?_); go_simp; refine hK _ ?_; clear hK K))
  (refine wpTxt_effect rfl rfl (fun K hK => ?_); go_simp; refine hK _ _ ?_; clear hK K)
  refine wpTxt_nil ?_
  go_wp2
  go_end0
  have e4 := leV_shift D i 4 0
  rw [Nat.add_zero] at e4
  refine ⟨rfl, Hc2.out.setCell _ _ (fun _ => .inr ⟨rfl, rfl⟩) _, HR2.out.keep ((Chg.refl (fun k _ => k = pb) w2).setCell _ _ (fun _ => rfl) _) (fun _ _ h => hpr h.symm), ?_⟩
  rw [e4]
  exact World.cell?_setCell_same _ _ _ Hp2
end Go.Proofs.YtmcjpnijldhelaaGreatDoor
/- Numbers whose bits are named: shifting, cutting and joining them. -/
namespace Go.Proofs.YtmcjpnijldhelaaGreatDoor
abbrev SymV := List (Option Nat)
def bitO (B : Nat → Nat) : Option Nat → Nat
  | none => 0
  | some i => B i
def den (B : Nat → Nat) : SymV → Nat
  | [] => 0
  | x :: l => bitO B x + 2 * den B l
section
variable {B : Nat → Nat} (hB : ∀ i, B i < 2)
include hB
theorem bitO_lt (x : Option Nat) : bitO B x < 2 := by cases x <;> simp [bitO, hB]
theorem den_lt : ∀ l : SymV, den B l < 2 ^ l.length
  | [] => by simp [den]
  | x :: l => by
    have h1 := den_lt l
    have h2 := bitO_lt hB x
    rw [den, List.length_cons, Nat.pow_succ]; omega
theorem den_drop : ∀ (n : Nat) (l : SymV), den B (l.drop n) = den B l / 2 ^ n
  | 0, l => by simp
  | n + 1, [] => by simp [den]
  | n + 1, x :: l => by
    have h2 := bitO_lt hB x
    rw [List.drop_succ_cons, den_drop n l, den, Nat.pow_succ, Nat.mul_comm (2 ^ n) 2, ← Nat.div_div_eq_div_mul]
    congr 1; omega
theorem den_take : ∀ (n : Nat) (l : SymV), den B (l.take n) = den B l % 2 ^ n
  | 0, l => by simp [den, Nat.mod_one]
  | n + 1, [] => by simp [den]
  | n + 1, x :: l => by
    have h2 := bitO_lt hB x
    rw [List.take_succ_cons, den, den_take n l, den, Nat.pow_succ, Nat.mul_comm (2 ^ n) 2, Nat.mod_mul]
    rw [show (bitO B x + 2 * den B l) % 2 = bitO B x by omega, show (bitO B x + 2 * den B l) / 2 = den B l by omega]
omit hB in
theorem den_shl (n : Nat) (l : SymV) : den B (List.replicate n none ++ l) = den B l * 2 ^ n := by
  induction n with
  | zero => simp
  | succ n ih => rw [List.replicate_succ, List.cons_append, den, ih, bitO, Nat.pow_succ, Nat.zero_add, Nat.mul_comm 2, Nat.mul_assoc]
omit hB in
theorem or_step (x y a b : Nat) (hx : x < 2) (hy : y < 2) (h : x = 0 ∨ y = 0) : (x + 2 * a) ||| (y + 2 * b) = (x + y) + 2 * (a ||| b) := by
  apply Nat.eq_of_testBit_eq
  intro i
  cases i with
  | zero =>
    rw [Nat.testBit_or, Nat.testBit_zero, Nat.testBit_zero, Nat.testBit_zero]
    rcases h with h | h <;> subst h <;> (simp; try omega)
  | succ i =>
    rw [Nat.testBit_or, Nat.testBit_succ, Nat.testBit_succ, Nat.testBit_succ]
    rw [show (x + 2 * a) / 2 = a by omega, show (y + 2 * b) / 2 = b by omega, show (x + y + 2 * (a ||| b)) / 2 = a ||| b by omega, Nat.testBit_or]
end
def zipO : SymV → SymV → Option SymV
  | [], b => some b
  | a, [] => some a
  | none :: a, y :: b => (zipO a b).map (y :: ·)
  | some x :: a, none :: b => (zipO a b).map (some x :: ·)
  | some _ :: _, some _ :: _ => none
theorem den_or {B : Nat → Nat} (hB : ∀ i, B i < 2) : ∀ (a b c : SymV), zipO a b = some c → den B c = den B a ||| den B b
  | [], b, c, h => by simp [zipO] at h; subst h; simp [den]
  | x :: a, [], c, h => by cases x <;> simp [zipO] at h <;> subst h <;> simp [den]
  | none :: a, y :: b, c, h => by
    simp only [zipO, Option.map_eq_some_iff] at h
    obtain ⟨d, hd, rfl⟩ := h
    rw [den, den, den, den_or hB a b d hd, or_step _ _ _ _ (bitO_lt hB _) (bitO_lt hB _) (.inl rfl)]
    simp [bitO]
  | some x :: a, none :: b, c, h => by
    simp only [zipO, Option.map_eq_some_iff] at h
    obtain ⟨d, hd, rfl⟩ := h
    rw [den, den, den, den_or hB a b d hd, or_step _ _ _ _ (bitO_lt hB _) (bitO_lt hB _) (.inr rfl)]
    simp [bitO]
/-- The bits from i on, w of them. -/
def symR (i w : Nat) : SymV := (List.range' i w).map some
theorem den_symR (D : Nat → Nat) (p : Nat) : ∀ (w i : Nat), den (fun k => bitB D (p + k)) (symR i w) = bitsV D (p + i) w
  | 0, i => rfl
  | w + 1, i => by
    have ih := den_symR D p w (i + 1)
    simp only [symR] at ih
    simp only [symR, List.range'_succ, List.map_cons, den, bitO, bitsV]
    rw [ih, Nat.add_assoc]
end Go.Proofs.YtmcjpnijldhelaaGreatDoor
