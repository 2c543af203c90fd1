/- Part 4 of the proof: the texts F2, AO, FN, PA, LN, LO, joined. What each proves stands ahead of it. -/
import Derived.Test.YtaageikelkcphaaGreatDoorKC
import Derived.Lib.Zigzag
import Derived.Test.YtaageikelkcphaaGreatDoorKA
import Derived.Laws.AppendOwn
import Derived.Laws.AppendOwnNone
import Derived.Test.YtaageikelkcphaaGreatDoorPFnPrefixesReadx1
import Derived.Test.YtaageikelkcphaaGreatDoorPFnPrefixesReadx2
import Derived.Test.YtaageikelkcphaaGreatDoorXT
set_option linter.unusedVariables false
set_option linter.unusedSimpArgs false
/- A number by sevens. -/
namespace Go.Proofs.YtaageikelkcphaaGreatDoor
open Go Go.RowKit
theorem leb_join (a b s : Nat) (ha : a < 2 ^ s) (hs : s ≤ 63) (hb : 2 ^ s * b < 2 ^ 64) : bits .or .u64 (a : Int) (IntKind.u64.wrap ((b : Nat) * 2 ^ s)) = (a + 2 ^ s * b : Nat) := by
  have h5 : (2 : Nat) ^ s ≤ 2 ^ 64 := Nat.pow_le_pow_right (by decide) (by omega)
  have e5 : ((b : Nat) : Int) * 2 ^ s = ((2 ^ s * b : Nat) : Int) := by rw [Nat.mul_comm]; norm_cast
  rw [e5, wrap64 _ (by omega) (by exact_mod_cast hb)]
  rw [bits_join_low .u64 64 (by decide) wraps_u64 s a _ (by omega) (by exact_mod_cast ha) (by exact_mod_cast Nat.lt_of_lt_of_le ha h5) (by omega) (by exact_mod_cast Nat.mul_mod_right _ _) (by exact_mod_cast hb)]
  omega
theorem nil_ReadByte (a : Addr) (w : World) : (nilAhead 276 69 (.pointer (some a)) "ReadByte").run Tryz.prog w = .ok (some false) w := by kernel_rfl
theorem method_ReadByte (a : Addr) (w : World) : (method 276 69 (.pointer (some a)) "ReadByte").run Tryz.prog w = .ok (54, .pointer (some a)) w := by kernel_rfl
/-- What is known behind i bytes. -/
def Uvs (c : RC) (q : Nat) (w wr : World) (i : Nat) : Prop := Chg (Own c.B) w wr ∧ ∃ o f, o + (f + 7) / 8 = q + i ∧ RS c wr o f
set_option maxRecDepth 100000 in
set_option maxHeartbeats 1000000 in
theorem uvarint_ok (c : RC) (o f k v : Nat) (w : World) (h : RS c w o f) (hk : Leb c.D (o + (f + 7) / 8) k v) (ho : o + (f + 7) / 8 + k ≤ c.L) :
    Calls Tryz.prog 52 #[.iface 69 (.pointer (some ⟨c.B, 0, none⟩))] w fun e w' =>
      e = .returned (.tuple #[.int .u64 v, .nilIface]) ∧ Chg (Own c.B) w w' ∧ NS c w' (o + (f + 7) / 8 + k) 0 := by
  have h0 : Uvs c (o + (f + 7) / 8) w w 0 := ⟨Chg.refl _ _, o, f, rfl, h⟩
  generalize o + (f + 7) / 8 = q at *
  clear h
  have H0 := Lib.hid h0; clear h0
  have Hk := Lib.hid hk; clear hk
  have Hn := nil_ReadByte
  have Hm := method_ReadByte
  go_enter Tryz.func52, Tryz.ntmps52
  go_wp2_with fail
  go_loopw [4, 5, 6] (fun x s i wr => ∃ n : Nat, n < k ∧ x = .int .u64 (lebV c.D q n) ∧ s = .int .u64 (7 * n : Nat) ∧ i = .int .i64 n ∧ Uvs c q w wr n) (fun _ _ i _ => 10 - (intOf i).toNat)
  case atStart => exact ⟨0, by have := Hk.out.k1; omega, rfl, rfl, rfl, H0.out⟩
  case round =>
    obtain ⟨n, hn, rfl, rfl, rfl, hu⟩ := hrel
    obtain ⟨hc, o1, f1, hof, hR⟩ := hu
    have hn10 : n < 10 := by have := Hk.out.k10; omega
    have hcall := readByte_ok c o1 f1 wr hR (by omega)
    rw [hof] at hcall
    have Hcall := Lib.hid hcall; clear hcall
    have Hc := Lib.hid hc; clear hc
    have Hof := Lib.hid hof; clear hof
    have HR := Lib.hid hR; clear hR
    have hb := HR.out.env.data.lt (q + n)
    obtain ⟨b, hbb⟩ : ∃ b, b = c.D (q + n) := ⟨_, rfl⟩
    rw [← hbb] at hb Hcall
    have Hbb := Lib.hid hbb; clear hbb
    obtain ⟨x, hx⟩ : ∃ x, x = lebV c.D q n := ⟨_, rfl⟩
    rw [← hx]
    have Hx := Lib.hid hx; clear hx
    obtain ⟨s, hs⟩ : ∃ s, s = 7 * n := ⟨_, rfl⟩
    rw [← hs]
    have hs63 : s ≤ 63 := by omega
    have Hs := Lib.hid hs; clear hs
    go_wp2_with fail
    refine Hcall.out.mono ?_
    rintro e w1 ⟨rfl, h1, h2⟩
    have H1 := Lib.hid (Hc.out.trans h1); clear h1
    have H2 := Lib.hid h2; clear h2
    clear Hcall
    have Hlt := Lib.hid (lebV_lt c.D q n)
    by_cases hb1 : b < 128
    · have hkn : k = n + 1 := by
        by_cases hh : n + 1 < k
        · have := Hk.out.more n hh; have := Hbb.out; omega
        · omega
      have ej : bits .or .u64 (x : Int) (IntKind.u64.wrap ((b : Nat) * 2 ^ s)) = (v : Nat) := by
        have h5 := Hk.out.val
        have h6 := Hk.out.lt
        have h7 := Hlt.out
        rw [hkn, lebV, ← Hbb.out, Nat.mod_eq_of_lt hb1, ← Hs.out, ← Hx.out] at h5
        rw [← Hs.out, ← Hx.out] at h7
        rw [leb_join x b s h7 hs63 (by omega), h5]
      have Hej := Lib.hid ej; clear ej
      have Hkn := Lib.hid hkn; clear hkn
      by_cases h9 : n = 9
      · have ht : b ≤ 1 := by
          have h8 := Hk.out
          rw [Hkn.out, h9] at h8
          have := h8.top
          have := Hbb.out
          rw [h9] at this
          omega
        subst h9
        go_wp2_with fail
        go_ret2
        exact ⟨ret_two Hej.out, H1.out, by rw [Hkn.out]; exact H2.out⟩
      · have h9' : ¬ (n : Int) = 9 := by omega
        go_wp2_with fail
        go_ret2
        exact ⟨ret_two Hej.out, H1.out, by rw [Hkn.out]; exact H2.out⟩
    · have hkn : n + 1 < k := by
        apply Decidable.byContradiction
        intro hh
        have h3 := Hk.out.last
        have h4 := Hbb.out
        rw [show q + k - 1 = q + n by omega] at h3
        omega
      have ej : bits .or .u64 (x : Int) (IntKind.u64.wrap ((b % 128 : Nat) * 2 ^ s)) = (lebV c.D q (n + 1) : Nat) := by
        have h7 := Hlt.out
        have h8 := Hk.out.k10
        have h10 : 2 ^ s * (b % 128) < 2 ^ 64 := by
          have h11 : (2 : Nat) ^ s * (b % 128) ≤ 2 ^ s * 127 := Nat.mul_le_mul_left _ (by omega)
          have h12 : (2 : Nat) ^ s ≤ 2 ^ 56 := Nat.pow_le_pow_right (by decide) (by have := Hs.out; omega)
          omega
        rw [lebV, ← Hbb.out, ← Hs.out, ← Hx.out]
        rw [← Hs.out, ← Hx.out] at h7
        rw [leb_join x _ s h7 hs63 h10]
      have Hej := Lib.hid ej; clear ej
      go_wp2_with fail
      go_roundw
      case rel =>
        have e1 : bits .and .u8 (b : Int) 127 = (b % 128 : Nat) := by
          have := bits_mask .u8 8 (by decide) wraps_u8 7 (by decide) b (by omega) (by show (b : Int) < 256; omega)
          rw [show ((127 : Int)) = 2 ^ 7 - 1 by decide, this]
          show (b : Int) % 128 = _
          omega
        have e2 : IntKind.u64.wrap ((b % 128 : Nat) : Int) = (b % 128 : Nat) := wrap64 _ (by omega) (by show ((b % 128 : Nat) : Int) < 18446744073709551616; omega)
        refine ⟨n + 1, hkn, ?_, ?_, rfl, H1.out, q + n + 1, 0, by omega, H2.out.rs⟩
        · rw [e1, e2, Hej.out]
        · have := Hs.out
          rw [show (s : Int) + 7 = (7 * (n + 1) : Nat) by omega]
      case measure => simp [intOf]; omega
set_option maxRecDepth 100000 in
set_option maxHeartbeats 1000000 in
theorem getVlq_ok (c : RC) (o f k v : Nat) (w : World) (h : RS c w o f) (hk : Leb c.D (o + (f + 7) / 8) k v) (ho : o + (f + 7) / 8 + k ≤ c.L) :
    Calls Tryz.prog 44 #[.pointer (some ⟨c.B, 0, none⟩)] w fun e w' =>
      e = .returned (.tuple #[.int .u64 v, .bool true]) ∧ Chg (Own c.B) w w' ∧ NS c w' (o + (f + 7) / 8 + k) 0 := by
  have H := Lib.hid (uvarint_ok c o f k v w h hk ho)
  clear h hk ho
  go_enter Tryz.func44, Tryz.ntmps44
  go_wp2_with fail
  refine H.out.mono ?_
  rintro e w1 ⟨rfl, h1, h2⟩
  have H1 := Lib.hid h1; clear h1
  have H2 := Lib.hid h2; clear h2
  go_wp2_with fail
  go_ret2
  exact ⟨rfl, H1.out, H2.out⟩
theorem i64_xor_ones (x : Nat) (hx : x < 9223372036854775808) : bits .xor .i64 (x : Int) (-1) = -(x : Int) - 1 := by
  rw [← Lib.i64_not x hx]
  show IntKind.i64.wrap ((BitVec.ofInt 64 (x : Int) ^^^ BitVec.ofInt 64 (-1)).toNat : Int) = _
  rw [BitVec.xor_comm]
  rfl
theorem i64_xor_zero (x : Nat) (hx : x < 9223372036854775808) : bits .xor .i64 (x : Int) 0 = x := by
  show IntKind.i64.wrap ((BitVec.ofInt 64 (x : Int) ^^^ BitVec.ofInt 64 0).toNat : Int) = _
  have h2 : (BitVec.ofInt 64 (x : Int)).toNat = x := by
    rw [BitVec.ofInt_natCast, BitVec.toNat_ofNat]; exact Nat.mod_eq_of_lt (by omega)
  rw [BitVec.toNat_xor, h2, show (BitVec.ofInt 64 0).toNat = 0 by decide, Nat.xor_zero, IntKind.wrap_i64]
  omega
theorem unzig_is (v : Nat) (hv : v < 2 ^ 64) : bits .xor .i64 (RowKit.wrap64 ((v : Int) / 2)) (RowKit.wrap64 (-RowKit.wrap64 (bits .and .u64 (v : Int) 1))) = unzig v := by
  rw [Lib.u64_and1 v (by omega) (by omega)]
  have e1 : RowKit.wrap64 ((v : Int) / 2) = (v / 2 : Nat) := by unfold RowKit.wrap64; omega
  rw [e1]
  unfold unzig
  split
  · rename_i h
    rw [show RowKit.wrap64 (-RowKit.wrap64 ((v : Int) % 2)) = 0 by unfold RowKit.wrap64; omega]
    exact i64_xor_zero _ (by omega)
  · rename_i h
    rw [show RowKit.wrap64 (-RowKit.wrap64 ((v : Int) % 2)) = -1 by unfold RowKit.wrap64; omega]
    exact i64_xor_ones _ (by omega)
set_option maxRecDepth 100000 in
set_option maxHeartbeats 1000000 in
theorem getZigZag_ok (c : RC) (o f k v : Nat) (w : World) (h : RS c w o f) (hk : Leb c.D (o + (f + 7) / 8) k v) (ho : o + (f + 7) / 8 + k ≤ c.L) :
    Calls Tryz.prog 45 #[.pointer (some ⟨c.B, 0, none⟩)] w fun e w' =>
      e = .returned (.tuple #[.int .i64 (unzig v), .bool true]) ∧ Chg (Own c.B) w w' ∧ NS c w' (o + (f + 7) / 8 + k) 0 := by
  have H := Lib.hid (getVlq_ok c o f k v w h hk ho)
  have Hv := Lib.hid hk.lt
  clear h hk ho
  go_enter Tryz.func45, Tryz.ntmps45
  go_wp2_with fail
  refine H.out.mono ?_
  rintro e w1 ⟨rfl, h1, h2⟩
  have H1 := Lib.hid h1; clear h1
  have H2 := Lib.hid h2; clear h2
  go_wp2_with fail
  go_ret2
  exact ⟨ret_two (unzig_is v Hv.out), H1.out, H2.out⟩
set_option maxRecDepth 100000 in
set_option maxHeartbeats 1000000 in
theorem curOffset_ok (c : RC) (o f : Nat) (w : World) (h : RS c w o f) (ho : o ≤ c.L) :
    Calls Tryz.prog 49 #[.pointer (some ⟨c.B, 0, none⟩)] w fun e w' => e = .returned (.int .i64 (o + (f + 7) / 8 : Nat)) ∧ Chg Nix w w' := by
  obtain ⟨buf, vb, hb, -⟩ := h.br
  have hf := h.hf
  have c2 := hb.bo
  have c3 := hb.bi
  have hL := h.env.hL
  have hC := h.env.hC
  have hLb := h.env.hLb
  have hbc := fun W => bytesFor_ok f W (by omega)
  have Hbc := Lib.hid hbc; clear hbc hb h
  obtain ⟨g, hg⟩ : ∃ g, g = (f + 7) / 8 := ⟨_, rfl⟩
  have hg8 : g ≤ 8 := by omega
  rw [← hg] at Hbc ⊢
  clear hg
  have hwf : IntKind.i64.wrap (f : Int) = f := IntWalk.i64_in _ (by omega)
  have hwo : IntKind.i64.wrap ((o : Int) + g) = o + g := IntWalk.i64_in _ (by omega)
  go_enter Tryz.func49, Tryz.ntmps49
  go_wp2_with fail
  refine wp_region_txt [57] (by kernel_rfl) (by kernel_rfl) ?_
  repeat (first | (refine wpTxt_pure rfl rfl (fun K hK => ?_); go_simp; refine hK _ ?_; clear hK K) | (refine wpTxt_still rfl rfl (fun K hK => ?_); go_simp; refine hK _ ?_; clear hK K))
  refine wpTxt_still rfl rfl (fun K hK => ?_)
  go_simp
  refine ⟨_, Hbc.out _, ?_⟩
  (refine hK _ ?_; clear hK K)
  repeat (first | (refine wpTxt_pure rfl rfl (fun K hK => ?_); go_simp; refine hK _ ?_; clear hK K) | (refine wpTxt_still rfl rfl (fun K hK => ?_); go_simp; refine hK _ ?_; clear hK K))
  refine wpTxt_nil ?_
  go_wp2_with fail
  go_ret
  exact ⟨rfl, (Chg.refl _ _).drew⟩
set_option maxRecDepth 100000 in
set_option maxHeartbeats 1000000 in
theorem newBits_ok (rb ro : Nat) (w : World) :
    Calls Tryz.prog 41 #[.iface 92 (.pointer (some ⟨rb, ro, none⟩))] w fun e w' => e = .returned (.pointer (some ⟨w.heap.size, 0, none⟩)) ∧ Chg Nix w w' ∧ w.heap.size < w'.heap.size ∧ BR w' w.heap.size rb ro 0 0 0 0 := by
  go_enter Tryz.func41, Tryz.ntmps41
  go_wp2_with fail
  go_ret
  have hz : Tryz.zeroCells111.size = 1037 := by kernel_rfl
  have h1 : Tryz.zeroCells111[1]? = some (.int .u64 0) := by kernel_rfl
  have h2 : Tryz.zeroCells111[2]? = some (.int .i64 0) := by kernel_rfl
  have h3 : Tryz.zeroCells111[3]? = some (.int .u64 0) := by kernel_rfl
  have h4 : Tryz.zeroCells111[4]? = some (.int .u64 0) := by kernel_rfl
  generalize Tryz.zeroCells111 = Z at *
  refine ⟨rfl, Chg.new _ _, by simp, ⟨?_, ?_, ?_, ?_, ?_, ?_, ?_, ?_⟩⟩
  · rw [World.cell?_alloc_new]; simp [hz]
  · rw [World.cell?_alloc_new]; simp [h1]
  · rw [World.cell?_alloc_new]; simp [h2]
  · rw [World.cell?_alloc_new]; simp [h3]
  · rw [World.cell?_alloc_new]; simp [h4]
  · intro j hj
    rw [World.cell?_alloc_new]
    exact ⟨_, Array.getElem?_eq_getElem (by simp [hz]; omega)⟩
  · intro j hj
    rw [World.cell?_alloc_new]
    exact ⟨_, Array.getElem?_eq_getElem (by simp [hz]; omega)⟩
  · intro j hj; simp
end Go.Proofs.YtaageikelkcphaaGreatDoor
/- Appends to a row of one's own, with all that stays told. Over any program. -/
namespace Go.Proofs.YtaageikelkcphaaGreatDoor
open Go Go.RowKit
section
variable {P : Program}
/-- xs are v's cells, one each, in a block from base on. -/
def Own1 (w : World) (base : Nat) (e : TypeId) (v : Value) (xs : List Value) : Prop := w.ownsRow base e 1 v xs.length xs
theorem Own1.nil (w : World) (base : Nat) (e : TypeId) : Own1 w base e (.slice none 0 0) [] := World.ownsRow_nil w base e 1
theorem Own1.keep {w w' : World} {base : Nat} {e : TypeId} {v : Value} {xs : List Value} (h : Own1 w base e v xs) {S : Nat → Nat → Prop} (hc : Chg S w w') (hS : ∀ g, base ≤ g → ∀ o, ¬ S g o) : Own1 w' base e v xs := by
  refine ⟨h.1, ?_⟩
  rcases h.2 with hn | ⟨g, cap, cur, hv, hb, hg, rest⟩
  · exact .inl hn
  · exact .inr ⟨g, cap, cur, hv, hb, (hc.block g (Array.getElem?_eq_some_iff.1 hg).1 (hS g hb)).trans hg, rest⟩
theorem Own1.keepAt {w w' : World} {base : Nat} {e : TypeId} {v : Value} {xs : List Value} (h : Own1 w base e v xs) {S : Nat → Nat → Prop} (hc : Chg S w w') (hS : ∀ g, v.ownBlock = some g → ∀ o, ¬ S g o) : Own1 w' base e v xs := by
  refine ⟨h.1, ?_⟩
  rcases h.2 with hn | ⟨g, cap, cur, rfl, hb, hg, rest⟩
  · exact .inl hn
  · exact .inr ⟨g, cap, cur, rfl, hb, (hc.block g (Array.getElem?_eq_some_iff.1 hg).1 (hS g rfl)).trans hg, rest⟩
theorem Own1.lt {w : World} {base : Nat} {e : TypeId} {v : Value} {xs : List Value} (h : Own1 w base e v xs) (g : Nat) (hg : v.ownBlock = some g) : base ≤ g ∧ g < w.heap.size := World.ownsRow.lt h g hg
/-- A slice that reads as a list of values. -/
def Reads (w : World) (v : Value) (xs : List Value) : Prop := ∃ p c, v = .slice p xs.length c ∧ (xs = [] ∨ ∃ g o, p = some ⟨g, o, none⟩ ∧ ∀ j u, xs[j]? = some u → w.cell? ⟨g, o + j, none⟩ = some u)
theorem Own1.reads {w : World} {base : Nat} {e : TypeId} {v : Value} {xs : List Value} (h : Own1 w base e v xs) : Reads w v xs := by
  rcases h.2 with ⟨rfl, hn⟩ | ⟨g, cap, cur, rfl, hb, hg, rest⟩
  · exact ⟨none, 0, by rw [hn], .inl (List.eq_nil_of_length_eq_zero hn)⟩
  · refine ⟨_, cap, rfl, .inr ⟨g, 0, rfl, fun j u hu => ?_⟩⟩
    have := World.ownsRow.cells h (g := g) rfl j u hu
    rwa [addr_add] at this
theorem chg_setRow {w : World} {g : Nat} {old : Array Value} {e : TypeId} (cs : Array Value) (hg : w.heap[g]? = some (.cells old e (0, 0))) : Chg (fun k _ => k = g) w (w.setRow g cs) := by
  refine ⟨rfl, rfl, rfl, by simp [World.setRow], fun k _ hn => setRow_other w g k cs (fun e => hn 0 e), fun k o _ hn => cell_setRow_other w g cs ⟨k, o, none⟩ hn, fun k o hk => ?_⟩
  unfold World.frozen?
  by_cases hkg : k = g
  · subst hkg
    simp only [setRow_heap w k old cs e (0, 0) hg, hg]
  · simp only [setRow_other w g k cs hkg]
end
end Go.Proofs.YtaageikelkcphaaGreatDoor
/- A new reader of runs; what batches take. -/
namespace Go.Proofs.YtaageikelkcphaaGreatDoor
open Go Go.RowKit
/-- What the batches take, and that there is enough. -/
def takes : List Int → List Nat → List Nat
  | [], _ => []
  | n :: ns, vs => (if n < 0 then [] else vs.take n.natAbs) ++ takes ns (vs.drop n.natAbs)
end Go.Proofs.YtaageikelkcphaaGreatDoor
/- The plain law: what an evaluation with enough fuel gives; the sizes; the same words; the batches. -/
namespace Go.Proofs.YtaageikelkcphaaGreatDoor
open Go Go.RowKit Go.Proofs.YtaageikelkcphaaGreatDoor.PFnPrefixesRead Go.Proofs.YtaageikelkcphaaGreatDoorW.PrintWords
/-- From some fuel on. -/
def Ev {α : Type} (F : Nat → Option α) (r : α) : Prop := ∃ k0, ∀ k, k0 ≤ k → F k = some r
theorem Ev.step {α : Type} {F G : Nat → Option α} {r : α} (h : ∀ k, F (k + 1) = G k) (hg : Ev G r) : Ev F r := by
  obtain ⟨k0, hk⟩ := hg
  refine ⟨k0 + 1, fun k hk1 => ?_⟩
  obtain ⟨m, rfl⟩ : ∃ m, k = m + 1 := ⟨k - 1, by omega⟩
  rw [h]; exact hk m (by omega)
theorem Ev.now {α : Type} {F : Nat → Option α} {r : α} (h : ∀ k, F (k + 1) = some r) : Ev F r :=
  ⟨1, fun k hk1 => by obtain ⟨m, rfl⟩ : ∃ m, k = m + 1 := ⟨k - 1, by omega⟩; exact h m⟩
theorem Ev.const {α : Type} {r : α} : Ev (fun _ => some r) r := ⟨0, fun _ _ => rfl⟩
theorem Ev.get {α : Type} {F : Nat → Option α} {r : α} (h : Ev F r) : ∃ k, F k = some r := ⟨_, h.choose_spec _ (Nat.le_refl _)⟩
theorem Ev.bind {α β : Type} {F : Nat → Option α} {a : α} {G : Nat → α → Option β} {b : β} (h : Ev F a) (hg : Ev (fun k => G k a) b) : Ev (fun k => (F k).bind (G k)) b := by
  obtain ⟨k0, h0⟩ := h
  obtain ⟨k1, h1⟩ := hg
  exact ⟨k0 + k1, fun k hk => by show (F k).bind (G k) = _; rw [h0 k (by omega)]; exact h1 k (by omega)⟩
theorem Ev.congr {α : Type} {F G : Nat → Option α} {r : α} (h : ∀ k, F k = G k) (hg : Ev G r) : Ev F r := by
  obtain ⟨k0, hk⟩ := hg
  exact ⟨k0, fun k hk1 => (h k).trans (hk k hk1)⟩
theorem w64 (n : Nat) (h : n ≤ 9223372036854775807) : RowKit.wrap64 (n : Int) = n := IntWalk.wrap64_in _ (by omega)
theorem rd_app (pre suf : List Int) (x : Int) : rd (pre ++ x :: suf) (pre.length : Int) = x := by
  unfold rd
  rw [Int.toNat_natCast, List.getD_eq_getElem?_getD, List.getElem?_append_right (Nat.le_refl _), Nat.sub_self]; rfl
end Go.Proofs.YtaageikelkcphaaGreatDoor
/- The plain law: the same texts; what batches take. -/
namespace Go.Proofs.YtaageikelkcphaaGreatDoor
open Go Go.RowKit Go.Proofs.YtaageikelkcphaaGreatDoor.PFnPrefixesRead Go.Proofs.YtaageikelkcphaaGreatDoorW.PrintWords
/-- What batches take of a list: up to the first that is not there whole. -/
def takesT {α : Type} : List Int → List α → List α
  | [], _ => []
  | n :: ns, l => (if n > 0 then l.take n.natAbs else []) ++ (if l.length < n.natAbs then [] else takesT ns (l.drop n.natAbs))
theorem sameT_l0 (l : List ByteArray) (hb : l.length ≤ 1000000000) : ∀ (suf pre : List ByteArray), pre ++ suf = l → Ev (fun k => spec_SameTexts.l0 k l l (l.length : Int) (pre.length : Int)) true := by
  intro suf
  induction suf with
  | nil =>
    intro pre h
    rw [List.append_nil] at h
    subst h
    exact .now fun k => by rw [spec_SameTexts.l0, if_neg (by omega)]
  | cons x suf ih =>
    intro pre h
    have hl : pre.length + suf.length + 1 = l.length := by rw [← h, List.length_append, List.length_cons]; omega
    have := ih (pre ++ [x]) (by rw [List.append_assoc]; exact h)
    rw [List.length_append, List.length_singleton] at this
    refine .step (fun k => ?_) this
    rw [spec_SameTexts.l0, if_pos (by omega), if_pos (by omega), if_pos (by omega), if_pos (by omega), if_pos rfl]
    rw [show (pre.length : Int) + 1 = (pre.length + 1 : Nat) by push_cast; rfl, w64 _ (by omega)]
theorem sameT_ev (l : List ByteArray) (hb : l.length ≤ 1000000000) : Ev (fun k => spec_SameTexts.f k l l) true := by
  refine .congr (fun k => ?_) (sameT_l0 l hb l [] rfl)
  unfold spec_SameTexts.f
  rw [if_pos rfl]; rfl
end Go.Proofs.YtaageikelkcphaaGreatDoor
/- The plain law: what batches take. -/
namespace Go.Proofs.YtaageikelkcphaaGreatDoor
open Go Go.RowKit Go.Proofs.YtaageikelkcphaaGreatDoor.PFnPrefixesRead Go.Proofs.YtaageikelkcphaaGreatDoorW.PrintWords
theorem mxabs (n : Int) (h : -5000 ≤ n ∧ n ≤ 5000) : mx n (RowKit.wrap64 (-n)) = (n.natAbs : Int) := by
  rw [IntWalk.wrap64_in (-n) (by omega)]
  unfold mx
  try split
  all_goals omega
theorem mnk (a b : Nat) (hb : b ≤ 1000000000) (c : Int) (hc : c = (b : Int)) : mn (a : Int) (RowKit.wrap64 c) = ((min a b : Nat) : Int) := by
  subst hc
  rw [w64 b (by omega)]
  unfold mn
  try split
  all_goals omega
theorem takenRoom (D a L p : Nat) (h : D ≤ p) (hp : p ≤ L) (hL : L ≤ 1000000) : D + min a (L - p) < 8796093022208 := by
  have h1 : min a (L - p) ≤ L - p := Nat.min_le_right _ _
  omega
theorem takenMn (a L p : Nat) (hp : p ≤ L) (hL : L ≤ 1000000) : mn (a : Int) (RowKit.wrap64 ((L : Int) - (p : Int))) = ((min a (L - p) : Nat) : Int) := mnk a (L - p) (by omega) _ (by omega)
theorem takenW (p K : Nat) (h : p + K ≤ 1000000) : RowKit.wrap64 ((p : Int) + (K : Int)) = ((p + K : Nat) : Int) := by
  rw [show (p : Int) + (K : Int) = ((p + K : Nat) : Int) by push_cast; rfl, w64 _ (by omega)]
set_option maxRecDepth 100000 in
theorem taken_eq (k : Nat) (x0 x5 : List ByteArray) (x6 : Int) (x10 : List Int) (x11 x12 R A K E : Int) (hR : rd x10 x12 = R) (hA : mx R (RowKit.wrap64 (-R)) = A) (hK : mn A (RowKit.wrap64 ((x0.length : Int) - x6)) = K) (hE : RowKit.wrap64 (x6 + K) = E) :
    laws_taken_string.l0 (k + 1) x0 x5 x6 x10 x11 x12 = (if x12 < x11 then (if 0 ≤ x12 then (if x12 < (x10.length : Int) then (if R > 0 then (if 0 ≤ x6 then (if x6 ≤ E then (if E ≤ (x0.length : Int) then (if x5.length + ((x0.take (E : Int).toNat).drop (x6 : Int).toNat).length < 8796093022208 then ((some (x5 ++ ((x0.take (E : Int).toNat).drop (x6 : Int).toNat) : List ByteArray)).bind fun y269 => (if K < A then (some y269) else (laws_taken_string.l0 k x0 y269 E x10 x11 (RowKit.wrap64 (x12 + 1))))) else (none)) else (none)) else (none)) else (none)) else (if K < A then (some x5) else (laws_taken_string.l0 k x0 x5 E x10 x11 (RowKit.wrap64 (x12 + 1))))) else (none)) else (none)) else (some x5)) := by
  subst hR
  subst hA
  subst hK
  subst hE
  rfl
set_option maxHeartbeats 2000000 in
theorem taken_l0 (l : List ByteArray) (hb : l.length ≤ 1000000) (ns : List Int) (hn : ∀ n ∈ ns, n ≠ 0 ∧ -5000 ≤ n ∧ n ≤ 5000) (hnl : ns.length ≤ 1000000) : ∀ (suf pre : List Int) (D : List ByteArray) (p : Nat), pre ++ suf = ns → p ≤ l.length → D.length ≤ p → Ev (fun k => laws_taken_string.l0 k l D (p : Int) ns (ns.length : Int) (pre.length : Int)) (D ++ takesT suf (l.drop p)) := by
  intro suf
  induction suf with
  | nil =>
    intro pre D p h hp hD
    rw [List.append_nil] at h
    subst h
    exact .now fun k => by rw [taken_eq k l D p pre _ _ _ _ _ _ rfl rfl rfl rfl, if_neg (by omega)]; simp [takesT]
  | cons n suf ih =>
    intro pre D p h hp hD
    have hl : pre.length + suf.length + 1 = ns.length := by rw [← h, List.length_append, List.length_cons]; omega
    have hr : rd ns (pre.length : Int) = n := by rw [← h]; exact rd_app pre suf n
    obtain ⟨h0, h1⟩ := hn n (by rw [← h]; simp)
    obtain ⟨a, ha⟩ : ∃ a, a = n.natAbs := ⟨_, rfl⟩
    obtain ⟨K, hK⟩ : ∃ K, K = min a (l.length - p) := ⟨_, rfl⟩
    have hdl : (l.drop p).length = l.length - p := List.length_drop
    have hlt : D.length + ((l.drop p).take a).length < 8796093022208 := by
      rw [List.length_take, hdl]
      exact takenRoom _ _ _ _ hD hp hb
    have hnext := ih (pre ++ [n])
    rw [List.length_append, List.length_singleton] at hnext
    have hKl : K ≤ l.length - p := hK ▸ Nat.min_le_right _ _
    have hcut : (l.take (p + K)).drop p = (l.drop p).take a := by
      rw [List.drop_take, Nat.add_sub_cancel_left, hK]
      by_cases hc : a ≤ l.length - p
      · rw [Nat.min_eq_left hc]
      · rw [Nat.min_eq_right (by omega), List.take_of_length_le (by omega), List.take_of_length_le (by omega)]
    have c1 : (pre.length : Int) < (ns.length : Int) := by clear hlt hnext; omega
    have c2 : (0 : Int) ≤ (pre.length : Int) := Int.natCast_nonneg _
    have c3 : (0 : Int) ≤ (p : Int) := Int.natCast_nonneg _
    have c4 : (p : Int) ≤ ((p + K : Nat) : Int) := Int.ofNat_le.2 (Nat.le_add_right _ _)
    have c5n : p + K ≤ l.length := by clear hlt hnext hcut; omega
    have c5 : ((p + K : Nat) : Int) ≤ (l.length : Int) := Int.ofNat_le.2 c5n
    have hKa : ¬ K < a → p + a = p + K := by clear hlt hnext hcut; omega
    have hDl : (D ++ (l.drop p).take a).length ≤ p + K := by
      rw [List.length_append, List.length_take, hdl, ← hK]
      exact Nat.add_le_add hD (Nat.le_refl _)
    have hDp : D.length ≤ p + K := Nat.le_trans hD (Nat.le_add_right _ _)
    have ek : a ≤ 5000 := by clear hlt hnext hcut; omega
    have e1 := mxabs n h1
    rw [← ha] at e1
    have e2 := takenMn a l.length p hp hb
    rw [← hK] at e2
    have e3 := takenW p K (Nat.le_trans c5n hb)
    have e4 : RowKit.wrap64 ((pre.length : Int) + 1) = ((pre.length + 1 : Nat) : Int) := takenW pre.length 1 (by clear hlt hnext hcut e1 e2 e3; omega)
    have hstep : ∀ k, laws_taken_string.l0 (k + 1) l D (p : Int) ns (ns.length : Int) (pre.length : Int) = _ := fun k => taken_eq k l D p ns ns.length pre.length n a K ((p + K : Nat) : Int) hr e1 e2 e3
    clear e1 e2 e3
    by_cases hpos : n > 0
    · by_cases hs : K < a
      · refine .now fun k => ?_
        rw [hstep k, if_pos c1, if_pos c2, if_pos c1, if_pos hpos, if_pos c3, if_pos c4, if_pos c5, Int.toNat_natCast, Int.toNat_natCast, hcut]
        rw [if_pos hlt, Option.bind_some, if_pos (Int.ofNat_lt.2 hs)]
        have hs' : l.length - p < a := by clear hlt hnext hcut hstep; omega
        rw [takesT, if_pos hpos, ← ha, hdl, if_pos hs', List.append_nil]
      · have hs' : ¬ l.length - p < a := by clear hlt hnext hcut hstep; omega
        refine .step (fun k => ?_) (hnext (D ++ (l.drop p).take a) (p + K) (by rw [List.append_assoc]; exact h) c5n hDl |> fun e => (by
          have : D ++ takesT (n :: suf) (l.drop p) = D ++ (l.drop p).take a ++ takesT suf (l.drop (p + K)) := by
            rw [takesT, if_pos hpos, ← ha, hdl, if_neg hs', List.drop_drop, hKa hs, List.append_assoc]
          rw [this]; exact e))
        rw [hstep k, if_pos c1, if_pos c2, if_pos c1, if_pos hpos, if_pos c3, if_pos c4, if_pos c5, Int.toNat_natCast, Int.toNat_natCast, hcut]
        rw [if_pos hlt, Option.bind_some, if_neg (fun h => hs (Int.ofNat_lt.1 h)), e4]
    · by_cases hs : K < a
      · refine .now fun k => ?_
        rw [hstep k, if_pos c1, if_pos c2, if_pos c1, if_neg hpos, if_pos (Int.ofNat_lt.2 hs)]
        have hs' : l.length - p < a := by clear hlt hnext hcut hstep; omega
        rw [takesT, if_neg hpos, ← ha, hdl, if_pos hs']; simp
      · have hs' : ¬ l.length - p < a := by clear hlt hnext hcut hstep; omega
        refine .step (fun k => ?_) (hnext D (p + K) (by rw [List.append_assoc]; exact h) c5n hDp |> fun e => (by
          have : D ++ takesT (n :: suf) (l.drop p) = D ++ takesT suf (l.drop (p + K)) := by
            rw [takesT, if_neg hpos, ← ha, hdl, if_neg hs', List.drop_drop, hKa hs, List.nil_append]
          rw [this]; exact e))
        rw [hstep k, if_pos c1, if_pos c2, if_pos c1, if_neg hpos, if_neg (fun h => hs (Int.ofNat_lt.1 h)), e4]
theorem taken_ev (l : List ByteArray) (hb : l.length ≤ 1000000) (ns : List Int) (hn : ∀ n ∈ ns, n ≠ 0 ∧ -5000 ≤ n ∧ n ≤ 5000) (hnl : ns.length ≤ 1000000) : Ev (fun k => laws_taken_string.f k l ns) (takesT ns l) := by
  have := taken_l0 l hb ns hn hnl ns [] [] 0 rfl (Nat.zero_le _) (Nat.zero_le _)
  refine .congr (fun k => ?_) (by simpa using this : Ev (fun k => laws_taken_string.l0 k l [] 0 ns (ns.length : Int) 0) (takesT ns l))
  rfl
/-- A place that is of a list. -/
theorem rdOf_app (pre suf : List ByteArray) (x : ByteArray) : rdOf ByteArray.empty (pre ++ x :: suf) (pre.length : Int) = x := by
  unfold rdOf
  rw [Int.toNat_natCast, List.getD_eq_getElem?_getD, List.getElem?_append_right (Nat.le_refl _), Nat.sub_self]; rfl
theorem w64s (n : Nat) (h : n + 1 ≤ 9223372036854775807) : RowKit.wrap64 ((n : Int) + 1) = ((n + 1 : Nat) : Int) := by
  rw [show (n : Int) + 1 = ((n + 1 : Nat) : Int) by push_cast; rfl, w64 _ h]
theorem zz4_l0 (l : List ByteArray) (hb : l.length ≤ 2147483647) : ∀ (suf pre : List ByteArray), pre ++ suf = l → ∃ b, Ev (fun k => laws_zzFits4.l0 k l (l.length : Int) (pre.length : Int)) b := by
  intro suf
  induction suf with
  | nil =>
    intro pre h
    rw [List.append_nil] at h
    subst h
    exact ⟨true, .now fun k => by rw [laws_zzFits4.l0, if_neg (by omega)]⟩
  | cons x suf ih =>
    intro pre h
    have hl : pre.length + suf.length + 1 = l.length := by rw [← h, List.length_append, List.length_cons]; omega
    obtain ⟨b, hb2⟩ := ih (pre ++ [x]) (by rw [List.append_assoc]; exact h)
    rw [List.length_append, List.length_singleton] at hb2
    have hr : rdOf ByteArray.empty l (pre.length : Int) = x := by rw [← h]; exact rdOf_app pre suf x
    by_cases hc : (x.size : Int) > 2147483647
    · exact ⟨false, .now fun k => by rw [laws_zzFits4.l0, if_pos (by omega), if_pos (by omega), if_pos (by omega), hr, if_pos hc]⟩
    · exact ⟨b, .step (fun k => by rw [laws_zzFits4.l0, if_pos (by omega), if_pos (by omega), if_pos (by omega), hr, if_neg hc, w64s _ (by omega)]) hb2⟩
theorem zz4_ev (l : List ByteArray) : ∃ b, Ev (fun k => laws_zzFits4.f k l) b ∧ (b = true → l.length ≤ 2147483647) := by
  by_cases hc : (l.length : Int) > 2147483647
  · exact ⟨false, ⟨0, fun k _ => by dsimp only; unfold laws_zzFits4.f; rw [if_pos hc]⟩, fun h => by cases h⟩
  · obtain ⟨b, hb⟩ := zz4_l0 l (by omega) l [] rfl
    refine ⟨b, .congr (fun k => ?_) hb, fun _ => by omega⟩
    unfold laws_zzFits4.f
    rw [if_neg hc]
    rfl
/-- Sizes in all. -/
def totS (l : List ByteArray) : Nat := (l.map ByteArray.size).sum
theorem totS_app (a b : List ByteArray) : totS (a ++ b) = totS a + totS b := by unfold totS; rw [List.map_append, List.sum_append]
theorem totS_le : ∀ (l : List ByteArray), (∀ s ∈ l, s.size ≤ 4096) → totS l ≤ 4096 * l.length
  | [], _ => Nat.zero_le _
  | s :: l, h => by
    have h1 := totS_le l (fun t ht => h t (List.mem_cons_of_mem _ ht))
    have h2 := h s List.mem_cons_self
    unfold totS at *
    rw [List.map_cons, List.sum_cons, List.length_cons]
    omega
theorem tf_l0 (l : List ByteArray) (hb : l.length ≤ 2147483647) : ∀ (suf pre : List ByteArray), pre ++ suf = l → (∀ s ∈ pre, s.size ≤ 4096) → ∃ b, Ev (fun k => laws_textsFit.l0 k l (totS pre : Int) l (l.length : Int) (pre.length : Int)) b ∧ (b = true → l.length ≤ 2000 ∧ (∀ s ∈ l, s.size ≤ 4096) ∧ totS l ≤ 65536) := by
  intro suf
  induction suf with
  | nil =>
    intro pre h hp
    rw [List.append_nil] at h
    subst h
    by_cases hc : (pre.length : Int) ≤ 2000
    · refine ⟨decide ((totS pre : Int) ≤ 65536), .now fun k => by rw [laws_textsFit.l0, if_neg (by omega), if_pos hc], fun h => ?_⟩
      have := of_decide_eq_true h
      exact ⟨by omega, hp, by omega⟩
    · exact ⟨false, .now fun k => by rw [laws_textsFit.l0, if_neg (by omega), if_neg hc], fun h => by cases h⟩
  | cons x suf ih =>
    intro pre h hp
    have hl : pre.length + suf.length + 1 = l.length := by rw [← h, List.length_append, List.length_cons]; omega
    have hr : rdOf ByteArray.empty l (pre.length : Int) = x := by rw [← h]; exact rdOf_app pre suf x
    by_cases hc : (x.size : Int) > 4096
    · exact ⟨false, .now fun k => by rw [laws_textsFit.l0, if_pos (by omega), if_pos (by omega), if_pos (by omega), hr, if_pos hc], fun h => by cases h⟩
    · obtain ⟨b, hb2, hb3⟩ := ih (pre ++ [x]) (by rw [List.append_assoc]; exact h) (fun s hs => by
        rcases List.mem_append.1 hs with hs | hs
        · exact hp s hs
        · rw [List.mem_singleton.1 hs]; omega)
      rw [List.length_append, List.length_singleton] at hb2
      have htt : totS (pre ++ [x]) = totS pre + x.size := by rw [totS_app]; simp [totS]
      rw [htt] at hb2
      have htl := totS_le pre hp
      refine ⟨b, .step (fun k => ?_) hb2, hb3⟩
      rw [laws_textsFit.l0, if_pos (by omega), if_pos (by omega), if_pos (by omega), hr, if_neg hc, w64s _ (by omega), show (totS pre : Int) + x.size = ((totS pre + x.size : Nat) : Int) by push_cast; rfl, w64 _ (by omega)]
theorem tf_ev (l : List ByteArray) (hb : l.length ≤ 2147483647) : ∃ b, Ev (fun k => laws_textsFit.f k l) b ∧ (b = true → l.length ≤ 2000 ∧ (∀ s ∈ l, s.size ≤ 4096) ∧ totS l ≤ 65536) := by
  obtain ⟨b, h1, h2⟩ := tf_l0 l hb l [] rfl (fun s hs => by simp at hs)
  exact ⟨b, .congr (fun k => rfl) h1, h2⟩
theorem bf_l0 (l : List Int) (hb : l.length ≤ 2147483647) : ∀ (suf pre : List Int), pre ++ suf = l → (∀ n ∈ pre, n ≠ 0 ∧ -5000 ≤ n ∧ n ≤ 5000) → ∃ b, Ev (fun k => laws_batchesFit.l0 k l l (l.length : Int) (pre.length : Int)) b ∧ (b = true → l.length ≤ 50 ∧ ∀ n ∈ l, n ≠ 0 ∧ -5000 ≤ n ∧ n ≤ 5000) := by
  intro suf
  induction suf with
  | nil =>
    intro pre h hp
    rw [List.append_nil] at h
    subst h
    refine ⟨decide ((pre.length : Int) ≤ 50), .now fun k => by rw [laws_batchesFit.l0, if_neg (by omega)], fun h => ?_⟩
    have := of_decide_eq_true h
    exact ⟨by omega, hp⟩
  | cons x suf ih =>
    intro pre h hp
    have hl : pre.length + suf.length + 1 = l.length := by rw [← h, List.length_append, List.length_cons]; omega
    have hr : rd l (pre.length : Int) = x := by rw [← h]; exact rd_app pre suf x
    by_cases c1 : x = 0
    · exact ⟨false, .now fun k => by rw [laws_batchesFit.l0, if_pos (by omega), if_pos (by omega), if_pos (by omega), hr, if_pos c1], fun h => by cases h⟩
    · by_cases c2 : x < -5000
      · exact ⟨false, .now fun k => by rw [laws_batchesFit.l0, if_pos (by omega), if_pos (by omega), if_pos (by omega), hr, if_neg c1, if_pos c2], fun h => by cases h⟩
      · by_cases c3 : x > 5000
        · exact ⟨false, .now fun k => by rw [laws_batchesFit.l0, if_pos (by omega), if_pos (by omega), if_pos (by omega), hr, if_neg c1, if_neg c2, if_pos c3], fun h => by cases h⟩
        · obtain ⟨b, hb2, hb3⟩ := ih (pre ++ [x]) (by rw [List.append_assoc]; exact h) (fun s hs => by
            rcases List.mem_append.1 hs with hs | hs
            · exact hp s hs
            · rw [List.mem_singleton.1 hs]; omega)
          rw [List.length_append, List.length_singleton] at hb2
          refine ⟨b, .step (fun k => ?_) hb2, hb3⟩
          rw [laws_batchesFit.l0, if_pos (by omega), if_pos (by omega), if_pos (by omega), hr, if_neg c1, if_neg c2, if_neg c3, w64s _ (by omega)]
theorem bf_ev (l : List Int) (hb : l.length ≤ 2147483647) : ∃ b, Ev (fun k => laws_batchesFit.f k l) b ∧ (b = true → l.length ≤ 50 ∧ ∀ n ∈ l, n ≠ 0 ∧ -5000 ≤ n ∧ n ≤ 5000) := by
  obtain ⟨b, h1, h2⟩ := bf_l0 l hb l [] rfl (fun s hs => by simp at hs)
  exact ⟨b, .congr (fun k => rfl) h1, h2⟩
end Go.Proofs.YtaageikelkcphaaGreatDoor
