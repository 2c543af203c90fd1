/- Part 4 of the proof: the texts F2, AO, FN, PA, PB, PC, PD, BM, joined. What each proves stands ahead of it. -/
import Derived.Test.YtflgbndhahcdnaaGreatDoorKC
import Derived.Lib.Zigzag
import Derived.Test.YtflgbndhahcdnaaGreatDoorKA
import Derived.Laws.AppendOwn
import Derived.Laws.AppendOwnNone
import Derived.Test.YtflgbndhahcdnaaGreatDoorPFnBoolsReadx
import Derived.Test.YtflgbndhahcdnaaGreatDoorKB
import Derived.Laws.BitsLemmas
import Derived.Lib.EndianBits
set_option linter.unusedVariables false
set_option linter.unusedSimpArgs false
/- A number by sevens. -/
namespace Go.Proofs.YtflgbndhahcdnaaGreatDoor
open Go Go.RowKit
theorem leb_join (a b s : Nat) (ha : a < 2 ^ s) (hs : s ≤ 63) (hb : 2 ^ s * b < 2 ^ 64) : bits .or .u64 (a : Int) (IntKind.u64.wrap ((b : Nat) * 2 ^ s)) = (a + 2 ^ s * b : Nat) := by
  have h5 : (2 : Nat) ^ s ≤ 2 ^ 64 := Nat.pow_le_pow_right (by decide) (by omega)
  have e5 : ((b : Nat) : Int) * 2 ^ s = ((2 ^ s * b : Nat) : Int) := by rw [Nat.mul_comm]; norm_cast
  rw [e5, wrap64 _ (by omega) (by exact_mod_cast hb)]
  rw [bits_join_low .u64 64 (by decide) wraps_u64 s a _ (by omega) (by exact_mod_cast ha) (by exact_mod_cast Nat.lt_of_lt_of_le ha h5) (by omega) (by exact_mod_cast Nat.mul_mod_right _ _) (by exact_mod_cast hb)]
  omega
theorem nil_ReadByte (a : Addr) (w : World) : (nilAhead 288 88 (.pointer (some a)) "ReadByte").run Tryz.prog w = .ok (some false) w := by kernel_rfl
theorem method_ReadByte (a : Addr) (w : World) : (method 288 88 (.pointer (some a)) "ReadByte").run Tryz.prog w = .ok (147, .pointer (some a)) w := by kernel_rfl
/-- What is known behind i bytes. -/
def Uvs (c : RC) (q : Nat) (w wr : World) (i : Nat) : Prop := Chg (Own c.B) w wr ∧ ∃ o f, o + (f + 7) / 8 = q + i ∧ RS c wr o f
set_option maxRecDepth 100000 in
set_option maxHeartbeats 1000000 in
theorem uvarint_ok (c : RC) (o f k v : Nat) (w : World) (h : RS c w o f) (hk : Leb c.D (o + (f + 7) / 8) k v) (ho : o + (f + 7) / 8 + k ≤ c.L) :
    Calls Tryz.prog 69 #[.iface 88 (.pointer (some ⟨c.B, 0, none⟩))] w fun e w' =>
      e = .returned (.tuple #[.int .u64 v, .nilIface]) ∧ Chg (Own c.B) w w' ∧ NS c w' (o + (f + 7) / 8 + k) 0 := by
  have h0 : Uvs c (o + (f + 7) / 8) w w 0 := ⟨Chg.refl _ _, o, f, rfl, h⟩
  generalize o + (f + 7) / 8 = q at *
  clear h
  have H0 := Lib.hid h0; clear h0
  have Hk := Lib.hid hk; clear hk
  have Hn := nil_ReadByte
  have Hm := method_ReadByte
  go_enter Tryz.func69, Tryz.ntmps69
  go_wp2_with fail
  go_loopw [4, 5, 6] (fun x s i wr => ∃ n : Nat, n < k ∧ x = .int .u64 (lebV c.D q n) ∧ s = .int .u64 (7 * n : Nat) ∧ i = .int .i64 n ∧ Uvs c q w wr n) (fun _ _ i _ => 10 - (intOf i).toNat)
  case atStart => exact ⟨0, by have := Hk.out.k1; omega, rfl, rfl, rfl, H0.out⟩
  case round =>
    obtain ⟨n, hn, rfl, rfl, rfl, hu⟩ := hrel
    obtain ⟨hc, o1, f1, hof, hR⟩ := hu
    have hn10 : n < 10 := by have := Hk.out.k10; omega
    have hcall := readByte_ok c o1 f1 wr hR (by omega)
    rw [hof] at hcall
    have Hcall := Lib.hid hcall; clear hcall
    have Hc := Lib.hid hc; clear hc
    have Hof := Lib.hid hof; clear hof
    have HR := Lib.hid hR; clear hR
    have hb := HR.out.env.data.lt (q + n)
    obtain ⟨b, hbb⟩ : ∃ b, b = c.D (q + n) := ⟨_, rfl⟩
    rw [← hbb] at hb Hcall
    have Hbb := Lib.hid hbb; clear hbb
    obtain ⟨x, hx⟩ : ∃ x, x = lebV c.D q n := ⟨_, rfl⟩
    rw [← hx]
    have Hx := Lib.hid hx; clear hx
    obtain ⟨s, hs⟩ : ∃ s, s = 7 * n := ⟨_, rfl⟩
    rw [← hs]
    have hs63 : s ≤ 63 := by omega
    have Hs := Lib.hid hs; clear hs
    go_wp2_with fail
    refine Hcall.out.mono ?_
    rintro e w1 ⟨rfl, h1, h2⟩
    have H1 := Lib.hid (Hc.out.trans h1); clear h1
    have H2 := Lib.hid h2; clear h2
    clear Hcall
    have Hlt := Lib.hid (lebV_lt c.D q n)
    by_cases hb1 : b < 128
    · have hkn : k = n + 1 := by
        by_cases hh : n + 1 < k
        · have := Hk.out.more n hh; have := Hbb.out; omega
        · omega
      have ej : bits .or .u64 (x : Int) (IntKind.u64.wrap ((b : Nat) * 2 ^ s)) = (v : Nat) := by
        have h5 := Hk.out.val
        have h6 := Hk.out.lt
        have h7 := Hlt.out
        rw [hkn, lebV, ← Hbb.out, Nat.mod_eq_of_lt hb1, ← Hs.out, ← Hx.out] at h5
        rw [← Hs.out, ← Hx.out] at h7
        rw [leb_join x b s h7 hs63 (by omega), h5]
      have Hej := Lib.hid ej; clear ej
      have Hkn := Lib.hid hkn; clear hkn
      by_cases h9 : n = 9
      · have ht : b ≤ 1 := by
          have h8 := Hk.out
          rw [Hkn.out, h9] at h8
          have := h8.top
          have := Hbb.out
          rw [h9] at this
          omega
        subst h9
        go_wp2_with fail
        go_ret2
        exact ⟨ret_two Hej.out, H1.out, by rw [Hkn.out]; exact H2.out⟩
      · have h9' : ¬ (n : Int) = 9 := by omega
        go_wp2_with fail
        go_ret2
        exact ⟨ret_two Hej.out, H1.out, by rw [Hkn.out]; exact H2.out⟩
    · have hkn : n + 1 < k := by
        apply Decidable.byContradiction
        intro hh
        have h3 := Hk.out.last
        have h4 := Hbb.out
        rw [show q + k - 1 = q + n by omega] at h3
        omega
      have ej : bits .or .u64 (x : Int) (IntKind.u64.wrap ((b % 128 : Nat) * 2 ^ s)) = (lebV c.D q (n + 1) : Nat) := by
        have h7 := Hlt.out
        have h8 := Hk.out.k10
        have h10 : 2 ^ s * (b % 128) < 2 ^ 64 := by
          have h11 : (2 : Nat) ^ s * (b % 128) ≤ 2 ^ s * 127 := Nat.mul_le_mul_left _ (by omega)
          have h12 : (2 : Nat) ^ s ≤ 2 ^ 56 := Nat.pow_le_pow_right (by decide) (by have := Hs.out; omega)
          omega
        rw [lebV, ← Hbb.out, ← Hs.out, ← Hx.out]
        rw [← Hs.out, ← Hx.out] at h7
        rw [leb_join x _ s h7 hs63 h10]
      have Hej := Lib.hid ej; clear ej
      go_wp2_with fail
      go_roundw
      case rel =>
        have e1 : bits .and .u8 (b : Int) 127 = (b % 128 : Nat) := by
          have := bits_mask .u8 8 (by decide) wraps_u8 7 (by decide) b (by omega) (by show (b : Int) < 256; omega)
          rw [show ((127 : Int)) = 2 ^ 7 - 1 by decide, this]
          show (b : Int) % 128 = _
          omega
        have e2 : IntKind.u64.wrap ((b % 128 : Nat) : Int) = (b % 128 : Nat) := wrap64 _ (by omega) (by show ((b % 128 : Nat) : Int) < 18446744073709551616; omega)
        refine ⟨n + 1, hkn, ?_, ?_, rfl, H1.out, q + n + 1, 0, by omega, H2.out.rs⟩
        · rw [e1, e2, Hej.out]
        · have := Hs.out
          rw [show (s : Int) + 7 = (7 * (n + 1) : Nat) by omega]
      case measure => simp [intOf]; omega
set_option maxRecDepth 100000 in
set_option maxHeartbeats 1000000 in
theorem getVlq_ok (c : RC) (o f k v : Nat) (w : World) (h : RS c w o f) (hk : Leb c.D (o + (f + 7) / 8) k v) (ho : o + (f + 7) / 8 + k ≤ c.L) :
    Calls Tryz.prog 53 #[.pointer (some ⟨c.B, 0, none⟩)] w fun e w' =>
      e = .returned (.tuple #[.int .u64 v, .bool true]) ∧ Chg (Own c.B) w w' ∧ NS c w' (o + (f + 7) / 8 + k) 0 := by
  have H := Lib.hid (uvarint_ok c o f k v w h hk ho)
  clear h hk ho
  go_enter Tryz.func53, Tryz.ntmps53
  go_wp2_with fail
  refine H.out.mono ?_
  rintro e w1 ⟨rfl, h1, h2⟩
  have H1 := Lib.hid h1; clear h1
  have H2 := Lib.hid h2; clear h2
  go_wp2_with fail
  go_ret2
  exact ⟨rfl, H1.out, H2.out⟩
/-- The number whose zigzag is v. -/
def unzig (v : Nat) : Int := if v % 2 = 0 then ((v / 2 : Nat) : Int) else -((v / 2 : Nat) : Int) - 1
theorem i64_xor_ones (x : Nat) (hx : x < 9223372036854775808) : bits .xor .i64 (x : Int) (-1) = -(x : Int) - 1 := by
  rw [← Lib.i64_not x hx]
  show IntKind.i64.wrap ((BitVec.ofInt 64 (x : Int) ^^^ BitVec.ofInt 64 (-1)).toNat : Int) = _
  rw [BitVec.xor_comm]
  rfl
theorem i64_xor_zero (x : Nat) (hx : x < 9223372036854775808) : bits .xor .i64 (x : Int) 0 = x := by
  show IntKind.i64.wrap ((BitVec.ofInt 64 (x : Int) ^^^ BitVec.ofInt 64 0).toNat : Int) = _
  have h2 : (BitVec.ofInt 64 (x : Int)).toNat = x := by
    rw [BitVec.ofInt_natCast, BitVec.toNat_ofNat]; exact Nat.mod_eq_of_lt (by omega)
  rw [BitVec.toNat_xor, h2, show (BitVec.ofInt 64 0).toNat = 0 by decide, Nat.xor_zero, IntKind.wrap_i64]
  omega
theorem unzig_is (v : Nat) (hv : v < 2 ^ 64) : bits .xor .i64 (RowKit.wrap64 ((v : Int) / 2)) (RowKit.wrap64 (-RowKit.wrap64 (bits .and .u64 (v : Int) 1))) = unzig v := by
  rw [Lib.u64_and1 v (by omega) (by omega)]
  have e1 : RowKit.wrap64 ((v : Int) / 2) = (v / 2 : Nat) := by unfold RowKit.wrap64; omega
  rw [e1]
  unfold unzig
  split
  · rename_i h
    rw [show RowKit.wrap64 (-RowKit.wrap64 ((v : Int) % 2)) = 0 by unfold RowKit.wrap64; omega]
    exact i64_xor_zero _ (by omega)
  · rename_i h
    rw [show RowKit.wrap64 (-RowKit.wrap64 ((v : Int) % 2)) = -1 by unfold RowKit.wrap64; omega]
    exact i64_xor_ones _ (by omega)
set_option maxRecDepth 100000 in
set_option maxHeartbeats 1000000 in
theorem newBits_ok (rb ro : Nat) (w : World) :
    Calls Tryz.prog 43 #[.iface 71 (.pointer (some ⟨rb, ro, none⟩))] w fun e w' => e = .returned (.pointer (some ⟨w.heap.size, 0, none⟩)) ∧ Chg Nix w w' ∧ w.heap.size < w'.heap.size ∧ BR w' w.heap.size rb ro 0 0 0 0 := by
  go_enter Tryz.func43, Tryz.ntmps43
  go_wp2_with fail
  go_ret
  have hz : Tryz.zeroCells106.size = 1037 := by kernel_rfl
  have h1 : Tryz.zeroCells106[1]? = some (.int .u64 0) := by kernel_rfl
  have h2 : Tryz.zeroCells106[2]? = some (.int .i64 0) := by kernel_rfl
  have h3 : Tryz.zeroCells106[3]? = some (.int .u64 0) := by kernel_rfl
  have h4 : Tryz.zeroCells106[4]? = some (.int .u64 0) := by kernel_rfl
  generalize Tryz.zeroCells106 = Z at *
  refine ⟨rfl, Chg.new _ _, by simp, ⟨?_, ?_, ?_, ?_, ?_, ?_, ?_, ?_⟩⟩
  · rw [World.cell?_alloc_new]; simp [hz]
  · rw [World.cell?_alloc_new]; simp [h1]
  · rw [World.cell?_alloc_new]; simp [h2]
  · rw [World.cell?_alloc_new]; simp [h3]
  · rw [World.cell?_alloc_new]; simp [h4]
  · intro j hj
    rw [World.cell?_alloc_new]
    exact ⟨_, Array.getElem?_eq_getElem (by simp [hz]; omega)⟩
  · intro j hj
    rw [World.cell?_alloc_new]
    exact ⟨_, Array.getElem?_eq_getElem (by simp [hz]; omega)⟩
  · intro j hj; simp
end Go.Proofs.YtflgbndhahcdnaaGreatDoor
/- Appends to a row of one's own, with all that stays told. Over any program. -/
namespace Go.Proofs.YtflgbndhahcdnaaGreatDoor
open Go Go.RowKit
section
variable {P : Program}
/-- xs are v's cells, one each, in a block from base on. -/
def Own1 (w : World) (base : Nat) (e : TypeId) (v : Value) (xs : List Value) : Prop := w.ownsRow base e 1 v xs.length xs
theorem Own1.nil (w : World) (base : Nat) (e : TypeId) : Own1 w base e (.slice none 0 0) [] := World.ownsRow_nil w base e 1
theorem Own1.keep {w w' : World} {base : Nat} {e : TypeId} {v : Value} {xs : List Value} (h : Own1 w base e v xs) {S : Nat → Nat → Prop} (hc : Chg S w w') (hS : ∀ g, base ≤ g → ∀ o, ¬ S g o) : Own1 w' base e v xs := by
  refine ⟨h.1, ?_⟩
  rcases h.2 with hn | ⟨g, cap, cur, hv, hb, hg, rest⟩
  · exact .inl hn
  · exact .inr ⟨g, cap, cur, hv, hb, (hc.block g (Array.getElem?_eq_some_iff.1 hg).1 (hS g hb)).trans hg, rest⟩
theorem Own1.keepAt {w w' : World} {base : Nat} {e : TypeId} {v : Value} {xs : List Value} (h : Own1 w base e v xs) {S : Nat → Nat → Prop} (hc : Chg S w w') (hS : ∀ g, v.ownBlock = some g → ∀ o, ¬ S g o) : Own1 w' base e v xs := by
  refine ⟨h.1, ?_⟩
  rcases h.2 with hn | ⟨g, cap, cur, rfl, hb, hg, rest⟩
  · exact .inl hn
  · exact .inr ⟨g, cap, cur, rfl, hb, (hc.block g (Array.getElem?_eq_some_iff.1 hg).1 (hS g rfl)).trans hg, rest⟩
theorem Own1.lt {w : World} {base : Nat} {e : TypeId} {v : Value} {xs : List Value} (h : Own1 w base e v xs) (g : Nat) (hg : v.ownBlock = some g) : base ≤ g ∧ g < w.heap.size := World.ownsRow.lt h g hg
/-- A slice that reads as a list of values. -/
def Reads (w : World) (v : Value) (xs : List Value) : Prop := ∃ p c, v = .slice p xs.length c ∧ (xs = [] ∨ ∃ g o, p = some ⟨g, o, none⟩ ∧ ∀ j u, xs[j]? = some u → w.cell? ⟨g, o + j, none⟩ = some u)
theorem Own1.reads {w : World} {base : Nat} {e : TypeId} {v : Value} {xs : List Value} (h : Own1 w base e v xs) : Reads w v xs := by
  rcases h.2 with ⟨rfl, hn⟩ | ⟨g, cap, cur, rfl, hb, hg, rest⟩
  · exact ⟨none, 0, by rw [hn], .inl (List.eq_nil_of_length_eq_zero hn)⟩
  · refine ⟨_, cap, rfl, .inr ⟨g, 0, rfl, fun j u hu => ?_⟩⟩
    have := World.ownsRow.cells h (g := g) rfl j u hu
    rwa [addr_add] at this
theorem chg_setRow {w : World} {g : Nat} {old : Array Value} {e : TypeId} (cs : Array Value) (hg : w.heap[g]? = some (.cells old e (0, 0))) : Chg (fun k _ => k = g) w (w.setRow g cs) := by
  refine ⟨rfl, rfl, rfl, by simp [World.setRow], fun k _ hn => setRow_other w g k cs (fun e => hn 0 e), fun k o _ hn => cell_setRow_other w g cs ⟨k, o, none⟩ hn, fun k o hk => ?_⟩
  unfold World.frozen?
  by_cases hkg : k = g
  · subst hkg
    simp only [setRow_heap w k old cs e (0, 0) hg, hg]
  · simp only [setRow_other w g k cs hkg]
theorem run_append_chg (w : World) (base : Nat) (t ty e : TypeId) (i : TypeInfo) (z : Value) (bytes : Nat) (ht : P.underlying t = some (.slice e)) (hi : P.info? e = some i) (hz : i.zero = some z)
    (hsize : i.size = 1) (hby : i.bytes = bytes) (hzs : z.cells.size = 1)
    (v : Value) (xs : List Value) (hown : Own1 w base e v xs)
    (x : Value) (news : List Value) (hx : Reads w x news) (h1 : ∀ u ∈ news, u.oneCell' = true)
    (h63 : xs.length + news.length ≤ maxLen) (hbytes : (xs.length + news.length) * bytes ≤ 140737488355328) (hbase : base ≤ w.heap.size) :
    ∃ v' w', (Builtin.append_ #[t, t] ty #[v, x]).run P w = .ok v' w' ∧ Own1 w' base e v' (xs ++ news) ∧ Chg (fun k _ => v.ownBlock = some k) w w' := by
  obtain ⟨p, c, rfl, hp⟩ := hx
  by_cases hnil : news = []
  · subst hnil
    rw [List.append_nil]
    refine ⟨v, w, ?_, hown, Chg.refl _ _⟩
    rcases hown.2 with ⟨rfl, hn⟩ | ⟨g, cap, cur, rfl, hbg, hg, hnc, hcm, hcs, htake⟩
    · simp [Builtin.append_, run_underlying ht, sizeOf, typeInfo, hi, Builtin.lenOf, Builtin.firstCells, loadCells, loadCellsFrom]
      cases p <;> simp [loadCells, loadCellsFrom]
    · simp [Builtin.append_, run_underlying ht, sizeOf, typeInfo, hi, Builtin.lenOf, Builtin.firstCells, loadCells, loadCellsFrom, hnc]
      cases p <;> simp [loadCells, loadCellsFrom, storeCells]
  obtain ⟨ag, ao, rfl, hcell⟩ := hp.resolve_left hnil
  have hnews : ∀ j u, news[j]? = some u → w.cell? ((⟨ag, ao, none⟩ : Addr).add j) = some u := fun j u hu => by rw [addr_add]; exact hcell j u hu
  have hm0 : 0 < news.length := List.length_pos_iff.2 hnil
  subst hby
  have hl : news.length = news.length * i.size := by rw [hsize, Nat.mul_one]
  have hsmall : xs.length + news.length ≤ 9223372036854775807 := by simp only [maxLen] at h63; omega
  have hlen : (xs ++ news).length = (xs.length + news.length) * 1 := by rw [List.length_append, Nat.mul_one]
  have hlen1 : (xs ++ news).length = xs.length + news.length := List.length_append
  have hxl : xs.length = xs.length * i.size := by rw [hsize, Nat.mul_one]
  have grown : ∀ (old : Nat), old < xs.length + news.length →
      Own1 (w.drew.alloc (.cells (xs.toArray ++ news.toArray ++ Builtin.zeroCells z.cells (grownCap w (xs.length + news.length) old e - (xs.length + news.length))) e)) base e
        (.slice (some ⟨w.heap.size, 0, none⟩) (xs.length + news.length) (grownCap w (xs.length + news.length) old e)) (xs ++ news) := by
    intro old ho
    have hge := grownCap_ge w (xs.length + news.length) old e
    have hcm : grownCap w (xs.length + news.length) old e ≤ maxLen := grownCap_le_maxLen w _ old e h63
    unfold Own1
    rw [hlen1]
    refine ⟨hlen, .inr ⟨w.heap.size, _, _, rfl, hbase, heap_alloc_new w.drew _, hge, hcm, ?_, ?_⟩⟩
    · simp only [Array.size_append, List.size_toArray, size_zeroCells, hzs]
      omega
    · simp only [Array.toList_append, List.append_assoc]
      rw [← List.append_assoc, ← hlen]
      exact List.take_left
  rcases hown.2 with ⟨rfl, hn⟩ | ⟨g, cap, cur, rfl, hbg, hg, hnc, hcm, hcs, htake⟩
  · have hxn : xs = [] := List.eq_nil_of_length_eq_zero hn
    subst hxn
    have hr := run_append_nil (P := P) w t ty e i z ht hi hz ⟨ag, ao, none⟩ news.length c news hl hnews (by omega) (by have := hsmall; simp at this; omega) (by have hb := hbytes; simpa using Nat.le_trans hb (by decide))
    have hgr := grown 0 (by simp; omega)
    simp only [List.length_nil, Nat.zero_add, List.nil_append, Array.empty_append] at hgr ⊢
    exact ⟨_, _, hr, hgr, ((Chg.refl _ _).drew).alloc _⟩
  · by_cases hroom : xs.length + news.length ≤ cap
    · have hfit : xs.length * i.size + news.length ≤ cur.size := by rw [hsize, hcs]; omega
      have hr := run_append_room (P := P) w t ty e i ht hi g xs.length cap cur hg ⟨ag, ao, none⟩ news.length c news hl hnews h1 hroom hfit
      rw [hsize, Nat.mul_one] at hr
      rw [Nat.mul_one] at htake
      refine ⟨_, _, hr, ?_, (chg_setRow _ hg).mono (fun k _ _ hk => by rw [hk]; rfl)⟩
      unfold Own1
      rw [hlen1]
      refine ⟨hlen, .inr ⟨g, cap, _, rfl, hbg, setRow_heap w g cur _ e _ hg, hroom, hcm, ?_, ?_⟩⟩
      · simp only [List.size_toArray, List.length_append, List.length_take, List.length_drop, Array.length_toList]
        omega
      · rw [htake, Nat.mul_one, ← hlen1]
        exact List.take_left
    · have holds : ∀ j u, xs[j]? = some u → w.cell? ((⟨g, 0, none⟩ : Addr).add j) = some u := World.ownsRow.cells hown (g := g) rfl
      have hr := run_append_grow (P := P) w t ty e i z ht hi hz ⟨g, 0, none⟩ xs.length cap xs hxl holds ⟨ag, ao, none⟩ news.length c news hl hnews (by omega) (by omega) (growslice_fits (by omega) hbytes)
      exact ⟨_, _, hr, grown cap (by omega), ((Chg.refl _ _).drew).alloc _⟩
theorem wp_append_chg (w : World) {o : Oper} {a : Act} {K : Act → World → Prop} {Q : Exit → Act → World → Prop} (s x : Operand) (t : TypeId)
    (ho : o.op = .call { callee := .builtin .append, args := #[s, x], argTypes := #[t, t] })
    (base : Nat) (e : TypeId) (i : TypeInfo) (z : Value) (bytes : Nat) (ht : P.underlying t = some (.slice e)) (hi : P.info? e = some i) (hz : i.zero = some z)
    (hsize : i.size = 1) (hby : i.bytes = bytes) (hzs : z.cells.size = 1)
    (v : Value) (xs : List Value) (hs : a.eval s = v) (hown : Own1 w base e v xs)
    (y : Value) (news : List Value) (hx : a.eval x = y) (hy : Reads w y news) (h1 : ∀ u ∈ news, u.oneCell' = true)
    (h63 : xs.length + news.length ≤ maxLen) (hbytes : (xs.length + news.length) * bytes ≤ 140737488355328) (hbase : base ≤ w.heap.size)
    (h : ∀ v' w', Own1 w' base e v' (xs ++ news) → Chg (fun k _ => v.ownBlock = some k) w w' → K (a.put o.dst v') w') : o.wp P a w K Q := by
  obtain ⟨v', w', hr, h2, h3⟩ := run_append_chg (P := P) w base t o.type e i z bytes ht hi hz hsize hby hzs v xs hown y news hy h1 h63 hbytes hbase
  unfold Oper.wp execOp
  simp only [ho, resolve, invoke, builtin, Sem.run_bind, Sem.run_pure, Result.andThen_ok, List.map_toArray, List.map_cons, List.map_nil, hs, hx, hr]
  exact h v' w' h2 h3
theorem wpList_append_chg {w : World} {ops : Array Oper} {rest : List Oper} {o : Oper} {a : Act} {Q : Exit → Act → World → Prop} (hgd : o.guard = none) (s x : Operand) (t : TypeId)
    (ho : o.op = .call { callee := .builtin .append, args := #[s, x], argTypes := #[t, t] })
    (base : Nat) (e : TypeId) (i : TypeInfo) (z : Value) (bytes : Nat) (ht : P.underlying t = some (.slice e)) (hi : P.info? e = some i) (hz : i.zero = some z)
    (hsize : i.size = 1) (hby : i.bytes = bytes) (hzs : z.cells.size = 1)
    (v : Value) (xs : List Value) (hs : a.eval s = v) (hown : Own1 w base e v xs)
    (y : Value) (news : List Value) (hx : a.eval x = y) (hy : Reads w y news) (h1 : ∀ u ∈ news, u.oneCell' = true)
    (h63 : xs.length + news.length ≤ maxLen) (hbytes : (xs.length + news.length) * bytes ≤ 140737488355328) (hbase : base ≤ w.heap.size)
    (h : ∀ v' w', Own1 w' base e v' (xs ++ news) → Chg (fun k _ => v.ownBlock = some k) w w' → wpList P ops Q rest (a.put o.dst v') w') : wpList P ops Q (o :: rest) a w :=
  wpList_plain hgd fun _ hK => wp_append_chg w s x t ho base e i z bytes ht hi hz hsize hby hzs v xs hs hown y news hx hy h1 h63 hbytes hbase fun v' w' h2 h3 => hK _ _ (h v' w' h2 h3)
end
end Go.Proofs.YtflgbndhahcdnaaGreatDoor
/- A new reader of runs; what batches take. -/
namespace Go.Proofs.YtflgbndhahcdnaaGreatDoor
open Go Go.RowKit
/-- A reader of runs, at its beginning. -/
structure RD0 (W R B rb : Nat) (w : World) : Prop where
  br : BR w B rb 0 0 0 0 0
  p : w.cell? ⟨R, 0, none⟩ = some (.pointer (some ⟨B, 0, none⟩))
  wi : w.cell? ⟨R, 1, none⟩ = some (.int .i64 W)
  cu : w.cell? ⟨R, 2, none⟩ = some (.int .u64 (0 : Nat))
  re : w.cell? ⟨R, 3, none⟩ = some (.int .i32 (0 : Nat))
  li : w.cell? ⟨R, 4, none⟩ = some (.int .i32 (0 : Nat))
  fr : ∀ j, j < 5 → w.frozen? ⟨R, j, none⟩ = false
set_option maxRecDepth 100000 in
set_option maxHeartbeats 1000000 in
theorem newRle_ok (rb W : Nat) (w : World) :
    Calls Tryz.prog 31 #[.pointer (some ⟨rb, 0, none⟩), .int .i64 W] w fun e w' => ∃ R, e = .returned (.pointer (some ⟨R, 0, none⟩)) ∧ w.heap.size < R ∧ R < w'.heap.size ∧ Chg Nix w w' ∧ RD0 W R w.heap.size rb w' := by
  have Hcall := Lib.hid (newBits_ok rb 0 w)
  go_enter Tryz.func31, Tryz.ntmps31
  go_wp2_with fail
  refine Hcall.out.mono ?_
  rintro e w1 ⟨rfl, hc, hl, hb⟩
  have Hc := Lib.hid hc
  have Hb := Lib.hid hb
  clear hc hb
  go_wp2_with fail
  go_ret
  refine ⟨_, rfl, hl, by simp, Hc.out.alloc _, ⟨Hb.out.keep (Chg.new _ _) (fun _ h => h), by simp, by simp, by simp, by simp, by simp, fun j hj => by simp⟩⟩
/-- What the batches take, and that there is enough. -/
def takes : List Int → List Nat → List Nat
  | [], _ => []
  | n :: ns, vs => (if n < 0 then [] else vs.take n.natAbs) ++ takes ns (vs.drop n.natAbs)
def Fits : List Int → List Nat → Prop
  | [], _ => True
  | n :: ns, vs => n.natAbs ≤ vs.length ∧ n.natAbs ≤ 1000000 ∧ Fits ns (vs.drop n.natAbs)
/-- A slice that reads as a list of values, with room for them. -/
def Reads2 (w : World) (v : Value) (xs : List Value) : Prop := ∃ p c, v = .slice p xs.length c ∧ xs.length ≤ c ∧ (xs = [] ∨ ∃ g o, p = some ⟨g, o, none⟩ ∧ ∀ j u, xs[j]? = some u → w.cell? ⟨g, o + j, none⟩ = some u)
theorem Own1.reads2 {w : World} {base : Nat} {e : TypeId} {v : Value} {xs : List Value} (h : Own1 w base e v xs) : Reads2 w v xs := by
  have h1 := h
  rcases h.2 with ⟨rfl, hn⟩ | ⟨g, cap, cur, rfl, hb, hg, hnc, hcm, rest⟩
  · exact ⟨none, 0, by rw [hn], by omega, .inl (List.eq_nil_of_length_eq_zero hn)⟩
  · refine ⟨_, cap, rfl, hnc, .inr ⟨g, 0, rfl, fun j u hu => ?_⟩⟩
    have := World.ownsRow.cells h1 (g := g) rfl j u hu
    rwa [addr_add] at this
end Go.Proofs.YtflgbndhahcdnaaGreatDoor
/- The plain law: what an evaluation with enough fuel gives; the sizes; the same words; the batches. -/
namespace Go.Proofs.YtflgbndhahcdnaaGreatDoor
open Go Go.RowKit Go.Proofs.YtflgbndhahcdnaaGreatDoor.PFnBoolsRead Go.Proofs.YtflgbndhahcdnaaGreatDoorW.PrintWords
/-- From some fuel on. -/
def Ev {α : Type} (F : Nat → Option α) (r : α) : Prop := ∃ k0, ∀ k, k0 ≤ k → F k = some r
theorem Ev.step {α : Type} {F G : Nat → Option α} {r : α} (h : ∀ k, F (k + 1) = G k) (hg : Ev G r) : Ev F r := by
  obtain ⟨k0, hk⟩ := hg
  refine ⟨k0 + 1, fun k hk1 => ?_⟩
  obtain ⟨m, rfl⟩ : ∃ m, k = m + 1 := ⟨k - 1, by omega⟩
  rw [h]; exact hk m (by omega)
theorem Ev.now {α : Type} {F : Nat → Option α} {r : α} (h : ∀ k, F (k + 1) = some r) : Ev F r :=
  ⟨1, fun k hk1 => by obtain ⟨m, rfl⟩ : ∃ m, k = m + 1 := ⟨k - 1, by omega⟩; exact h m⟩
theorem Ev.const {α : Type} {r : α} : Ev (fun _ => some r) r := ⟨0, fun _ _ => rfl⟩
theorem Ev.get {α : Type} {F : Nat → Option α} {r : α} (h : Ev F r) : ∃ k, F k = some r := ⟨_, h.choose_spec _ (Nat.le_refl _)⟩
theorem Ev.bind {α β : Type} {F : Nat → Option α} {a : α} {G : Nat → α → Option β} {b : β} (h : Ev F a) (hg : Ev (fun k => G k a) b) : Ev (fun k => (F k).bind (G k)) b := by
  obtain ⟨k0, h0⟩ := h
  obtain ⟨k1, h1⟩ := hg
  exact ⟨k0 + k1, fun k hk => by show (F k).bind (G k) = _; rw [h0 k (by omega)]; exact h1 k (by omega)⟩
theorem Ev.congr {α : Type} {F G : Nat → Option α} {r : α} (h : ∀ k, F k = G k) (hg : Ev G r) : Ev F r := by
  obtain ⟨k0, hk⟩ := hg
  exact ⟨k0, fun k hk1 => (h k).trans (hk k hk1)⟩
theorem w64 (n : Nat) (h : n ≤ 9223372036854775807) : RowKit.wrap64 (n : Int) = n := IntWalk.wrap64_in _ (by omega)
theorem rd_app (pre suf : List Int) (x : Int) : rd (pre ++ x :: suf) (pre.length : Int) = x := by
  unfold rd
  rw [Int.toNat_natCast, List.getD_eq_getElem?_getD, List.getElem?_append_right (Nat.le_refl _), Nat.sub_self]; rfl
/-- The same words. -/
theorem same_l0 (ys : List Int) (hb : ys.length ≤ 1000000000) : ∀ (suf pre : List Int), pre ++ suf = ys → Ev (fun k => laws_sameWords.l0 k ys ys (ys.length : Int) (pre.length : Int)) true := by
  intro suf
  induction suf with
  | nil =>
    intro pre h
    rw [List.append_nil] at h
    subst h
    exact .now fun k => by rw [laws_sameWords.l0, if_neg (by omega)]
  | cons x suf ih =>
    intro pre h
    have hl : pre.length + suf.length + 1 = ys.length := by rw [← h, List.length_append, List.length_cons]; omega
    have := ih (pre ++ [x]) (by rw [List.append_assoc]; exact h)
    rw [List.length_append, List.length_singleton] at this
    refine .step (fun k => ?_) this
    rw [laws_sameWords.l0, if_pos (by omega), if_pos (by omega), if_pos (by omega), if_pos (by omega), if_pos rfl]
    rw [show (pre.length : Int) + 1 = (pre.length + 1 : Nat) by push_cast; rfl, w64 _ (by omega)]
theorem same_ev (ys : List Int) (hb : ys.length ≤ 1000000000) : Ev (fun k => laws_sameNumbers.f k ys ys) true := by
  have h := same_l0 ys hb ys [] rfl
  refine .congr (fun k => ?_) (.bind (G := fun _ t => some t) h .const)
  unfold laws_sameNumbers.f laws_sameWords.f
  rw [if_pos rfl]; rfl
end Go.Proofs.YtflgbndhahcdnaaGreatDoor
/- The plain law: the batches. -/
namespace Go.Proofs.YtflgbndhahcdnaaGreatDoor
open Go Go.RowKit Go.Proofs.YtflgbndhahcdnaaGreatDoor.PFnBoolsRead Go.Proofs.YtflgbndhahcdnaaGreatDoorW.PrintWords
/-- Numbers as integers. -/
def ints (l : List Nat) : List Int := l.map (fun n : Nat => (n : Int))
theorem ints_len (l : List Nat) : (ints l).length = l.length := List.length_map ..
theorem ints_app (l m : List Nat) : ints (l ++ m) = ints l ++ ints m := List.map_append ..
theorem ints_cut (vs : List Nat) (p m : Nat) : ((ints vs).take (p + m)).drop p = ints ((vs.drop p).take m) := by
  rw [List.drop_take, Nat.add_sub_cancel_left]
  unfold ints
  rw [List.map_take, List.map_drop]
theorem batched_l0 (vs : List Nat) (ns : List Int) (hN : ∀ n ∈ ns, -9223372036854775808 ≤ n ∧ n ≤ 9223372036854775807) (hL : vs.length ≤ 1000000) (hn : ns.length ≤ 50) : ∀ (suf pre : List Int) (done : List Nat) (p : Nat), pre ++ suf = ns → p ≤ vs.length → done.length ≤ p →
    ∃ r : List Int × Bool, Ev (fun k => spec_Batched.l0 k (ints vs) (ints done) (p : Int) ns (ns.length : Int) (pre.length : Int)) r ∧ (r.2 = true → Fits suf (vs.drop p) ∧ r.1 = ints (done ++ takes suf (vs.drop p))) := by
  intro suf
  induction suf with
  | nil =>
    intro pre done p h hp hd
    rw [List.append_nil] at h
    subst h
    refine ⟨(ints done, true), .now fun k => by rw [spec_Batched.l0, if_neg (by omega)], fun _ => ⟨trivial, by rw [takes, List.append_nil]⟩⟩
  | cons n suf ih =>
    intro pre done p h hp hd
    have hl : pre.length + suf.length + 1 = ns.length := by rw [← h, List.length_append, List.length_cons]; omega
    obtain ⟨r1, r2⟩ := hN n (by rw [← h]; simp)
    have hrd : rd ns (pre.length : Int) = n := by rw [← h]; exact rd_app pre suf n
    have hlen : ((ints vs).length : Int) - p = (vs.length - p : Nat) := by rw [ints_len]; omega
    -- what is taken
    obtain ⟨x, hx, hstart⟩ : ∃ x : Int, (x = if n < 0 then RowKit.wrap64 (-n) else n) ∧ ∀ k, spec_Batched.l0 (k + 1) (ints vs) (ints done) (p : Int) ns (ns.length : Int) (pre.length : Int) = spec_Batched.j1 k (ints vs) (ints done) (p : Int) n x ns (ns.length : Int) (pre.length : Int) := by
      refine ⟨_, rfl, fun k => ?_⟩
      rw [spec_Batched.l0, if_pos (by omega), if_pos (by omega), if_pos (by omega), hrd]
      by_cases hn0 : n < 0
      · rw [if_pos hn0, if_pos hn0]
      · rw [if_neg hn0, if_neg hn0]
    by_cases hx0 : x < 0
    · exact ⟨([], false), .step hstart (.step (fun k => by rw [spec_Batched.j1, if_pos hx0]) (.now fun k => by rw [spec_Batched.j2, if_pos rfl])), fun h => by cases h⟩
    · have hxm : x = (n.natAbs : Nat) := by
        rw [hx] at hx0 ⊢
        by_cases hn0 : n < 0
        · rw [if_pos hn0] at hx0 ⊢
          by_cases hm : n = -9223372036854775808
          · subst hm; exact absurd (by unfold RowKit.wrap64; omega) hx0
          · rw [IntWalk.wrap64_in _ (by omega)]; omega
        · rw [if_neg hn0]; omega
      obtain ⟨m, hm⟩ : ∃ m, m = n.natAbs := ⟨_, rfl⟩
      rw [← hm] at hxm
      subst hxm
      by_cases hbig : vs.length - p < m
      · refine ⟨([], false), .step hstart (.step (fun k => by rw [spec_Batched.j1, if_neg hx0, hlen, w64 _ (by omega), decide_eq_true (by omega)]) (.now fun k => by rw [spec_Batched.j2, if_pos rfl])), fun h => by cases h⟩
      · have hm1 : m ≤ (vs.drop p).length := by rw [List.length_drop]; omega
        obtain ⟨r, hr, hr2⟩ := ih (pre ++ [n]) (done ++ if n < 0 then [] else (vs.drop p).take m) (p + m) (by rw [List.append_assoc]; exact h) (by omega) (by
          rw [List.length_append]; split
          · simp; omega
          · rw [List.length_take]; omega)
        rw [List.length_append, List.length_singleton] at hr
        refine ⟨r, .step hstart (.step (fun k => by rw [spec_Batched.j1, if_neg hx0, hlen, w64 _ (by omega), decide_eq_false (by omega)]) (.step (fun k => ?_) hr)), fun h2 => ?_⟩
        · rw [spec_Batched.j2, if_neg (by decide), show (p : Int) + m = (p + m : Nat) by push_cast; rfl, w64 (p + m) (by omega), show (pre.length : Int) + 1 = (pre.length + 1 : Nat) by push_cast; rfl, w64 (pre.length + 1) (by omega)]
          by_cases hn0 : n > 0
          · have hnm : n = m := by omega
            have hnn : ¬ n < 0 := by omega
            rw [if_pos hn0, if_neg hnn, hnm, show (p : Int) + m = (p + m : Nat) by push_cast; rfl, w64 (p + m) (by omega), if_pos (by omega), if_pos (by omega), if_pos (by rw [ints_len]; omega), Int.toNat_natCast, Int.toNat_natCast, ints_cut, if_pos (by rw [ints_len, ints_len, List.length_take]; omega), ints_app]
          · rw [if_neg hn0]
            by_cases hnn : n < 0
            · rw [if_pos hnn, List.append_nil]
            · have : m = 0 := by omega
              subst this
              rw [if_neg hnn, List.take_zero, List.append_nil]
        · obtain ⟨g1, g2⟩ := hr2 h2
          refine ⟨⟨by rw [← hm]; exact hm1, by rw [List.length_drop] at hm1; omega, by rw [← hm, List.drop_drop]; exact g1⟩, ?_⟩
          rw [g2, takes, ← hm, List.append_assoc, List.drop_drop]
theorem batched_ev (vs : List Nat) (ns : List Int) (hN : ∀ n ∈ ns, -9223372036854775808 ≤ n ∧ n ≤ 9223372036854775807) (hL : vs.length ≤ 1000000) :
    ∃ r : List Int × Bool, Ev (fun k => spec_Batched.f k (ints vs) ns) r ∧ (r.2 = true → ns.length ≤ 50 ∧ Fits ns vs ∧ r.1 = ints (takes ns vs)) := by
  by_cases hc : (ns.length : Int) > 50
  · exact ⟨([], false), .congr (fun k => by unfold spec_Batched.f; rw [if_pos hc]) .const, fun h => by cases h⟩
  · obtain ⟨r, hr, h2⟩ := batched_l0 vs ns hN hL (by omega) ns [] [] 0 rfl (Nat.zero_le _) (Nat.le_refl _)
    refine ⟨r, .congr (fun k => by unfold spec_Batched.f; rw [if_neg hc]; rfl) hr, fun h => ?_⟩
    have := h2 h
    rw [List.drop_zero, List.nil_append] at this
    exact ⟨by omega, this⟩
end Go.Proofs.YtflgbndhahcdnaaGreatDoor
/- The plain law: which runs are asked. -/
namespace Go.Proofs.YtflgbndhahcdnaaGreatDoor
open Go Go.RowKit Go.Proofs.YtflgbndhahcdnaaGreatDoor.PFnBoolsRead Go.Proofs.YtflgbndhahcdnaaGreatDoorW.PrintWords Go.Proofs.YtflgbndhahcdnaaGreatDoorW.PrintMore
/-- A run's values; its numbers; all numbers. -/
def vals (r : S35) : List Nat := r.f2.map Int.toNat
def numsOf (r : S35) : List Nat := if r.f0 = true then vals r ++ List.replicate (8 * r.f1.toNat - (vals r).length) 0 else List.replicate r.f1.toNat ((vals r).getD 0 0)
def allOf (l : List S35) : List Nat := l.flatMap numsOf
/-- What holds of any run that Go can hold. -/
structure IsRun (r : S35) : Prop where
  v : ∀ v ∈ r.f2, 0 ≤ v ∧ v < 18446744073709551616
  c : -9223372036854775808 ≤ r.f1 ∧ r.f1 ≤ 9223372036854775807
theorem IsRun.ints {r : S35} (h : IsRun r) : r.f2 = ints (vals r) := by
  unfold Go.Proofs.YtflgbndhahcdnaaGreatDoor.ints vals
  rw [List.map_map]
  conv => lhs; rw [← List.map_id r.f2]
  refine List.map_congr_left fun v hv => ?_
  have := (h.v v hv).1
  simp only [id, Function.comp]; omega
theorem vals_len (r : S35) : (vals r).length = r.f2.length := List.length_map ..
/-- A run that is asked. -/
structure FitR (W : Nat) (r : S35) : Prop where
  c1 : 1 ≤ r.f1
  p : r.f0 = true → r.f1 ≤ 20 ∧ (r.f2.length : Int) ≤ 8 * r.f1
  q : r.f0 = false → r.f1 ≤ 300 ∧ r.f2.length = 1
  v : ∀ v ∈ vals r, v < 2 ^ W
theorem rdT_app (pre suf : List S35) (x : S35) : rd_T35 (pre ++ x :: suf) (pre.length : Int) = x := by
  unfold rd_T35
  rw [Int.toNat_natCast, List.getD_eq_getElem?_getD, List.getElem?_append_right (Nat.le_refl _), Nat.sub_self]; rfl
end Go.Proofs.YtflgbndhahcdnaaGreatDoor
/- The plain law: which runs are asked; what they hold. -/
namespace Go.Proofs.YtflgbndhahcdnaaGreatDoor
open Go Go.RowKit Go.Proofs.YtflgbndhahcdnaaGreatDoor.PFnBoolsRead Go.Proofs.YtflgbndhahcdnaaGreatDoorW.PrintWords Go.Proofs.YtflgbndhahcdnaaGreatDoorW.PrintMore
theorem numsOf_len {W : Nat} {r : S35} (h : FitR W r) : (numsOf r).length ≤ 300 := by
  unfold numsOf
  split
  · rename_i hp
    have := h.p hp
    rw [List.length_append, List.length_replicate, vals_len]; omega
  · rename_i hp
    have := h.q (by simpa using hp)
    rw [List.length_replicate]; omega
end Go.Proofs.YtflgbndhahcdnaaGreatDoor
/- Bytes and their bits: plain facts, and rows of bytes that are read as bits. No program in sight. -/
namespace Go.Proofs.YtflgbndhahcdnaaGreatDoor
open Go Go.RowKit
theorem u8_or_nat (x y : Nat) (hx : x < 256) (hy : y < 256) : bits .or .u8 (x : Int) y = ((x ||| y : Nat) : Int) := (bits_nat .u8 8 (by decide) wraps_u8 x y hx hy).2
theorem u8_and_nat (x y : Nat) (hx : x < 256) (hy : y < 256) : bits .and .u8 (x : Int) y = ((x &&& y : Nat) : Int) := (bits_nat .u8 8 (by decide) wraps_u8 x y hx hy).1
theorem or_lt (x y : Nat) (hx : x < 256) (hy : y < 256) : x ||| y < 256 := Nat.or_lt_two_pow (n := 8) hx hy
theorem and_lt (x y : Nat) (hx : x < 256) : x &&& y < 256 := Nat.lt_of_le_of_lt Nat.and_le_left hx
theorem bitB_bool (D : Nat → Nat) (i : Nat) : bitB D i = ((D (i / 8)).testBit (i % 8)).toNat := by
  rw [Nat.toNat_testBit]; rfl
def upd (β : Nat → Bool) (i : Nat) (v : Bool) : Nat → Bool := fun j => if j = i then v else β j
/-- n bytes from (b, off) on hold the bits β. -/
structure Bmp (w : World) (b off n : Nat) (β : Nat → Bool) : Prop where
  cell : ∀ j, j < n → ∃ x : Nat, w.cell? ⟨b, off + j, none⟩ = some (.int .u8 x) ∧ x < 256 ∧ ∀ t, t < 8 → x.testBit t = β (8 * j + t)
  fr : ∀ j, j < n → w.frozen? ⟨b, off + j, none⟩ = false
theorem Bmp.keep {w w' : World} {b off n : Nat} {β : Nat → Bool} (h : Bmp w b off n β) {S : Nat → Nat → Prop} (hc : Chg S w w') (hS : ∀ j, j < n → ¬ S b (off + j)) : Bmp w' b off n β :=
  ⟨fun j hj => let ⟨x, h1, h2⟩ := h.cell j hj; ⟨x, hc.keep h1 (hS j hj), h2⟩, fun j hj => let ⟨x, h1, h2⟩ := h.cell j hj; (hc.frozen _ _ (World.block_lt_of_cell? w _ h1)).trans (h.fr j hj)⟩
theorem Bmp.congr {w : World} {b off n : Nat} {β γ : Nat → Bool} (h : Bmp w b off n β) (hβ : ∀ i, i < 8 * n → β i = γ i) : Bmp w b off n γ :=
  ⟨fun j hj => let ⟨x, h1, h2, h3⟩ := h.cell j hj; ⟨x, h1, h2, fun t ht => by rw [h3 t ht]; exact hβ _ (by omega)⟩, h.fr⟩
/-- One byte is laid. -/
theorem Bmp.put {w : World} {b off n : Nat} {β γ : Nat → Bool} (h : Bmp w b off n β) (j x : Nat) (hx : x < 256) (hb : ∀ t, t < 8 → x.testBit t = γ (8 * j + t)) (hg : ∀ i, i < 8 * n → i / 8 ≠ j → γ i = β i) : Bmp (w.setCell ⟨b, off + j, none⟩ (.int .u8 x)) b off n γ := by
  refine ⟨fun i hi => ?_, fun i hi => by rw [World.frozen?_setCell]; exact h.fr i hi⟩
  obtain ⟨y, h1, h2, h3⟩ := h.cell i hi
  by_cases hij : i = j
  · subst hij
    exact ⟨x, World.cell?_setCell_same _ _ _ h1, hx, hb⟩
  · refine ⟨y, ?_, h2, fun t ht => ?_⟩
    · rw [World.cell?_setCell_other _ ⟨b, off + j, none⟩ ⟨b, off + i, none⟩ _ (by intro e; injection e; omega)]; exact h1
    · rw [h3 t ht]; exact (hg _ (by omega) (by omega)).symm
theorem tb_pow (t s : Nat) : (2 ^ t).testBit s = decide (t = s) := Nat.testBit_two_pow ..
theorem tb_flip : ∀ t s : Fin 8, (255 - 2 ^ t.val).testBit s.val = decide (t.val ≠ s.val) := by decide
theorem tb_pre : ∀ t s : Fin 8, (2 ^ t.val - 1).testBit s.val = decide (s.val < t.val) := by decide
theorem tb_tra : ∀ t s : Fin 8, (256 - 2 ^ t.val).testBit s.val = decide (t.val ≤ s.val) := by decide
theorem pow8 (t : Nat) (ht : t < 8) : 2 ^ t ≤ 128 := by
  have : (2 : Nat) ^ t ≤ 2 ^ 7 := Nat.pow_le_pow_right (by decide) (by omega)
  exact this
theorem u8_andNot_nat (x y : Nat) (hx : x < 256) (hy : y < 256) : bits .andNot .u8 (x : Int) y = ((x &&& (255 - y) : Nat) : Int) := by
  have e0 : bits .andNot .u8 (x : Int) y = IntKind.u8.wrap ((BitVec.ofNat 8 x &&& ~~~BitVec.ofNat 8 y).toNat : Int) := by
    simp only [bits, BitVec.ofInt_natCast]; rfl
  have e1 : x % 2 ^ 8 = x := Nat.mod_eq_of_lt hx
  have e2 : y % 2 ^ 8 = y := Nat.mod_eq_of_lt hy
  have e3 : 2 ^ 8 - 1 - y = 255 - y := by omega
  rw [e0, BitVec.toNat_and, BitVec.toNat_not, BitVec.toNat_ofNat, BitVec.toNat_ofNat, e1, e2, e3, IntKind.wrap_u8]
  have := and_lt x (255 - y) hx
  omega
theorem tb_not (y t : Nat) (hy : y < 256) (ht : t < 8) : (255 - y).testBit t = !y.testBit t := by
  have := Nat.testBit_two_pow_sub_succ (x := y) (n := 8) hy t
  rw [show (2 : Nat) ^ 8 - (y + 1) = 255 - y by omega] at this
  rw [this]; simp [ht]
/-- A byte of which only those bits turn that a mask lacks. -/
def mix (x f m : Nat) : Nat := (x &&& m) ||| (f &&& (255 - m))
theorem mix_lt (x f m : Nat) (hx : x < 256) (hf : f < 256) : mix x f m < 256 := or_lt _ _ (and_lt x m hx) (and_lt f _ hf)
theorem mix_tb (x f m t : Nat) (hm : m < 256) (ht : t < 8) : (mix x f m).testBit t = if m.testBit t then x.testBit t else f.testBit t := by
  unfold mix
  rw [Nat.testBit_or, Nat.testBit_and, Nat.testBit_and, tb_not m t hm ht]
  cases m.testBit t <;> simp
/-- Byte q is x. -/
def byt (β : Nat → Bool) (q x : Nat) : Nat → Bool := fun i => if i / 8 = q then x.testBit (i % 8) else β i
theorem Bmp.byte {w : World} {b off n : Nat} {β : Nat → Bool} (h : Bmp w b off n β) (q x : Nat) (hx : x < 256) : Bmp (w.setCell ⟨b, off + q, none⟩ (.int .u8 x)) b off n (byt β q x) :=
  h.put q x hx (fun t ht => by unfold byt; rw [if_pos (by omega)]; congr 1; omega) (fun i _ hi => by unfold byt; rw [if_neg hi])
/-- Bits from st on, len of them. -/
def fillB (β : Nat → Bool) (st len : Nat) (v : Bool) : Nat → Bool := fun j => if st ≤ j ∧ j < st + len then v else β j
theorem tb_fill (v : Bool) : ∀ t : Fin 8, (if v then 255 else 0 : Nat).testBit t.val = v := by cases v <;> decide
theorem cell_put {w : World} {b x y : Nat} (u v : Value) (h : w.cell? ⟨b, x, none⟩ = some u) (hxy : x = y) : (w.setCell ⟨b, y, none⟩ v).cell? ⟨b, x, none⟩ = some v := by
  subst hxy; exact World.cell?_setCell_same _ _ _ h
end Go.Proofs.YtflgbndhahcdnaaGreatDoor
