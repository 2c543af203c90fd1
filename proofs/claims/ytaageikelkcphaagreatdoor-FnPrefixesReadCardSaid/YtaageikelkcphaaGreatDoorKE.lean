/- Part 5 of the proof: the texts C2, U0, joined. What each proves stands ahead of it. -/
import Derived.Test.YtaageikelkcphaaGreatDoorKA
import Derived.Test.YtaageikelkcphaaGreatDoorKB
set_option linter.unusedVariables false
set_option linter.unusedSimpArgs false
/- Read, ReadAtLeast, ReadFull, readLittle. -/
namespace Go.Proofs.YtaageikelkcphaaGreatDoor
open Go Go.RowKit
set_option maxRecDepth 100000 in
set_option maxHeartbeats 1000000 in
theorem read_in (rb ro b bo L C pb po n c i : Nat) (pr : Int) (D : Nat → Nat) (w : World) (hR : Rdr w rb ro b bo L C i pr) (hD : Bytes w b bo L D) (hi : i < L) (hL : L ≤ C) (hC : C ≤ 9223372036854775807) (hpr : pb ≠ rb) (hpb : pb ≠ b) (hbr : b ≠ rb)
    (hp : ∀ j, j < n → ∃ u, w.cell? ⟨pb, po + j, none⟩ = some u) (hpf : ∀ j, j < n → w.frozen? ⟨pb, po + j, none⟩ = false) :
    Calls Tryz.prog 128 #[.pointer (some ⟨rb, ro, none⟩), .slice (some ⟨pb, po, none⟩) n c] w fun e w' =>
      e = .returned (.tuple #[.int .i64 (min (L - i) n : Nat), .nilIface]) ∧ Chg (fun k x => (k = rb ∧ ro ≤ x ∧ x < ro + 3) ∨ (k = pb ∧ po ≤ x ∧ x < po + min (L - i) n)) w w' ∧ Rdr w' rb ro b bo L C (i + min (L - i) n : Nat) (-1) ∧ Bytes w' pb po (min (L - i) n) (fun j => D (i + j)) := by
  have hs := hR.s
  have hri := hR.i
  have hrp := hR.p
  have f1 := hR.f 1 (by omega)
  have f2 := hR.f 2 (by omega)
  have HR := Lib.hid hR; clear hR
  have Hp := Lib.hid hp; clear hp
  have Hf := Lib.hid hpf; clear hpf
  have HD := Lib.hid hD; clear hD
  have c0 : 0 ≤ (i : Int) := by omega
  have c1 : i ≤ L := by omega
  go_enter Tryz.func128, Tryz.ntmps128
  go_wp2
  (refine wp_region_txt [] (by kernel_rfl) (by kernel_rfl) ?_; repeat (first | (refine wpTxt_pure rfl rfl (fun K hK => ?_); go_simp; refine hK _ ?_; clear hK K) | (refine wpTxt_still rfl rfl (fun K hK => ?_); go_simp; refine hK _ ?_; clear hK K)))
  refine wpTxt_nil ?_
  go_wp2
  (refine wp_region_txt [] (by kernel_rfl) (by kernel_rfl) ?_; repeat (first | (refine wpTxt_pure rfl rfl (fun K hK => ?_); go_simp; refine hK _ ?_; clear hK K) | (refine wpTxt_still rfl rfl (fun K hK => ?_); go_simp; refine hK _ ?_; clear hK K)))
  refine wpTxt_copy_chg rfl (.tmp 20) (.tmp 29) 31 31 rfl 5 Tryz.underlying31 (by kernel_rfl) _ _ _ _ _ _ rfl rfl (min (L - i) n) rfl pb po b (bo + i) (fun j => .int .u8 (D (i + j))) (fun _ => ⟨rfl, if_neg (by omega)⟩) ?c2 ?c3 ?c4 (fun _ _ => rfl) ?_
  all_goals have hch : Chg (fun k x => k = rb ∧ ro ≤ x ∧ x < ro + 3) w ((w.setCell ⟨rb, ro + 2, none⟩ (.int .i64 (-1))).drew.drew) := (((Chg.refl _ _).setCell rb (ro + 2) (fun _ => ⟨rfl, by omega, by omega⟩) _).drew).drew
  case c2 =>
    intro j hj
    have := hch.keep (HD.out (i + j) (by omega)) (by intro h; exact hbr h.1)
    rwa [← Nat.add_assoc] at this
  case c3 => exact fun j hj => let ⟨u, hu⟩ := Hp.out j (by omega); ⟨u, hch.keep hu (by intro h; exact hpr h.1)⟩
  case c4 => exact fun j hj => let ⟨u, hu⟩ := Hp.out j (by omega); (hch.frozen _ _ (World.block_lt_of_cell? w _ hu)).trans (Hf.out j (by omega))
  have hR1 : Rdr ((w.setCell ⟨rb, ro + 2, none⟩ (.int .i64 (-1))).drew.drew) rb ro b bo L C i (-1) := ⟨by go_cell, by go_cell, by go_cell, fun j hj => by simpa using HR.out.f j hj⟩
  have Hch := Lib.hid hch; clear hch
  intro w1 hch1 hv1
  have hR2 := hR1.keep hch1 (fun j _ h => hpr h.1.symm)
  have g1 := hR2.i
  have g2 := hR2.f 1 (by omega)
  have HR2 := Lib.hid hR2; clear hR2
  have Hv := Lib.hid hv1; clear hv1
  have Hc1 := Lib.hid hch1; clear hch1
  clear hs hri hrp f1 f2 hR1
  repeat (first | (refine wpTxt_pure rfl rfl (fun K hK => ?_); go_simp; refine hK _ ?_; clear hK K) | (refine wpTxt_still rfl rfl (fun K hK => ?_); go_simp; refine hK _ ?_; clear hK K))
  refine wpTxt_nil ?_
  go_wp2
  go_ret2
  have hall := (Hch.out.comp Hc1.out (T := fun k x => (k = rb ∧ ro ≤ x ∧ x < ro + 3) ∨ (k = pb ∧ po ≤ x ∧ x < po + min (L - i) n)) (fun _ _ _ h => .inl h) (fun _ _ _ h => .inr h)).setCell rb (ro + 1) (fun _ => .inl ⟨rfl, by omega, by omega⟩) (.int .i64 (↑i + ↑(min (L - i) n)))
  have h3 := HR2.out
  refine ⟨rfl, hall, ⟨?_, ?_, ?_, ?_⟩, ?_⟩
  · rw [World.cell?_setCell_other _ ⟨rb, ro + 1, none⟩ ⟨rb, ro, none⟩ _ (by intro e; injection e; omega)]; exact h3.s
  · exact World.cell?_setCell_same _ _ _ h3.i
  · rw [World.cell?_setCell_other _ ⟨rb, ro + 1, none⟩ ⟨rb, ro + 2, none⟩ _ (by intro e; injection e; omega)]; exact h3.p
  · intro j hj; rw [World.frozen?_setCell]; exact h3.f j hj
  · intro j hj
    rw [World.cell?_setCell_other _ ⟨rb, ro + 1, none⟩ ⟨pb, po + j, none⟩ _ (by intro e; injection e with e1; exact hpr e1.symm)]
    exact Hv.out j hj
theorem nil_Read (a : Addr) (w : World) : (nilAhead 276 92 (.pointer (some a)) "Read").run Tryz.prog w = .ok (some false) w := by kernel_rfl
theorem method_Read (a : Addr) (w : World) : (method 276 92 (.pointer (some a)) "Read").run Tryz.prog w = .ok (128, .pointer (some a)) w := by kernel_rfl
set_option maxRecDepth 100000 in
set_option maxHeartbeats 1000000 in
theorem readAtLeast_exact (rb ro b bo L C pb po n c i : Nat) (pr : Int) (D : Nat → Nat) (w : World) (hR : Rdr w rb ro b bo L C i pr) (hD : Bytes w b bo L D) (hn : 0 < n) (hi : i + n ≤ L) (hL : L ≤ C) (hC : C ≤ 9223372036854775807) (hpr : pb ≠ rb) (hpb : pb ≠ b) (hbr : b ≠ rb)
    (hp : ∀ j, j < n → ∃ u, w.cell? ⟨pb, po + j, none⟩ = some u) (hpf : ∀ j, j < n → w.frozen? ⟨pb, po + j, none⟩ = false) (hnc : n ≤ c) :
    Calls Tryz.prog 105 #[.iface 92 (.pointer (some ⟨rb, ro, none⟩)), .slice (some ⟨pb, po, none⟩) n c, .int .i64 n] w fun e w' =>
      e = .returned (.tuple #[.int .i64 n, .nilIface]) ∧ Chg (fun k x => (k = rb ∧ ro ≤ x ∧ x < ro + 3) ∨ (k = pb ∧ po ≤ x ∧ x < po + n)) w w' ∧ Rdr w' rb ro b bo L C (i + n : Nat) (-1) ∧ Bytes w' pb po n (fun j => D (i + j)) := by
  have HR := Lib.hid hR; clear hR
  have Hp := Lib.hid hp; clear hp
  have Hf := Lib.hid hpf; clear hpf
  have HD := Lib.hid hD; clear hD
  have hnil := nil_Read
  have hmet := method_Read
  have hi' : i < L := by omega
  go_enter Tryz.func105, Tryz.ntmps105
  go_wp2
  refine wp_loop_rounds 2 ?_
  rw [rounds_succ]
  go_wp2
  (refine wp_region_txt [] (by kernel_rfl) (by kernel_rfl) ?_; repeat (first | (refine wpTxt_pure rfl rfl (fun K hK => ?_); go_simp; refine hK _ ?_; clear hK K) | (refine wpTxt_still rfl rfl (fun K hK => ?_); go_simp; refine hK _ ?_; clear hK K)))
  refine wpTxt_effect rfl rfl (fun K hK => ?_)
  go_simp
  refine (read_in rb ro b bo L C pb po n c i pr D _ HR.out.drew HD.out hi' hL hC hpr hpb hbr Hp.out Hf.out).mono ?_
  rintro e w1 ⟨rfl, hch, hR1, hB1⟩
  refine hK _ _ ?_
  clear hK K
  have Hc := Lib.hid hch; clear hch
  have HR1 := Lib.hid hR1; clear hR1
  have HB1 := Lib.hid hB1; clear hB1
  obtain ⟨m, hm⟩ : ∃ m, m = min (L - i) n := ⟨_, rfl⟩
  have hmn : m = n := by omega
  rw [← hm, hmn] at HR1 HB1 Hc ⊢
  clear hm hmn m
  repeat (first | (refine wpTxt_pure rfl rfl (fun K hK => ?_); go_simp; refine hK _ ?_; clear hK K) | (refine wpTxt_still rfl rfl (fun K hK => ?_); go_simp; refine hK _ ?_; clear hK K))
  refine wpTxt_nil ?_
  go_wp2
  rw [rounds_succ]
  go_wp2
  go_ret2
  exact ⟨rfl, Hc.out.undrew, HR1.out, HB1.out⟩
set_option maxRecDepth 100000 in
set_option maxHeartbeats 1000000 in
theorem readFull_exact (rb ro b bo L C pb po n c i : Nat) (pr : Int) (D : Nat → Nat) (w : World) (hR : Rdr w rb ro b bo L C i pr) (hD : Bytes w b bo L D) (hn : 0 < n) (hi : i + n ≤ L) (hL : L ≤ C) (hC : C ≤ 9223372036854775807) (hpr : pb ≠ rb) (hpb : pb ≠ b) (hbr : b ≠ rb)
    (hp : ∀ j, j < n → ∃ u, w.cell? ⟨pb, po + j, none⟩ = some u) (hpf : ∀ j, j < n → w.frozen? ⟨pb, po + j, none⟩ = false) (hnc : n ≤ c) :
    Calls Tryz.prog 103 #[.iface 92 (.pointer (some ⟨rb, ro, none⟩)), .slice (some ⟨pb, po, none⟩) n c] w fun e w' =>
      e = .returned (.tuple #[.int .i64 n, .nilIface]) ∧ Chg (fun k x => (k = rb ∧ ro ≤ x ∧ x < ro + 3) ∨ (k = pb ∧ po ≤ x ∧ x < po + n)) w w' ∧ Rdr w' rb ro b bo L C (i + n : Nat) (-1) ∧ Bytes w' pb po n (fun j => D (i + j)) := by
  have h := fun W (hR : Rdr W rb ro b bo L C i pr) hD hp hpf => readAtLeast_exact rb ro b bo L C pb po n c i pr D W hR hD hn hi hL hC hpr hpb hbr hp hpf hnc
  have H := Lib.hid h; clear h
  have HR := Lib.hid hR; clear hR
  have Hp := Lib.hid hp; clear hp
  have Hf := Lib.hid hpf; clear hpf
  have HD := Lib.hid hD; clear hD
  go_enter Tryz.func103, Tryz.ntmps103
  go_wp2_with fail
  refine (H.out _ HR.out HD.out Hp.out Hf.out).mono ?_
  rintro e w1 ⟨rfl, hch, hR1, hB1⟩
  have Hc := Lib.hid hch; clear hch
  have HR1 := Lib.hid hR1; clear hR1
  have HB1 := Lib.hid hB1; clear hB1
  go_wp2
  go_ret2
  exact ⟨rfl, Hc.out, HR1.out, HB1.out⟩
set_option maxRecDepth 100000 in
set_option maxHeartbeats 1000000 in
theorem readLittle_ok (rb ro b bo L C pb po i : Nat) (pr : Int) (u : Value) (D : Nat → Nat) (hDl : ∀ j, D j < 256) (w : World) (hR : Rdr w rb ro b bo L C i pr) (hD : Bytes w b bo L D) (hi : i + 4 ≤ L) (hL : L ≤ C) (hC : C ≤ 9223372036854775807) (hpr : pb ≠ rb) (hbr : b ≠ rb)
    (hp : w.cell? ⟨pb, po, none⟩ = some u) (hpf : w.frozen? ⟨pb, po, none⟩ = false) :
    Calls Tryz.prog 104 #[.iface 92 (.pointer (some ⟨rb, ro, none⟩)), .pointer (some ⟨pb, po, none⟩)] w fun e w' =>
      e = .returned (.tuple #[]) ∧ Chg (fun k x => (k = rb ∧ ro ≤ x ∧ x < ro + 3) ∨ (k = pb ∧ x = po)) w w' ∧ Rdr w' rb ro b bo L C (i + 4 : Nat) (-1) ∧ w'.cell? ⟨pb, po, none⟩ = some (.int .u32 (leV D i 4)) := by
  have hlr := hR.lt
  have hlb : b < w.heap.size := World.block_lt_of_cell? w _ (hD 0 (by omega))
  have hlp := World.block_lt_of_cell? w _ hp
  have HR := Lib.hid hR; clear hR
  have HD := Lib.hid hD; clear hD
  have Hp := Lib.hid hp; clear hp
  have Hf := Lib.hid hpf; clear hpf
  go_enter Tryz.func104, Tryz.ntmps104
  go_wp2_with fail
  refine (readFull_exact rb ro b bo L C w.heap.size 0 4 4 i pr D _ (by exact HR.out.alloc _) (by exact HD.out.alloc _) (by omega) hi hL hC (by omega) (by omega) hbr
    (by
      intro j hj
      rw [World.cell?_alloc_new]
      have : j = 0 ∨ j = 1 ∨ j = 2 ∨ j = 3 := by omega
      rcases this with rfl | rfl | rfl | rfl <;> exact ⟨_, rfl⟩) (by intro j hj; simp) (by omega)).mono ?_
  rintro e w1 ⟨rfl, hch, hR1, hB1⟩
  have Hp1 := Lib.hid (hch.keep (cell_alloc _ Hp.out) (by rintro (h | h); exact hpr h.1; omega))
  have Hf1 := Lib.hid ((hch.frozen pb po (by simp; omega)).trans (frozen_alloc _ hlp Hf.out))
  have hlt1 : w.heap.size < w1.heap.size := Nat.lt_of_lt_of_le (by simp) hch.size
  have Hc1 := Lib.hid (hch.unalloc (T := fun k x => (k = rb ∧ ro ≤ x ∧ x < ro + 3) ∨ (k = pb ∧ x = po)) (by rintro k x hk (h | h); exact .inl h; omega))
  have HR1 := Lib.hid hR1; clear hR1
  have HB1 := Lib.hid hB1; clear hB1
  clear hch
  go_wp2
  (refine wp_region_txt [] (by kernel_rfl) (by kernel_rfl) ?_; repeat (first | (refine wpTxt_pure rfl rfl (fun K hK => ?_); go_simp; refine hK _ ?_; clear hK K) | (refine wpTxt_still rfl rfl (fun K hK => ?_); go_simp; refine hK _ ?_; clear hK K)))
  refine wpTxt_effect rfl rfl (fun K hK => ?_)
  go_simp
  refine (le32_any w.heap.size 0 4 4 (fun j => D (i + j)) (fun j => hDl _) _ (by omega) (by exact HB1.out)).mono ?_
  rintro e w2 ⟨rfl, hch2⟩
  refine hK _ _ ?_
  clear hK K
  have hlp1 : pb < w1.heap.size := World.block_lt_of_cell? w1 _ Hp1.out
  have Hp2 := hch2.keep (v := u) (k := pb) (o := po) Hp1.out (fun h => h)
  have Hf2 := (hch2.frozen pb po hlp1).trans Hf1.out
  have HR2 := Lib.hid (HR1.out.drew.keep hch2 (fun _ _ h => h))
  have Hc2 := Lib.hid (Hc1.out.trans (hch2.undrew.mono (fun _ _ _ h => h.elim)))
  clear hch2
  repeat (first | (refine wpTxt_pure rfl rfl (fun K hK => ?_); go_simp; refine hK _ ?_; clear hK K) | (refine wpTxt_still rfl rfl (fun K hK => ?_); go_simp; refine hK _ ?_; clear hK K))
  (refine wpTxt_effect rfl rfl (fun K hK => ?_); go_simp; refine hK _ _ ?_; clear hK K)
  refine wpTxt_nil ?_
  go_wp2
  go_end0
  have e4 := leV_shift D i 4 0
  rw [Nat.add_zero] at e4
  refine ⟨rfl, Hc2.out.setCell _ _ (fun _ => .inr ⟨rfl, rfl⟩) _, HR2.out.keep ((Chg.refl (fun k _ => k = pb) w2).setCell _ _ (fun _ => rfl) _) (fun _ _ h => hpr h.symm), ?_⟩
  rw [e4]
  exact World.cell?_setCell_same _ _ _ Hp2
end Go.Proofs.YtaageikelkcphaaGreatDoor
/- Numbers whose bits are named: shifting, cutting and joining them. -/
namespace Go.Proofs.YtaageikelkcphaaGreatDoor
abbrev SymV := List (Option Nat)
def bitO (B : Nat → Nat) : Option Nat → Nat
  | none => 0
  | some i => B i
def den (B : Nat → Nat) : SymV → Nat
  | [] => 0
  | x :: l => bitO B x + 2 * den B l
section
variable {B : Nat → Nat} (hB : ∀ i, B i < 2)
include hB
theorem bitO_lt (x : Option Nat) : bitO B x < 2 := by cases x <;> simp [bitO, hB]
theorem den_lt : ∀ l : SymV, den B l < 2 ^ l.length
  | [] => by simp [den]
  | x :: l => by
    have h1 := den_lt l
    have h2 := bitO_lt hB x
    rw [den, List.length_cons, Nat.pow_succ]; omega
theorem den_drop : ∀ (n : Nat) (l : SymV), den B (l.drop n) = den B l / 2 ^ n
  | 0, l => by simp
  | n + 1, [] => by simp [den]
  | n + 1, x :: l => by
    have h2 := bitO_lt hB x
    rw [List.drop_succ_cons, den_drop n l, den, Nat.pow_succ, Nat.mul_comm (2 ^ n) 2, ← Nat.div_div_eq_div_mul]
    congr 1; omega
theorem den_take : ∀ (n : Nat) (l : SymV), den B (l.take n) = den B l % 2 ^ n
  | 0, l => by simp [den, Nat.mod_one]
  | n + 1, [] => by simp [den]
  | n + 1, x :: l => by
    have h2 := bitO_lt hB x
    rw [List.take_succ_cons, den, den_take n l, den, Nat.pow_succ, Nat.mul_comm (2 ^ n) 2, Nat.mod_mul]
    rw [show (bitO B x + 2 * den B l) % 2 = bitO B x by omega, show (bitO B x + 2 * den B l) / 2 = den B l by omega]
omit hB in
theorem den_shl (n : Nat) (l : SymV) : den B (List.replicate n none ++ l) = den B l * 2 ^ n := by
  induction n with
  | zero => simp
  | succ n ih => rw [List.replicate_succ, List.cons_append, den, ih, bitO, Nat.pow_succ, Nat.zero_add, Nat.mul_comm 2, Nat.mul_assoc]
omit hB in
theorem or_step (x y a b : Nat) (hx : x < 2) (hy : y < 2) (h : x = 0 ∨ y = 0) : (x + 2 * a) ||| (y + 2 * b) = (x + y) + 2 * (a ||| b) := by
  apply Nat.eq_of_testBit_eq
  intro i
  cases i with
  | zero =>
    rw [Nat.testBit_or, Nat.testBit_zero, Nat.testBit_zero, Nat.testBit_zero]
    rcases h with h | h <;> subst h <;> (simp; try omega)
  | succ i =>
    rw [Nat.testBit_or, Nat.testBit_succ, Nat.testBit_succ, Nat.testBit_succ]
    rw [show (x + 2 * a) / 2 = a by omega, show (y + 2 * b) / 2 = b by omega, show (x + y + 2 * (a ||| b)) / 2 = a ||| b by omega, Nat.testBit_or]
end
def zipO : SymV → SymV → Option SymV
  | [], b => some b
  | a, [] => some a
  | none :: a, y :: b => (zipO a b).map (y :: ·)
  | some x :: a, none :: b => (zipO a b).map (some x :: ·)
  | some _ :: _, some _ :: _ => none
theorem den_or {B : Nat → Nat} (hB : ∀ i, B i < 2) : ∀ (a b c : SymV), zipO a b = some c → den B c = den B a ||| den B b
  | [], b, c, h => by simp [zipO] at h; subst h; simp [den]
  | x :: a, [], c, h => by cases x <;> simp [zipO] at h <;> subst h <;> simp [den]
  | none :: a, y :: b, c, h => by
    simp only [zipO, Option.map_eq_some_iff] at h
    obtain ⟨d, hd, rfl⟩ := h
    rw [den, den, den, den_or hB a b d hd, or_step _ _ _ _ (bitO_lt hB _) (bitO_lt hB _) (.inl rfl)]
    simp [bitO]
  | some x :: a, none :: b, c, h => by
    simp only [zipO, Option.map_eq_some_iff] at h
    obtain ⟨d, hd, rfl⟩ := h
    rw [den, den, den, den_or hB a b d hd, or_step _ _ _ _ (bitO_lt hB _) (bitO_lt hB _) (.inr rfl)]
    simp [bitO]
/-- The bits from i on, w of them. -/
def symR (i w : Nat) : SymV := (List.range' i w).map some
theorem den_symR (D : Nat → Nat) (p : Nat) : ∀ (w i : Nat), den (fun k => bitB D (p + k)) (symR i w) = bitsV D (p + i) w
  | 0, i => rfl
  | w + 1, i => by
    have ih := den_symR D p w (i + 1)
    simp only [symR] at ih
    simp only [symR, List.range'_succ, List.map_cons, den, bitO, bitsV]
    rw [ih, Nat.add_assoc]
end Go.Proofs.YtaageikelkcphaaGreatDoor
