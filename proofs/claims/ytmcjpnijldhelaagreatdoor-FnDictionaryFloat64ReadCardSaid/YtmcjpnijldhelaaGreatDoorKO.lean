/- Part 15 of the proof: the texts DN, DP, DQ, DLF, joined. What each proves stands ahead of it. -/
import Derived.Test.YtmcjpnijldhelaaGreatDoorKG
import Derived.Test.YtmcjpnijldhelaaGreatDoorKN
import Derived.Test.YtmcjpnijldhelaaGreatDoorKD
import Derived.Shelf.Abstract
set_option linter.unusedVariables false
set_option linter.unusedSimpArgs false
/- The plain decoder of float64s, as a dictionary takes it. -/
namespace Go.Proofs.YtmcjpnijldhelaaGreatDoor
open Go Go.RowKit
/-- The float64s that N times 8 bytes stand for. -/
def floats (D : Nat → Nat) (N : Nat) : List Value := (List.range N).map fun j => Value.float .f64 (leV D (8 * j) 8)
theorem floats_len (D : Nat → Nat) (N : Nat) : (floats D N).length = N := by simp [floats]
theorem floats_get (D : Nat → Nat) (N j : Nat) (h : j < N) : (floats D N).getD j .nilIface = .float .f64 (leV D (8 * j) 8) := by
  simp [floats, List.getD_eq_getElem?_getD, h]
theorem floats_is (D : Nat → Nat) (N : Nat) : ∀ u ∈ floats D N, XF.IsE u := by
  intro u hu
  obtain ⟨j, -, rfl⟩ := List.mem_map.1 hu
  exact ⟨_, rfl⟩
/-- A plain decoder at vd behind m of N float64s, whose bytes D lie at the beginning of block b. -/
structure PD (D : Nat → Nat) (N b vd m : Nat) (w : World) : Prop where
  n : w.cell? ⟨vd, 0, none⟩ = some (.int .i64 (N - m : Nat))
  da : ∃ a c, w.cell? ⟨vd, 1, none⟩ = some (.slice a (8 * (N - m)) c) ∧ 8 * (N - m) ≤ c ∧ c ≤ 9223372036854775807 ∧ (m < N → a = some ⟨b, 8 * m, none⟩)
  fr : ∀ j, j < 2 → w.frozen? ⟨vd, j, none⟩ = false
  by_ : Bytes w b 0 (8 * N) D
  lt : ∀ j, D j < 256
  ne : b ≠ vd
  bl : b < w.heap.size
  ml : m ≤ N
  nl : N ≤ 1000
theorem PD.keep {D : Nat → Nat} {N b vd m : Nat} {w w' : World} (h : PD D N b vd m w) {S : Nat → Nat → Prop} (hc : Chg S w w') (hS : ∀ a x, S a x → ¬ (a = vd ∨ a = b)) : PD D N b vd m w' := by
  obtain ⟨a, c, h1, h2, h3, h4⟩ := h.da
  exact ⟨hc.keep h.n (fun hh => hS _ _ hh (.inl rfl)), ⟨a, c, hc.keep h1 (fun hh => hS _ _ hh (.inl rfl)), h2, h3, h4⟩, fun j hj => (hc.frozen _ _ (World.block_lt_of_cell? _ _ h.n)).trans (h.fr j hj), h.by_.keep hc (fun j _ hh => hS _ _ hh (.inr rfl)), h.lt, h.ne, hc.lt h.bl, h.ml, h.nl⟩
theorem min_nat2 (a b : Nat) (h : a ≤ b) : min (a : Int) (b : Int) = a := by omega
set_option maxRecDepth 100000 in
set_option maxHeartbeats 1000000 in
theorem plainDec_ok (D : Nat → Nat) (N b vd m n ob : Nat) (w : World) (h : PD D N b vd m w) (hmn : m + n ≤ N) (hn1 : 1 ≤ n) (hob : ¬ (ob = vd ∨ ob = b)) (hd : ∀ j, j < n → ∃ u, w.cell? ⟨ob, j, none⟩ = some u) (hf : ∀ j, j < n → w.frozen? ⟨ob, j, none⟩ = false) :
    Calls Tryz.prog 251 #[.pointer (some ⟨vd, 0, none⟩), .slice (some ⟨ob, 0, none⟩) n n] w fun e w' =>
      e = .returned (.tuple #[.int .i64 n, .nilIface]) ∧ Chg (fun a x => (a = vd ∨ a = b) ∨ (a = ob ∧ x < n)) w w' ∧ (∀ j, j < n → w'.cell? ⟨ob, j, none⟩ = some ((floats D N).getD (m + j) .nilIface)) ∧ PD D N b vd (m + n) w' := by
  obtain ⟨a, c, k1, hlc, hcb, ha⟩ := h.da
  obtain rfl := ha (by omega)
  have k0 := h.n
  have hnl := h.nl
  have Hreq := Lib.hid (required_ok n (by omega) w)
  have hc0 : Chg Nix w w.drew := Chg.drew (Chg.refl Nix w)
  have hBs : Bytes w.drew b (8 * m) (8 * n) (fun j => D (8 * m + j)) := by
    have := (h.by_.keep hc0 (fun _ _ h => h)).sub (8 * m) (8 * n) (by omega)
    rwa [Nat.zero_add] at this
  have hcopy := copyFrom_ok b (8 * m) n (8 * n) c ob 0 n (fun j => D (8 * m + j)) (fun j => h.lt _) w.drew hBs rfl hn1 (by omega) (by omega) hcb (fun j hj => by rw [Nat.zero_add]; exact hd j hj) (fun j hj => by rw [Nat.zero_add]; exact hf j hj)
  have Hcopy := Lib.hid hcopy
  have H := Lib.hid h
  have hmi := min_nat2 n (N - m) (by omega)
  have hmi2 : (if ((N - m : Nat) : Int) < (n : Int) then ((N - m : Nat) : Int) else (n : Int)) = n := by split <;> omega
  have Hob := Lib.hid hob
  obtain ⟨q, hq⟩ : ∃ q, q = 8 * n := ⟨_, rfl⟩
  obtain ⟨L, hL⟩ : ∃ L, L = 8 * (N - m) := ⟨_, rfl⟩
  rw [← hq] at Hreq Hcopy
  rw [← hL] at k1 hlc
  have hqL : q ≤ L := by omega
  have hqLi : ¬ (L : Int) < q := by omega
  have hqb : ¬ (2147483647 : Int) < q := by omega
  have hqt : ((q : Nat) : Int).toNat = q := by omega
  have hq0 : 0 ≤ (q : Int) := by omega
  have hnt : ((n : Nat) : Int).toNat = n := by omega
  have hn0 : 0 ≤ (n : Int) := by omega
  have hqc : q ≤ c := by omega
  have Hq := Lib.hid hq
  have HL := Lib.hid hL
  clear h hcopy hBs hc0 ha hob hd hf hq hL
  go_enter Tryz.func251, Tryz.ntmps251
  go_wp2_with fail
  refine Hreq.out.mono ?_
  rintro e w1 ⟨rfl, rfl⟩
  go_wp2_with fail
  refine wp_region_txt [] (by kernel_rfl) (by kernel_rfl) ?_
  repeat (first | (refine wpTxt_pure rfl rfl (fun K hK => ?_); go_simp; refine hK _ ?_; clear hK K) | (refine wpTxt_still rfl rfl (fun K hK => ?_); go_simp; refine hK _ ?_; clear hK K))
  (refine wpTxt_effect rfl rfl (fun K hK => ?_); go_simp)
  refine Hcopy.out.mono ?_
  rintro e w2 ⟨rfl, hc2, ho2⟩
  have hc2' := hc2.undrew
  have hov : ob ≠ vd := fun hh => Hob.out (.inl hh)
  have hobb : ob ≠ b := fun hh => Hob.out (.inr hh)
  have e0 := hc2'.keep k0 (fun hh => hov hh.1.symm)
  have e1 := hc2'.keep k1 (fun hh => hov hh.1.symm)
  have ef : ∀ j, j < 2 → w2.frozen? ⟨vd, j, none⟩ = false := fun j hj => (hc2'.frozen _ _ (World.block_lt_of_cell? _ _ k0)).trans (H.out.fr j hj)
  have f0 := ef 0 (by omega)
  have f1 := ef 1 (by omega)
  have hNm : ((N - m : Nat) : Int) - n = (N - (m + n) : Nat) := by omega
  have hLq : L - q = 8 * (N - (m + n)) := by have := Hq.out; have := HL.out; omega
  have hfin : ∀ a' : Option Addr, (m + n < N → a' = some ⟨b, 8 * (m + n), none⟩) → ∃ w3, w3 = (w2.setCell ⟨vd, 1, none⟩ (.slice a' (L - q) (c - q))).setCell ⟨vd, 0, none⟩ (.int .i64 (N - (m + n) : Nat)) ∧ Chg (fun a x => (a = vd ∨ a = b) ∨ (a = ob ∧ x < n)) w w3 ∧ (∀ j, j < n → w3.cell? ⟨ob, j, none⟩ = some ((floats D N).getD (m + j) .nilIface)) ∧ PD D N b vd (m + n) w3 := by
    intro a' ha'
    obtain ⟨w3, hw3⟩ : ∃ w3, w3 = (w2.setCell ⟨vd, 1, none⟩ (.slice a' (L - q) (c - q))).setCell ⟨vd, 0, none⟩ (.int .i64 (N - (m + n) : Nat)) := ⟨_, rfl⟩
    have hc3 : Chg (fun (a _ : Nat) => a = vd) w2 w3 := by rw [hw3]; exact ((Chg.refl (fun (a _ : Nat) => a = vd) w2).setCell vd 1 (fun _ => rfl) _).setCell vd 0 (fun _ => rfl) _
    refine ⟨w3, hw3, hc2'.comp hc3 (by rintro a x _ ⟨rfl, h1, h2⟩; exact .inr ⟨rfl, by omega⟩) (fun a x _ hh => .inl (.inl hh)), fun j hj => ?_, ?_⟩
    · have := ho2 j hj
      rw [Nat.zero_add] at this
      rw [floats_get D N (m + j) (by omega)]
      refine (hc3.keep this (fun hh => hov hh)).trans ?_
      congr 2
      simp [leV, Nat.mul_add, Nat.add_assoc]
    · refine ⟨by rw [hw3]; exact World.cell?_setCell_same _ _ _ (cell_ne _ e0 (by omega)), ⟨a', c - q, by rw [hw3, hLq]; exact cell_ne _ (World.cell?_setCell_same _ _ _ e1) (by omega), by omega, by omega, ha'⟩, fun j hj => by rw [hw3, World.frozen?_setCell, World.frozen?_setCell]; exact ef j hj, ?_, H.out.lt, H.out.ne, hc3.lt (hc2'.lt H.out.bl), hmn, hnl⟩
      exact (H.out.by_.keep hc2' (fun j _ hh => hobb hh.1.symm)).keep hc3 (fun j _ hh => H.out.ne hh)
  have Hfin := Lib.hid hfin
  have HNm := Lib.hid hNm
  have HLq := Lib.hid hLq
  clear hLq
  by_cases hcq : c = q
  · have hz : m + n = N := by have := Hq.out; have := HL.out; omega
    obtain ⟨w3, hw3, z1, z2, z3⟩ := Hfin.out (some ⟨b, 8 * m, none⟩) (by omega)
    have Z := Lib.hid (And.intro z1 (And.intro z2 z3))
    have Hw3 := Lib.hid hw3
    clear hc2 ho2 hc2' hfin ef hNm Hfin z1 z2 z3 hw3 Hcopy Hreq
    (refine hK _ _ ?_; clear hK K)
    repeat (first | (refine wpTxt_pure rfl rfl (fun K hK => ?_); go_simp; refine hK _ ?_; clear hK K) | (refine wpTxt_still rfl rfl (fun K hK => ?_); go_simp; refine hK _ ?_; clear hK K))
    refine wpTxt_nil ?_
    go_wp2_with fail
    go_ret2
    have hw := Hw3.out
    rw [show c - q = 0 by omega] at hw
    rw [HNm.out, ← hw]
    exact ⟨rfl, Z.out⟩
  · obtain ⟨w3, hw3, z1, z2, z3⟩ := Hfin.out (some ⟨b, 8 * m + q, none⟩) (fun _ => by rw [show 8 * (m + n) = 8 * m + q by have := Hq.out; omega])
    have Z := Lib.hid (And.intro z1 (And.intro z2 z3))
    have Hw3 := Lib.hid hw3
    clear hc2 ho2 hc2' hfin ef hNm Hfin z1 z2 z3 hw3 Hcopy Hreq
    (refine hK _ _ ?_; clear hK K)
    repeat (first | (refine wpTxt_pure rfl rfl (fun K hK => ?_); go_simp; refine hK _ ?_; clear hK K) | (refine wpTxt_still rfl rfl (fun K hK => ?_); go_simp; refine hK _ ?_; clear hK K))
    refine wpTxt_nil ?_
    go_wp2_with fail
    go_ret2
    rw [HNm.out, ← Hw3.out]
    exact ⟨rfl, Z.out⟩
theorem plain_valD (D : Nat → Nat) (N b vd : Nat) : XF.ValD (floats D N) (fun a => a = vd ∨ a = b) (fun m w => PD D N b vd m w) vd :=
  ⟨fun m w w' S h hc hS => h.keep hc hS, fun m w h a ha => by
    rcases ha with rfl | rfl
    · exact World.block_lt_of_cell? _ _ h.n
    · exact h.bl, fun m w n ob h hmn hn hob hd hf => by
    rw [floats_len] at hmn
    exact plainDec_ok D N b vd m n ob w h hmn hn hob hd hf⟩
end Go.Proofs.YtmcjpnijldhelaaGreatDoor
/- New decoders by a dictionary; their data. -/
namespace Go.Proofs.YtmcjpnijldhelaaGreatDoor
open Go Go.RowKit
/-- A reader of runs, at its beginning. -/
structure RD0 (W R B rb ro : Nat) (w : World) : Prop where
  br : BR w B rb ro 0 0 0 0
  p : w.cell? ⟨R, 0, none⟩ = some (.pointer (some ⟨B, 0, none⟩))
  wi : w.cell? ⟨R, 1, none⟩ = some (.int .i64 W)
  cu : w.cell? ⟨R, 2, none⟩ = some (.int .u64 (0 : Nat))
  re : w.cell? ⟨R, 3, none⟩ = some (.int .i32 (0 : Nat))
  li : w.cell? ⟨R, 4, none⟩ = some (.int .i32 (0 : Nat))
  fr : ∀ j, j < 5 → w.frozen? ⟨R, j, none⟩ = false
set_option maxRecDepth 100000 in
set_option maxHeartbeats 1000000 in
theorem base_ok (w : World) : Calls Tryz.prog 53 #[] w fun e w' => e = .returned (.agg #[.int .i64 0, .slice none 0 0, .int .i64 0]) ∧ Chg Nix w w' ∧ w'.heap.size = w.heap.size + 1 := by
  go_enter Tryz.func53, Tryz.ntmps53
  go_wp2_with fail
  refine bodyPost_ret (results_cell_row rfl _ _ w.heap.size 64 _ (0, 0) _ rfl (heap_alloc_new w _) Tryz.underlying64 rfl (by kernel_rfl)) rfl ?_
  exact ⟨rfl, Chg.new _ _, by simp⟩
set_option maxRecDepth 100000 in
set_option maxHeartbeats 1000000 in
theorem newPlain_ok (w : World) : Calls Tryz.prog 37 #[] w fun e w' => ∃ vd, e = .returned (.pointer (some ⟨vd, 0, none⟩)) ∧ w.heap.size < vd ∧ vd < w'.heap.size ∧ Chg Nix w w' ∧ (∃ u, w'.cell? ⟨vd, 0, none⟩ = some u) ∧ (∃ u, w'.cell? ⟨vd, 1, none⟩ = some u) ∧ ∀ j, j < 4 → w'.frozen? ⟨vd, j, none⟩ = false := by
  have H := Lib.hid (base_ok w)
  go_enter Tryz.func37, Tryz.ntmps37
  go_wp2_with fail
  refine H.out.mono ?_
  rintro e w1 ⟨rfl, hc, hs⟩
  have Hc := Lib.hid hc
  clear hc
  go_wp2_with fail
  go_ret
  rw [← hs]
  exact ⟨w1.heap.size, rfl, by omega, by simp, Hc.out.alloc _, ⟨.int .i64 0, by simp⟩, ⟨.slice none 0 0, by simp⟩, fun j hj => by simp⟩
set_option maxRecDepth 100000 in
set_option maxHeartbeats 1000000 in
theorem newTyped_ok (rb ro W : Nat) (w : World) :
    Calls Tryz.prog 79 #[.pointer (some ⟨rb, ro, none⟩), .int .i64 W] w fun e w' => ∃ R, e = .returned (.pointer (some ⟨R, 0, none⟩)) ∧ w.heap.size < R ∧ R < w'.heap.size ∧ Chg Nix w w' ∧ RD0 W R w.heap.size rb ro w' := by
  have Hcall := Lib.hid (newBits_ok rb ro w)
  go_enter Tryz.func79, Tryz.ntmps79
  go_wp2_with fail
  refine Hcall.out.mono ?_
  rintro e w1 ⟨rfl, hc, hl, hb⟩
  have Hc := Lib.hid hc
  have Hb := Lib.hid hb
  clear hc hb
  go_wp2_with fail
  go_ret
  exact ⟨_, rfl, hl, by simp, Hc.out.alloc _, ⟨Hb.out.keep (Chg.new _ _) (fun _ h => h), by simp, by simp, by simp, by simp, by simp, fun j hj => by simp⟩⟩
set_option maxRecDepth 100000 in
set_option maxHeartbeats 1000000 in
theorem reset_ok (d bo n c g : Nat) (w : World) (hd : ∀ j, j < 3 → ∃ u, w.cell? ⟨d, bo + j, none⟩ = some u) (hf : ∀ j, j < 3 → w.frozen? ⟨d, bo + j, none⟩ = false) :
    Calls Tryz.prog 72 #[.pointer (some ⟨d, bo, none⟩), .slice (some ⟨g, 1, none⟩) n c] w fun e w' => e = .returned (.tuple #[]) ∧ Chg (fun a x => a = d ∧ bo ≤ x ∧ x < bo + 3) w w' ∧ Rdr w' d bo g 1 n c 0 (-1) := by
  obtain ⟨u0, h0⟩ := hd 0 (by omega)
  obtain ⟨u1, h1⟩ := hd 1 (by omega)
  obtain ⟨u2, h2⟩ := hd 2 (by omega)
  rw [Nat.add_zero] at h0
  have f0 := hf 0 (by omega)
  have f1 := hf 1 (by omega)
  have f2 := hf 2 (by omega)
  rw [Nat.add_zero] at f0
  have Hf := Lib.hid hf
  clear hf hd
  go_enter Tryz.func72, Tryz.ntmps72
  go_wp2_with fail
  go_end0
  refine ⟨rfl, ?_, ?_⟩
  · exact (((Chg.refl _ _).setCell _ _ (fun _ => ⟨rfl, by omega, by omega⟩) _).setCell _ _ (fun _ => ⟨rfl, by omega, by omega⟩) _).setCell _ _ (fun _ => ⟨rfl, by omega, by omega⟩) _
  · refine ⟨?_, ?_, ?_, fun j hj => ?_⟩
    · exact cell_ne _ (cell_ne _ (World.cell?_setCell_same _ _ _ h0) (by omega)) (by omega)
    · exact cell_ne _ (World.cell?_setCell_same _ _ _ (cell_ne _ h1 (by omega))) (by omega)
    · exact World.cell?_setCell_same _ _ _ (cell_ne _ (cell_ne _ h2 (by omega)) (by omega))
    · rw [World.frozen?_setCell, World.frozen?_setCell, World.frozen?_setCell]; exact Hf.out j hj
/-- A decoder by a dictionary as it is made. -/
structure DN0 (d dc : Nat) (w : World) : Prop where
  oth : ∀ j, j < 12 → ∃ u, w.cell? ⟨d, j, none⟩ = some u
  fr : ∀ j, j < 12 → w.frozen? ⟨d, j, none⟩ = false
  c4 : w.cell? ⟨d, 4, none⟩ = some (.iface 160 (.pointer (some ⟨dc, 0, none⟩)))
  c5 : w.cell? ⟨d, 5, none⟩ = some (.pointer none)
set_option maxRecDepth 100000 in
set_option maxHeartbeats 1000000 in
theorem newDict_ok (us : List Value) (Ov : Nat → Prop) (Sv : Nat → World → Prop) (vd : Nat) (mv : Value) (w : World) (hV : XF.ValD us Ov Sv vd) (hS : Sv 0 w) :
    Calls Tryz.prog 38 #[.iface 73 mv, .iface 95 (.pointer (some ⟨vd, 0, none⟩)), .int .i64 us.length] w fun e w' =>
      ∃ d dc, e = .returned (.pointer (some ⟨d, 0, none⟩)) ∧ w.heap.size < d ∧ d < dc ∧ dc < w'.heap.size ∧ Chg Nix w w' ∧ DN0 d dc w' ∧ XF.DCV us Ov Sv vd dc 0 (.slice none 0 0) w' := by
  have H := Lib.hid (base_ok w)
  go_enter Tryz.func38, Tryz.ntmps38
  go_wp2_with fail
  refine H.out.mono ?_
  rintro e w1 ⟨rfl, hc, hs⟩
  have Hc := Lib.hid hc
  clear hc
  go_wp2_with fail
  go_ret
  rw [← hs]
  obtain ⟨Z2, hZ2⟩ : ∃ Z2 : Array Value, Z2 = #[.int .i64 0, .slice none 0 0, .int .i64 0, .iface 73 mv, .iface 160 (.pointer (some ⟨w1.heap.size + 1, 0, none⟩)), .pointer none, .slice none 0 0, .int .i64 0, .int .i64 0, .slice none 0 0, .slice none 0 0, .slice none 0 0] := ⟨_, rfl⟩
  obtain ⟨w2, hw2⟩ : ∃ w2, w2 = w1.alloc (.cells Z2 106) := ⟨_, rfl⟩
  obtain ⟨w3, hw3⟩ : ∃ w3, w3 = w2.alloc (.cells #[.iface 95 (.pointer (some ⟨vd, 0, none⟩)), .int .i64 us.length, .slice none 0 0, .float .f64 0] 162) := ⟨_, rfl⟩
  have hs2 : w2.heap.size = w1.heap.size + 1 := by rw [hw2]; simp
  have hs3 : w3.heap.size = w1.heap.size + 2 := by rw [hw3]; simp; omega
  have hz : Z2.size = 12 := by rw [hZ2]; rfl
  have hat : ∀ j v, Z2[j]? = some v → w3.cell? ⟨w1.heap.size, j, none⟩ = some v := fun j v hv => by rw [hw3]; exact cell_alloc _ (by rw [hw2]; exact fresh_cell rfl hv)
  have e : ∀ (i : Nat) (v : Value), #[.iface 95 (.pointer (some ⟨vd, 0, none⟩)), .int .i64 us.length, .slice none 0 0, .float .f64 0][i]? = some v → w3.cell? ⟨w1.heap.size + 1, i, none⟩ = some v := fun i v hv => by rw [hw3]; exact fresh_cell hs2.symm hv
  have hcw : Chg Nix w w3 := by rw [hw3, hw2]; exact (Hc.out.alloc _).alloc _
  rw [← hZ2, ← hw2, ← hw3]
  refine ⟨w1.heap.size, w1.heap.size + 1, rfl, by omega, by omega, by omega, hcw, ⟨fun j hj => ⟨Z2[j]'(by omega), hat j _ (Array.getElem?_eq_getElem _)⟩, fun j hj => by rw [hw3]; exact frozen_alloc _ (by omega) (by rw [hw2]; exact fresh_frozen rfl), hat 4 _ (by rw [hZ2]; rfl), hat 5 _ (by rw [hZ2]; rfl)⟩, ?_⟩
  have hOl := hV.lt 0 w hS
  exact ⟨e 0 _ rfl, e 1 _ rfl, e 2 _ rfl, e 3 _ rfl, fun j hj => by rw [hw3]; exact fresh_frozen hs2.symm, by rw [List.take_zero]; exact Own1.nil _ _ _, hV.keep _ _ _ _ hS hcw (fun _ _ h => h.elim), fun hh => by have := hOl _ hh; omega, fun g hg => by simp [Value.ownBlock] at hg, Nat.zero_le _⟩
end Go.Proofs.YtmcjpnijldhelaaGreatDoor
/- The data of a decoder by a dictionary. -/
namespace Go.Proofs.YtmcjpnijldhelaaGreatDoor
open Go Go.RowKit
/-- Behind a new reader of indexes. -/
structure Idx (W R B d g n c : Nat) (w0 w : World) : Prop where
  rdr : Rdr w d 6 g 1 n c 0 (-1)
  rd0 : RD0 W R B d 6 w
  c5 : w.cell? ⟨d, 5, none⟩ = some (.pointer (some ⟨R, 0, none⟩))
  lo : w0.heap.size ≤ B ∧ B < R ∧ R < w.heap.size
  chg : Chg (fun a x => a = d ∧ 5 ≤ x ∧ x < 9) w0 w
theorem RD0.keep {W R B rb ro : Nat} {w w' : World} (h : RD0 W R B rb ro w) {S : Nat → Nat → Prop} (hc : Chg S w w') (hB : ∀ x, ¬ S B x) (hR : ∀ x, ¬ S R x) : RD0 W R B rb ro w' :=
  ⟨h.br.keep hc hB, hc.keep h.p (hR _), hc.keep h.wi (hR _), hc.keep h.cu (hR _), hc.keep h.re (hR _), hc.keep h.li (hR _), fun j hj => (hc.frozen _ _ (World.block_lt_of_cell? _ _ h.p)).trans (h.fr j hj)⟩
set_option maxRecDepth 100000 in
set_option maxHeartbeats 1000000 in
theorem resetIdx_ok (d dc W n c g : Nat) (w : World) (h : DN0 d dc w) :
    Calls Tryz.prog 66 #[.pointer (some ⟨d, 0, none⟩), .slice (some ⟨g, 1, none⟩) n c, .int .i64 W] w fun e w' => e = .returned (.tuple #[]) ∧ ∃ R B, Idx W R B d g n c w w' := by
  have Hr := Lib.hid (reset_ok d 6 n c g w (fun j hj => h.oth _ (by omega)) (fun j hj => h.fr _ (by omega)))
  have H := Lib.hid h
  clear h
  go_enter Tryz.func66, Tryz.ntmps66
  go_wp2_with fail
  refine Hr.out.mono ?_
  rintro e w1 ⟨rfl, h1, h2⟩
  have k5 := h1.keep H.out.c5 (by omega)
  have f5 := (h1.frozen d 5 (World.block_lt_of_cell? _ _ H.out.c5)).trans (H.out.fr 5 (by omega))
  have Hn := Lib.hid (newTyped_ok d 6 W w1)
  have Hc1 := Lib.hid h1
  have Hrd := Lib.hid h2
  clear h1 h2
  go_wp2_with fail
  refine Hn.out.mono ?_
  rintro e w2 ⟨R, rfl, hl1, hl2, hc2, h3⟩
  have e5 := hc2.keep k5 (fun h => h)
  have g5 := (hc2.frozen d 5 (World.block_lt_of_cell? _ _ k5)).trans f5
  have hdl : d < w1.heap.size := World.block_lt_of_cell? _ _ k5
  have hfin : Idx W R w1.heap.size d g n c w (w2.setCell ⟨d, 5, none⟩ (.pointer (some ⟨R, 0, none⟩))) := by
    have hc3 : Chg (fun a x => a = d ∧ x = 5) w2 (w2.setCell ⟨d, 5, none⟩ (.pointer (some ⟨R, 0, none⟩))) := (Chg.refl _ _).setCell _ _ (fun _ => ⟨rfl, rfl⟩) _
    refine ⟨(Hrd.out.keep hc2 (fun _ _ h => h)).keep hc3 (by omega), h3.keep hc3 (by omega) (by omega), World.cell?_setCell_same _ _ _ e5, ⟨Hc1.out.size, hl1, by simpa using hl2⟩, ?_⟩
    exact ((Hc1.out.mono (by rintro a x _ ⟨h1, h2, h3⟩; exact ⟨h1, by omega, by omega⟩)).comp hc2 (fun _ _ _ h => h) (fun _ _ _ h => h.elim)).comp hc3 (fun _ _ _ h => h) (by rintro a x _ ⟨h1, h2⟩; exact ⟨h1, by omega, by omega⟩)
  have Hf := Lib.hid hfin
  clear hc2 h3 hfin
  go_wp2_with fail
  refine bodyPost_ret (results_none rfl _ _ _) rfl ?_
  exact ⟨rfl, _, _, Hf.out⟩
set_option maxRecDepth 100000 in
set_option maxHeartbeats 1000000 in
theorem setDict_ok (us : List Value) (Ov : Nat → Prop) (Sv : Nat → World → Prop) (vd d dc g L c W : Nat) (ee eu : Addr) (bs vs : List Nat) (w : World) (hV : XF.ValD us Ov Sv vd) (hD : DN0 d dc w) (hC : XF.DCV us Ov Sv vd dc 0 (.slice none 0 0) w) (hE : Eofs w ee eu)
    (hB : Bytes w g 0 (1 + L) (fun j => bs.getD j 0)) (hb : ∀ x ∈ bs, x < 256) (hbl : bs.length = 1 + L) (hW : bs.getD 0 0 = W) (hW1 : 1 ≤ W) (hW2 : W ≤ 31) (hL : 1 ≤ L) (hLb : L ≤ 1000000) (hLc : 1 + L ≤ c) (hcb : c ≤ 9223372036854775807) (hr : Runs (fun j => bs.getD (1 + j) 0) L W 0 vs)
    (hgd : 7 < d) (hgg : 7 < g) (hdg : g ≠ d) (hgl : g < w.heap.size) (hsep : ∀ a, XF.OD dc Ov (.slice none 0 0) a → a ≠ d ∧ a ≠ g ∧ 7 < a) :
    Calls Tryz.prog 39 #[.pointer (some ⟨d, 0, none⟩), .int .i64 vs.length, .slice (some ⟨g, 0, none⟩) (1 + L) c] w fun e w' => e = .returned .nilIface ∧ Chg (fun a _ => a = d) w w' ∧
      ∃ cc R, cc.rb = d ∧ XF.SDs cc W R us Ov Sv vd dc vs (XF.OS cc R dc Ov (.slice none 0 0)) 0 w' ∧ ∀ a, XF.OS cc R dc Ov (.slice none 0 0) a → a ≤ 7 ∨ a = d ∨ a = g ∨ XF.OD dc Ov (.slice none 0 0) a ∨ w.heap.size ≤ a := by
  obtain ⟨u0, h0⟩ := hD.oth 0 (by omega)
  have f0 := hD.fr 0 (by omega)
  have k0 : w.cell? ⟨g, 0, none⟩ = some (.int .u8 W) := by rw [← hW]; exact hB 0 (by omega)
  obtain ⟨w1, hw1⟩ : ∃ w1, w1 = w.setCell ⟨d, 0, none⟩ (.int .i64 vs.length) := ⟨_, rfl⟩
  have hc1 : Chg (fun a x => a = d ∧ x = 0) w w1 := by rw [hw1]; exact (Chg.refl _ _).setCell _ _ (fun _ => ⟨rfl, rfl⟩) _
  have k1 : w1.cell? ⟨g, 0, none⟩ = some (.int .u8 W) := hc1.keep k0 (fun hh => hdg hh.1)
  have e0 : w1.cell? ⟨d, 0, none⟩ = some (.int .i64 vs.length) := by rw [hw1]; exact World.cell?_setCell_same _ _ _ h0
  have hD1 : DN0 d dc w1 := by
    refine ⟨fun j hj => ?_, fun j hj => (hc1.frozen _ _ (World.block_lt_of_cell? _ _ h0)).trans (hD.fr j hj), hc1.keep hD.c4 (by omega), hc1.keep hD.c5 (by omega)⟩
    rw [hw1]
    exact cell_is _ (hD.oth j hj)
  have Hres := Lib.hid (resetIdx_ok d dc W L (c - 1) g w1 hD1)
  have hcW : IntKind.i64.wrap (W : Int) = W := IntWalk.i64_in _ (by omega)
  have hW64 : ¬ (64 : Int) ≤ W := by omega
  have hl0 : ¬ 1 + L = 0 := by omega
  have hl0' : (((1 + L : Nat) : Int) == 0) = false := by simp; omega
  have hc1' : ¬ c = 1 := by omega
  have hsub : 1 + L - 1 = L := by omega
  have HC := Lib.hid hC
  have HE := Lib.hid hE
  have HB := Lib.hid hB
  have Hc1 := Lib.hid hc1
  have Hr := Lib.hid hr
  have Hsep := Lib.hid hsep
  have Hb := Lib.hid hb
  have HD := Lib.hid hD
  have He0 := Lib.hid e0
  have Hbl := Lib.hid hbl
  have HW := Lib.hid hW
  have Hw1 := Lib.hid hw1
  rw [hw1] at k1 Hres
  clear hC hE hB hc1 hr hsep hb hD1 hD k0 e0 hbl hW hw1
  go_enter Tryz.func39, Tryz.ntmps39
  go_wp2_with fail
  refine Hres.out.mono ?_
  rw [← Hw1.out]
  rintro e w2 ⟨rfl, R, B, hI⟩
  have HI := Lib.hid hI
  clear hI Hres k1
  go_wp2_with fail
  go_ret
  have hI := HI.out
  have hc1 := Hc1.out
  have hc2 := hI.chg
  have hs1 : w.heap.size ≤ w1.heap.size := hc1.size
  have hlB := hI.lo.1
  have hdl : d < w.heap.size := World.block_lt_of_cell? _ _ h0
  have hBR := hI.lo.2.1
  have hc12 : Chg (fun a x => a = d ∧ x < 9) w w2 := hc1.comp hc2 (by rintro a x _ ⟨h1, h2⟩; exact ⟨h1, by omega⟩) (by rintro a x _ ⟨h1, h2, h3⟩; exact ⟨h1, h3⟩)
  have hO : ∀ a x, (a = d ∧ x < 9) → ¬ XF.OD dc Ov (.slice none 0 0) a := by rintro a x ⟨rfl, -⟩ hh; exact (Hsep.out _ hh).1 rfl
  have hC2 := HC.out.keep hV hc12 hO
  have hOl := HC.out.lt hV
  obtain ⟨D, hDe⟩ : ∃ D : Nat → Nat, D = fun j => bs.getD (1 + j) 0 := ⟨_, rfl⟩
  have hlt : ∀ j, bs.getD j 0 < 256 := fun j => by
    rw [List.getD_eq_getElem?_getD]
    cases hj : bs[j]? with
    | none => decide
    | some v => exact Hb.out v (List.mem_of_getElem? hj)
  have hdata : Data w2 g 1 L D := by
    refine ⟨?_, fun j => by rw [hDe]; exact hlt _, fun j hj => ?_⟩
    · have := ((HB.out.keep hc12 (fun j _ hh => hdg hh.1)).sub 1 L (by omega))
      rw [hDe]
      exact this
    · rw [hDe]
      show bs.getD (1 + j) 0 = 0
      rw [List.getD_eq_getElem?_getD, List.getElem?_eq_none (by have := Hbl.out; omega)]; rfl
  have henv : Env ⟨B, d, 6, g, 1, L, c - 1, ee, eu, D⟩ w2 :=
    ⟨⟨0, -1, hI.rdr⟩, hdata, HE.out.keep hc12 (by rintro ⟨h1, -⟩; omega) (by rintro ⟨h1, -⟩; omega), (by omega : L ≤ c - 1), (by omega : c - 1 ≤ 9223372036854775807), (by omega : L ≤ 1000000000000000000), (by omega : g ≠ B), (by omega : d ≠ B), hdg, (by omega : 7 < B), hgd⟩
  have hRD : RD ⟨B, d, 6, g, 1, L, c - 1, ee, eu, D⟩ W R 0 0 0 0 0 w2 :=
    ⟨⟨henv, Nat.zero_le _, _, _, hI.rd0.br, fun h => absurd h (Nat.lt_irrefl _)⟩, hI.rd0.p, hI.rd0.wi, hI.rd0.cu, hI.rd0.re, hI.rd0.li, hI.rd0.fr, (by omega : R ≠ B), (by omega : R ≠ d), (by omega : R ≠ g), (by omega : 7 < R)⟩
  refine ⟨rfl, hc12.mono (fun a x _ hh => hh.1), ⟨B, d, 6, g, 1, L, c - 1, ee, eu, D⟩, R, rfl, ⟨⟨0, 0, 0, 0, 0, 0, _, hRD, by rw [List.drop_zero]; exact .idle 0 0 0 vs (by rw [hDe]; exact Hr.out), hC2, ?_, fun a => Iff.rfl⟩, ?_, ?_, ?_, hI.c5, rfl, hL, Nat.zero_le _⟩, ?_⟩
  · intro a ha
    obtain ⟨g1, g2, g3⟩ := Hsep.out a ha
    have := hOl a ha
    exact ⟨(by omega : a ≠ B), by omega, g1, g2, g3⟩
  · exact hc2.keep He0.out (by omega)
  · exact ((hc2.frozen _ _ (by have := hc1.lt hdl; exact this)).trans (hc1.frozen _ _ hdl)).trans f0
  · exact hc2.keep (hc1.keep HD.out.c4 (by omega)) (by omega)
  · rintro a (hh | hh | hh | hh | hh | hh)
    · exact .inl hh
    · exact .inr (.inr (.inr (.inr (by have : a = B := hh; omega))))
    · exact .inr (.inr (.inr (.inr (by omega))))
    · exact .inr (.inl hh)
    · exact .inr (.inr (.inl hh))
    · exact .inr (.inr (.inr (.inl hh)))
end Go.Proofs.YtmcjpnijldhelaaGreatDoor
/- impl.decoded, over whatever decoder whose own blocks may grow. Of float64. -/
namespace Go.Proofs.YtmcjpnijldhelaaGreatDoor
open Go Go.RowKit
namespace XF
/-- A batch as a decoder gives it. -/
def RdEnd (St : (Nat → Prop) → Nat → World → Prop) (xs : List Value) (O : Nat → Prop) (p n ob : Nat) (w : World) (e : Ending) (w' : World) : Prop :=
  e = .returned (.tuple #[.int .i64 n, .nilIface]) ∧ Chg (fun a x => (O a ∧ 7 < a) ∨ (a = ob ∧ x < n)) w w' ∧ (∀ j, j < n → w'.cell? ⟨ob, j, none⟩ = some (xs.getD (p + j) .nilIface)) ∧ ∃ O', Grow O w O' ∧ St O' (p + n) w'
/-- What a decoder of the values xs owes: St O p w: it stands behind p values in w and owns the blocks O. -/
structure DecG (St : (Nat → Prop) → Nat → World → Prop) (xs : List Value) (fR fD d : Nat) : Prop where
  lt : ∀ O p w, St O p w → ∀ a, O a → a < w.heap.size
  keep : ∀ O p w w' S, St O p w → Chg S w w' → (∀ a x, S a x → ¬ O a) → St O p w'
  ds : ∀ O p w n, St O p w → p + n ≤ xs.length → Calls Tryz.prog fD #[.pointer (some ⟨d, 0, none⟩), .int .i64 n] w fun e w' => e = .returned (.tuple #[.int .i64 n, .nilIface]) ∧ Chg (fun a _ => O a ∧ 7 < a) w w' ∧ ∃ O', Grow O w O' ∧ St O' (p + n) w'
  rd : ∀ O p w n ob, St O p w → p + n ≤ xs.length → n ≤ 1000000 → ¬ O ob → ob < w.heap.size → (∀ j, j < n → w.cell? ⟨ob, j, none⟩ = some (.float .f64 0)) → (∀ j, j < n → w.frozen? ⟨ob, j, none⟩ = false) → Calls Tryz.prog fR #[.pointer (some ⟨d, 0, none⟩), .slice (some ⟨ob, 0, none⟩) n n] w (RdEnd St xs O p n ob w)
/-- What holds at the head of the loop. -/
structure RF (St : (Nat → Prop) → Nat → World → Prop) (O0 : Nat → Prop) (ns : List Int) (xs : List Value) (w wx : World) (k : Nat) (v : Value) (p : Nat) (done : List Value) (O : Nat → Prop) : Prop where
  own : Own1 wx w.heap.size 93 v done
  st : St O p wx
  gr : Grow O0 w O
  ov : ∀ g, v.ownBlock = some g → ¬ O g
  pl : p ≤ xs.length
  fits : FitsN (ns.drop k) (xs.length - p)
  sum : done ++ takesV (ns.drop k) (xs.drop p) = takesV ns xs
  len : done.length + (xs.length - p) ≤ 100000000
  chg : Chg (fun a _ => O0 a ∧ 7 < a) w wx
theorem dropcons (ns : List Int) (k : Nat) (h : k < ns.length) : ns.drop k = ns[k] :: ns.drop (k + 1) := List.drop_eq_getElem_cons h
theorem Reads.cells {w : World} {g n c : Nat} {xs : List Value} (h : Reads w (.slice (some ⟨g, 0, none⟩) n c) xs) : n = xs.length := by
  obtain ⟨p, c', hh, -⟩ := h
  injection hh
/-- append to a row of one's own. -/
theorem wpList_append_E {w : World} {ops : Array Oper} {rest : List Oper} {o : Oper} {a : Act} {Q : Exit → Act → World → Prop} (hgd : o.guard = none) (s x : Operand)
    (ho : o.op = .call { callee := .builtin .append, args := #[s, x], argTypes := #[107, 107] })
    (base : Nat) (v : Value) (xs : List Value) (hs : a.eval s = v) (hown : Own1 w base 93 v xs)
    (y : Value) (news : List Value) (hx : a.eval x = y) (hy : Reads w y news) (h1 : ∀ u ∈ news, u.oneCell' = true)
    (hb : xs.length + news.length ≤ 1000000000) (hbase : base ≤ w.heap.size)
    (h : ∀ v' w', Own1 w' base 93 v' (xs ++ news) → Chg (fun k _ => v.ownBlock = some k) w w' → Stays w v v' → wpList Tryz.prog ops Q rest (a.put o.dst v') w') : wpList Tryz.prog ops Q (o :: rest) a w := by
  obtain ⟨i, hi, hz, hs1, hby⟩ := info_parts infoE
  exact wpList_append_own hgd s x 107 ho base 93 i (.float .f64 0) 8 Tryz.underlying107 hi hz hs1 hby rfl v xs hs hown y news hx hy h1 (by unfold maxLen; omega) (by omega) hbase h
set_option maxRecDepth 100000 in
set_option maxHeartbeats 1000000 in
theorem decoded_ok (St : (Nat → Prop) → Nat → World → Prop) (O0 : Nat → Prop) (xs : List Value) (fR fD d bc : Nat) (bp : Option Addr) (ns : List Int) (w : World) (h0 : St O0 0 w) (hD : DecG St xs fR fD d) (hv : xs.length ≤ 10000000) (hx1 : ∀ u ∈ xs, u.oneCell' = true)
    (heR : ∀ (args : Array Value) (w : World), (callFunc fR args).run Tryz.prog w = .ok (.enter fR args) w) (heD : ∀ (args : Array Value) (w : World), (callFunc fD args).run Tryz.prog w = .ok (.enter fD args) w)
    (hns : ∀ j (hj : j < ns.length), ∃ g o, bp = some ⟨g, o, none⟩ ∧ w.cell? ⟨g, o + j, none⟩ = some (.int .i64 ns[j]) ∧ ¬ (O0 g ∧ 7 < g)) (hnc : ns.length ≤ 1000000) (hf : FitsN ns xs.length) :
    Calls Tryz.prog 40 #[.slice bp ns.length bc, .func (.func fR) #[.pointer (some ⟨d, 0, none⟩)] #[], .func (.func fD) #[.pointer (some ⟨d, 0, none⟩)] #[]] w fun e w' =>
      ∃ v, e = .returned (.tuple #[v, .bool true]) ∧ Own1 w' w.heap.size 93 v (takesV ns xs) ∧ Chg (fun a _ => O0 a ∧ 7 < a) w w' := by
  have hb0 : RF St O0 ns xs w w 0 (.slice none 0 0) 0 [] O0 := ⟨Own1.nil _ _ _, h0, Grow.refl _ _, fun g hg => by simp [Value.ownBlock] at hg, Nat.zero_le _, hf, rfl, by simp; omega, Chg.refl _ _⟩
  have Hb0 := Lib.hid hb0
  have HD := Lib.hid hD
  have Hns := Lib.hid hns
  have Hx1 := Lib.hid hx1
  clear hb0 h0 hD hns hf hx1
  go_enter Tryz.func40, Tryz.ntmps40
  go_wp2_with fail
  go_loopw [6, 17] (fun v i wx => ∃ k p done v6 O, k ≤ ns.length ∧ i = .int .i64 (k : Nat) ∧ v6 = v ∧ RF St O0 ns xs w wx k v6 p done O) (fun _ i _ => ns.length - (intOf i).toNat)
  case atStart => exact ⟨0, 0, [], _, _, Nat.zero_le _, rfl, rfl, Hb0.out⟩
  case round =>
    obtain ⟨k, p, done, v6, O, hk, rfl, rfl, hG⟩ := hrel
    clear Hb0
    by_cases hlt : k < ns.length
    · obtain ⟨g, go, rfl, hcell, hgo⟩ := Hns.out k hlt
      have hcell2 := hG.chg.keep hcell hgo
      obtain ⟨n, hn⟩ : ∃ n, n = ns[k] := ⟨_, rfl⟩
      rw [← hn] at hcell2
      have hfit := hG.fits
      have hsum := hG.sum
      rw [dropcons ns k hlt, ← hn] at hfit hsum
      obtain ⟨g1, g2, g3⟩ := hfit
      have hpl := hG.pl
      by_cases hneg : n < 0
      · obtain ⟨m, rfl⟩ : ∃ m : Nat, n = -(m : Int) := ⟨n.natAbs, by omega⟩
        rw [Int.natAbs_neg, Int.natAbs_natCast] at g1 g2 g3
        rw [takesV, if_pos hneg, List.nil_append, Int.natAbs_neg, Int.natAbs_natCast, List.drop_drop] at hsum
        have hm0 : 1 ≤ m := by omega
        have Hcall := Lib.hid (HD.out.ds O p wr m hG.st (by omega))
        have hlt' : (-(m : Int)) < 0 := by omega
        have hww : IntKind.i64.wrap (m : Int) = m := IntWalk.i64_in _ (by omega)
        have HG := Lib.hid hG
        have Hsum := Lib.hid hsum
        have Hg3 := Lib.hid g3
        clear hG hn hcell hsum g3
        go_wp2_with fail
        refine Hcall.out.mono ?_
        rintro e w3 ⟨rfl, h3, O', hgr, hs3⟩
        have hst : RF St O0 ns xs w w3 (k + 1) v6 (p + m) done O' := by
          refine ⟨HG.out.own.keepAt h3 (fun g hg o hh => HG.out.ov g hg hh.1), hs3, HG.out.gr.trans hgr HG.out.chg.size, fun g hg hh => ?_, by omega, by rw [show xs.length - (p + m) = xs.length - p - m by omega]; exact Hg3.out, Hsum.out, by have := HG.out.len; omega, HG.out.chg.comp h3 (fun _ _ _ h => h) (fun a x ha hh => ⟨(HG.out.gr a hh.1).resolve_right (by omega), hh.2⟩)⟩
          rcases hgr g hh with h6 | h6
          · exact HG.out.ov g hg h6
          · have := (HG.out.own.lt g hg).2; omega
        have Hst := Lib.hid hst
        clear hst h3 hs3 hgr
        go_wp2_with fail
        go_roundw
        case rel => exact ⟨k + 1, _, _, _, _, by omega, by go_num, rfl, Hst.out⟩
        case measure => simp [intOf]; omega
      · obtain ⟨m, rfl⟩ : ∃ m : Nat, n = (m : Int) := ⟨n.natAbs, by omega⟩
        rw [Int.natAbs_natCast] at g1 g2 g3
        rw [takesV, if_neg hneg, Int.natAbs_natCast, List.drop_drop, ← List.append_assoc] at hsum
        have hmk := make_row m g2
        obtain ⟨X, hX⟩ : ∃ X, X = Obj.cells (madeCells #[(.float .f64 0)] m) 93 := ⟨_, rfl⟩
        have hfr1 : ∀ j, j < m → (wr.alloc X).cell? ⟨wr.heap.size, j, none⟩ = some (.float .f64 0) := fun j hj => by rw [hX]; exact made_cell wr _ m j _ hj
        have hfr2 : ∀ j, j < m → (wr.alloc X).frozen? ⟨wr.heap.size, j, none⟩ = false := fun j hj => by rw [hX]; exact fresh_frozen rfl
        rw [← hX] at hmk
        have hst1 : St O p (wr.alloc X) := HD.out.keep O p wr _ _ hG.st (Chg.new wr X) (fun _ _ h => h.elim)
        have hoO : ¬ O wr.heap.size := fun hh => by have := HD.out.lt O p wr hG.st _ hh; omega
        have Hcall := Lib.hid (HD.out.rd O p (wr.alloc X) m wr.heap.size hst1 (by omega) g2 hoO (by simp) hfr1 hfr2)
        have HG := Lib.hid hG
        have Hsum := Lib.hid hsum
        have Hg3 := Lib.hid g3
        have HoO := Lib.hid hoO
        have hlt' : ¬ (m : Int) < 0 := by omega
        clear hG hn hcell hsum g3 hX hfr1 hfr2 hst1 hoO
        go_wp2_with fail
        refine Hcall.out.mono ?_
        rintro e w3 ⟨rfl, h3, hc3, O', hgr, hs3⟩
        have hlw := HG.out.chg.size
        have hch : Chg (fun a _ => O0 a ∧ 7 < a) w w3 := HG.out.chg.comp (h3.unalloc (T := fun a x => O a ∧ 7 < a) (by
          rintro a x ha (hh | ⟨hh, -⟩)
          · exact hh
          · omega)) (fun _ _ _ h => h) (fun a x ha hh => ⟨(HG.out.gr a hh.1).resolve_right (by omega), hh.2⟩)
        have hown : Own1 w3 w.heap.size 93 v6 done := (HG.out.own.keep (Chg.new wr X) (fun _ _ _ h => h.elim)).keepAt h3 (by
          rintro g hg o (hh | ⟨hh, -⟩)
          · exact HG.out.ov g hg hh.1
          · have := (HG.out.own.lt g hg).2
            omega)
        have hgrO : Grow O wr O' := fun a ha => (hgr a ha).imp id (fun h => by simp at h; omega)
        have hov : ∀ g, v6.ownBlock = some g → ¬ O' g := fun g hg hh => by
          rcases hgrO g hh with h6 | h6
          · exact HG.out.ov g hg h6
          · have := (HG.out.own.lt g hg).2; omega
        have hrd3 := reads_sub (w := w3) (g := wr.heap.size) (c := m) (n := m) (m := p) (us := xs) (by omega) hc3
        have hlen3 : ((xs.drop p).take m).length = m := (Reads.cells hrd3).symm
        have Hown := Lib.hid hown
        have Hch := Lib.hid hch
        have Hrd3 := Lib.hid hrd3
        have Hlen3 := Lib.hid hlen3
        have Hs3 := Lib.hid hs3
        have HgrO := Lib.hid hgrO
        have Hov := Lib.hid hov
        clear h3 hc3 hs3 hch hown hrd3 hlen3 Hcall hmk hgr hgrO hov
        go_wp2_with (at_builtin; go_loud (refine (wpList_append_E rfl (.tmp 47) (.tmp 50) rfl w.heap.size _ done rfl Hown.out _ ((xs.drop p).take m) rfl Hrd3.out (fun u hu => Hx1.out u (List.mem_of_mem_drop (List.mem_of_mem_take hu))) (by rw [Hlen3.out]; have := HG.out.len; omega) Hch.out.size ?_)))
        intro v' w' hO' hC' hSt'
        have hst : RF St O0 ns xs w w' (k + 1) v' (p + m) (done ++ (xs.drop p).take m) O' := by
          refine ⟨hO', HD.out.keep _ _ _ _ _ Hs3.out hC' (fun a x h => Hov.out a h), HG.out.gr.trans HgrO.out HG.out.chg.size, fun g hg hh => ?_, by omega, by rw [show xs.length - (p + m) = xs.length - p - m by omega]; exact Hg3.out, Hsum.out, by have := HG.out.len; rw [List.length_append, List.length_take, List.length_drop]; omega, Hch.out.comp hC' (fun _ _ _ h => h) (fun a x ha h => by have := (Hown.out.lt a h).1; omega)⟩
          rcases hSt' g hg with h6 | h6
          · exact Hov.out g h6 hh
          · have := HD.out.lt _ _ _ Hs3.out g hh; omega
        have Hst := Lib.hid hst
        clear hst hO' hC' hSt' Hown Hch Hrd3 Hs3
        go_wp2_with fail
        go_roundw
        case rel => exact ⟨k + 1, _, _, _, _, by omega, by go_num, rfl, Hst.out⟩
        case measure => simp [intOf]; omega
    · have hke : k = ns.length := by omega
      subst hke
      have hsum := hG.sum
      rw [List.drop_length] at hsum
      simp only [takesV, List.append_nil] at hsum
      have HG := Lib.hid hG
      have Hsum := Lib.hid hsum
      clear hG hsum
      go_wp2_with fail
      go_ret2
      refine ⟨_, rfl, ?_, HG.out.chg⟩
      rw [← Hsum.out]
      exact HG.out.own
end XF
end Go.Proofs.YtmcjpnijldhelaaGreatDoor
