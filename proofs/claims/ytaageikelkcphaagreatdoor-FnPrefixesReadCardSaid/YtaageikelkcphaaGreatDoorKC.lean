/- Part 3 of the proof: the texts D, E, F, M2, joined. What each proves stands ahead of it. -/
import Derived.Test.YtaageikelkcphaaGreatDoorKA
import Derived.Test.YtaageikelkcphaaGreatDoorKB
import Derived.LaidEql
import Derived.Deep.CutBlock
import Derived.Deep.DeepCutAuto
import Derived.Laws.BitsLemmas
set_option linter.unusedVariables false
set_option linter.unusedSimpArgs false
/- The reader of bits: its buffer. -/
namespace Go.Proofs.YtaageikelkcphaaGreatDoor
open Go Go.RowKit

/-- A BitReader, a block of its own. -/
structure BR (w : World) (B rb ro o f : Nat) (buf vb : Int) : Prop where
  rd : w.cell? ⟨B, 0, none⟩ = some (.iface 92 (.pointer (some ⟨rb, ro, none⟩)))
  bu : w.cell? ⟨B, 1, none⟩ = some (.int .u64 buf)
  bo : w.cell? ⟨B, 2, none⟩ = some (.int .i64 o)
  bi : w.cell? ⟨B, 3, none⟩ = some (.int .u64 f)
  va : w.cell? ⟨B, 4, none⟩ = some (.int .u64 vb)
  raw : ∀ j, j < 8 → ∃ u, w.cell? ⟨B, 5 + j, none⟩ = some u
  up : ∀ j, j < 1024 → ∃ u, w.cell? ⟨B, 13 + j, none⟩ = some u
  fr : ∀ j, j < 1037 → w.frozen? ⟨B, j, none⟩ = false
theorem BR.lt {w : World} {B rb ro o f : Nat} {buf vb : Int} (h : BR w B rb ro o f buf vb) : B < w.heap.size := World.block_lt_of_cell? w _ h.rd
theorem BR.keep {w w' : World} {B rb ro o f : Nat} {buf vb : Int} (h : BR w B rb ro o f buf vb) {S : Nat → Nat → Prop} (hc : Chg S w w') (hS : ∀ x, ¬ S B x) : BR w' B rb ro o f buf vb :=
  ⟨hc.keep h.rd (hS _), hc.keep h.bu (hS _), hc.keep h.bo (hS _), hc.keep h.bi (hS _), hc.keep h.va (hS _), fun j hj => let ⟨u, hu⟩ := h.raw j hj; ⟨u, hc.keep hu (hS _)⟩, fun j hj => let ⟨u, hu⟩ := h.up j hj; ⟨u, hc.keep hu (hS _)⟩, fun j hj => (hc.frozen _ _ h.lt).trans (h.fr j hj)⟩
theorem BR.drew {w : World} {B rb ro o f : Nat} {buf vb : Int} (h : BR w B rb ro o f buf vb) : BR w.drew B rb ro o f buf vb := ⟨h.rd, h.bu, h.bo, h.bi, h.va, h.raw, h.up, h.fr⟩

theorem readAt_any (rb ro b bo L C pb po n c off : Nat) (ee eu : Addr) (i pr : Int) (D : Nat → Nat) (w : World) (hR : Rdr w rb ro b bo L C i pr) (hD : Bytes w b bo L D) (hE : Eofs w ee eu) (hpb : 0 < pb) (hL : L ≤ C)
    (hp : ∀ j, j < n → ∃ u, w.cell? ⟨pb, po + j, none⟩ = some u) (hpf : ∀ j, j < n → w.frozen? ⟨pb, po + j, none⟩ = false) :
    Calls Tryz.prog 129 #[.pointer (some ⟨rb, ro, none⟩), .slice (some ⟨pb, po, none⟩) n c, .int .i64 off] w fun e w' =>
      RetErr ee (min (L - off) n : Nat) e ∧ Chg (fun k x => k = pb ∧ po ≤ x ∧ x < po + min (L - off) n) w w' ∧ Bytes w' pb po (min (L - off) n) (fun j => D (off + j)) := by
  by_cases ho : off < L
  · exact readAt_in rb ro b bo L C pb po n c off ee eu i pr D w hR hD hE hpb ho hL hp hpf
  · refine (readAt_out rb ro b bo L C n c off ee eu _ i pr w hR hE (by omega)).mono ?_
    rintro e w1 ⟨rfl, hc⟩
    have e0 : min (L - off) n = 0 := by omega
    rw [e0]
    exact ⟨.inr rfl, hc.mono (fun _ _ _ h => h.elim), fun j hj => by omega⟩

theorem neq_err_same (a : Addr) (w : World) : (binOp .neq 44 (.iface 99 (.pointer (some a))) (.iface 99 (.pointer (some a)))).run Tryz.prog w = .ok (.bool false) w := by
  have hms : Tryz.prog.underlying 44 = some (.interface (Tryz.prog.methodsAt 44)) := by kernel_rfl
  obtain ⟨i, hi⟩ : ∃ i, Tryz.prog.info? 99 = some i := Option.isSome_iff_exists.1 (by kernel_rfl)
  obtain ⟨j, hj⟩ : ∃ i, Tryz.prog.info? 101 = some i := Option.isSome_iff_exists.1 (by kernel_rfl)
  have hc : i.comparable = true := by
    have : (Tryz.prog.info? 99).map (·.comparable) = some true := by kernel_rfl
    simpa [hi] using this
  simp only [binOp]
  simp [Op.equal, Op.maxDepth, run_equalIn_iface_ptr_same w 9998 a hms (show Tryz.prog.underlying 99 = some (.pointer 101) by kernel_rfl) hi hc hj]

/-- Behind ReadAt and with the count of bits laid: what is known. -/
structure Fil (B rb ro o f m : Nat) (buf vb : Int) (D : Nat → Nat) (w wr : World) (i : Nat) : Prop where
  chg : Chg (fun k x => k = B ∧ (x = 1 ∨ x = 4 ∨ (5 ≤ x ∧ x < 13))) w wr
  br : BR wr B rb ro o f buf vb
  raw : ∀ j, j < m → wr.cell? ⟨B, 5 + j, none⟩ = some (.int .u8 (D (o + j)))
  zer : ∀ j, m ≤ j → j < i → wr.cell? ⟨B, 5 + j, none⟩ = some (.int .u8 0)
theorem cell_ne {w : World} {B x k y : Nat} {v : Value} (u : Value) (h : w.cell? ⟨k, y, none⟩ = some v) (hn : ¬ (k = B ∧ y = x)) : (w.setCell ⟨B, x, none⟩ u).cell? ⟨k, y, none⟩ = some v := by
  rw [World.cell?_setCell_other _ ⟨B, x, none⟩ ⟨k, y, none⟩ _ (by intro e; injection e with e1 e2; exact hn ⟨e1.symm, e2.symm⟩)]; exact h
theorem cell_is {w : World} {B x y : Nat} (u : Value) (h : ∃ v, w.cell? ⟨B, y, none⟩ = some v) : ∃ v, (w.setCell ⟨B, x, none⟩ u).cell? ⟨B, y, none⟩ = some v := by
  obtain ⟨v, hv⟩ := h
  by_cases hx : y = x
  · subst hx; exact ⟨u, World.cell?_setCell_same _ _ _ hv⟩
  · exact ⟨v, cell_ne u hv (by intro h; exact hx h.2)⟩
theorem BR.raw' {w : World} {B rb ro o f : Nat} {buf vb : Int} (h : BR w B rb ro o f buf vb) (x : Nat) (hx : 5 ≤ x) (v : Value) : BR (w.setCell ⟨B, x, none⟩ v) B rb ro o f buf vb :=
  ⟨cell_ne v h.rd (by omega), cell_ne v h.bu (by omega), cell_ne v h.bo (by omega), cell_ne v h.bi (by omega), cell_ne v h.va (by omega), fun j hj => cell_is v (h.raw j hj), fun j hj => cell_is v (h.up j hj), fun j hj => by rw [World.frozen?_setCell]; exact h.fr j hj⟩
theorem BR.vb' {w : World} {B rb ro o f : Nat} {buf vb : Int} (h : BR w B rb ro o f buf vb) (v : Int) : BR (w.setCell ⟨B, 4, none⟩ (.int .u64 v)) B rb ro o f buf v :=
  ⟨cell_ne _ h.rd (by omega), cell_ne _ h.bu (by omega), cell_ne _ h.bo (by omega), cell_ne _ h.bi (by omega), World.cell?_setCell_same _ _ _ h.va, fun j hj => cell_is _ (h.raw j hj), fun j hj => cell_is _ (h.up j hj), fun j hj => by rw [World.frozen?_setCell]; exact h.fr j hj⟩
theorem BR.buf' {w : World} {B rb ro o f : Nat} {buf vb : Int} (h : BR w B rb ro o f buf vb) (v : Int) : BR (w.setCell ⟨B, 1, none⟩ (.int .u64 v)) B rb ro o f v vb :=
  ⟨cell_ne _ h.rd (by omega), World.cell?_setCell_same _ _ _ h.bu, cell_ne _ h.bo (by omega), cell_ne _ h.bi (by omega), cell_ne _ h.va (by omega), fun j hj => cell_is _ (h.raw j hj), fun j hj => cell_is _ (h.up j hj), fun j hj => by rw [World.frozen?_setCell]; exact h.fr j hj⟩
theorem BR.off' {w : World} {B rb ro o f : Nat} {buf vb : Int} (h : BR w B rb ro o f buf vb) (v : Nat) : BR (w.setCell ⟨B, 2, none⟩ (.int .i64 v)) B rb ro v f buf vb :=
  ⟨cell_ne _ h.rd (by omega), cell_ne _ h.bu (by omega), World.cell?_setCell_same _ _ _ h.bo, cell_ne _ h.bi (by omega), cell_ne _ h.va (by omega), fun j hj => cell_is _ (h.raw j hj), fun j hj => cell_is _ (h.up j hj), fun j hj => by rw [World.frozen?_setCell]; exact h.fr j hj⟩
theorem BR.bit' {w : World} {B rb ro o f : Nat} {buf vb : Int} (h : BR w B rb ro o f buf vb) (v : Nat) : BR (w.setCell ⟨B, 3, none⟩ (.int .u64 v)) B rb ro o v buf vb :=
  ⟨cell_ne _ h.rd (by omega), cell_ne _ h.bu (by omega), cell_ne _ h.bo (by omega), World.cell?_setCell_same _ _ _ h.bi, cell_ne _ h.va (by omega), fun j hj => cell_is _ (h.raw j hj), fun j hj => cell_is _ (h.up j hj), fun j hj => by rw [World.frozen?_setCell]; exact h.fr j hj⟩
/-- What a change of raw cells, or of the buffer to unpack into, leaves. -/
theorem BR.keep5 {w w' : World} {B rb ro o f : Nat} {buf vb : Int} (h : BR w B rb ro o f buf vb) {S : Nat → Nat → Prop} (hc : Chg S w w') (hS : ∀ x, x < 5 → ¬ S B x) (hr : ∀ j, j < 1032 → S B (5 + j) → ∃ u, w'.cell? ⟨B, 5 + j, none⟩ = some u) : BR w' B rb ro o f buf vb := by
  refine ⟨hc.keep h.rd (hS _ (by omega)), hc.keep h.bu (hS _ (by omega)), hc.keep h.bo (hS _ (by omega)), hc.keep h.bi (hS _ (by omega)), hc.keep h.va (hS _ (by omega)), fun j hj => ?_, fun j hj => ?_, fun j hj => (hc.frozen _ _ h.lt).trans (h.fr j hj)⟩
  · by_cases hs : S B (5 + j)
    · exact hr j (by omega) hs
    · obtain ⟨u, hu⟩ := h.raw j hj; exact ⟨u, hc.keep hu hs⟩
  · have e : 13 + j = 5 + (8 + j) := by omega
    by_cases hs : S B (13 + j)
    · rw [e] at hs ⊢; exact hr (8 + j) (by omega) hs
    · obtain ⟨u, hu⟩ := h.up j hj; exact ⟨u, hc.keep hu hs⟩

set_option maxRecDepth 100000 in
set_option maxHeartbeats 1000000 in
theorem fill_any (B rb ro b bo L C o f : Nat) (ee eu : Addr) (i pr : Int) (buf vb : Int) (D : Nat → Nat) (w : World) (hB : BR w B rb ro o f buf vb) (hR : Rdr w rb ro b bo L C i pr) (hD : Data w b bo L D) (hE : Eofs w ee eu) (hL : L ≤ C) (hg : 0 < B) (hbB : b ≠ B) (hrB : rb ≠ B) :
    Calls Tryz.prog 63 #[.pointer (some ⟨B, 0, none⟩)] w fun e w' =>
      e = .returned .nilIface ∧ Chg (fun k x => k = B ∧ (x = 1 ∨ x = 4 ∨ (5 ≤ x ∧ x < 13))) w w' ∧ BR w' B rb ro o f (leV D o 8) (8 * min (L - o) 8 : Nat) := by
  have c0 := hB.rd
  have c2 := hB.bo
  have HB := Lib.hid hB; clear hB
  have HR := Lib.hid hR; clear hR
  have HD := Lib.hid hD; clear hD
  have HE := Lib.hid hE; clear hE
  obtain ⟨m, hm⟩ : ∃ m, m = min (L - o) 8 := ⟨_, rfl⟩
  have hm8 : m ≤ 8 := by omega
  have Hm := Lib.hid hm; clear hm
  go_enter Tryz.func63, Tryz.ntmps63
  go_wp2
  refine wp_region_txt [] (by kernel_rfl) (by kernel_rfl) ?_
  repeat (first | (refine wpTxt_pure rfl rfl (fun K hK => ?_); go_simp; refine hK _ ?_; clear hK K) | (refine wpTxt_still rfl rfl (fun K hK => ?_); go_simp; refine hK _ ?_; clear hK K))
  refine wpTxt_effect rfl rfl (fun K hK => ?_)
  go_simp
  go_invoke
  go_simp
  refine (readAt_any rb ro b bo L C B 5 8 8 o ee eu i pr D _ HR.out.drew HD.out.drew.bytes HE.out.drew hg hL HB.out.raw (fun j hj => HB.out.fr _ (by omega))).mono ?_
  rintro e w1 ⟨he, hch, hby⟩
  rw [← Hm.out] at he hch hby
  have hch' := hch.undrew
  have hB1 : BR w1 B rb ro o f buf vb := HB.out.keep5 hch' (fun x hx h => by omega) (fun j hj h => ⟨_, hby j (by omega)⟩)
  have hB2 := hB1.vb' (8 * m : Nat)
  have hF : Fil B rb ro o f m buf (8 * m : Nat) D w (w1.setCell ⟨B, 4, none⟩ (.int .u64 (8 * m : Nat))) m := by
    refine ⟨(hch'.mono (fun k x _ h => ⟨h.1, by omega⟩)).setCell _ _ (fun _ => ⟨rfl, by omega⟩) _, hB2, fun j hj => cell_ne _ (hby j hj) (by omega), fun j h1 h2 => by omega⟩
  have c4 := hB1.va
  have f4 := hB1.fr 4 (by omega)
  have HF := Lib.hid hF
  have HE1 := Lib.hid (HE.out.keep hch' (by intro h; have := hg; omega) (by intro h; have := hg; omega))
  have he1 := HE1.out.e
  clear hch hby hch' hB1 hB2 hF
  obtain ⟨ev, rfl, hev⟩ : ∃ ev, e = .returned (.tuple #[.int .i64 m, ev]) ∧ (ev = .nilIface ∨ ev = .iface 99 (.pointer (some ee))) := by
    rcases he with rfl | rfl
    · exact ⟨_, rfl, .inl rfl⟩
    · exact ⟨_, rfl, .inr rfl⟩
  clear he
  have Hev := Lib.hid hev; clear hev
  refine hK _ _ ?_
  clear hK K
  repeat (first | (refine wpTxt_pure rfl rfl (fun K hK => ?_); go_simp; refine hK _ ?_; clear hK K) | (refine wpTxt_still rfl rfl (fun K hK => ?_); go_simp; refine hK _ ?_; clear hK K))
  refine wpTxt_nil ?_
  go_upto_region 2 with fail
  go_cut [30] (fun v wx => v = .bool false ∧ w1 = wx)
  case first =>
    obtain rfl | rfl := Hev.out
    · go_wp2
      go_meet
      exact ⟨rfl, rfl⟩
    · have hq := neq_err_same ee w1
      go_wp2
      go_meet
      exact ⟨rfl, rfl⟩
  case rest =>
    obtain ⟨rfl, rfl⟩ := hcut
    go_wp2
    rw [show w1.setCell ⟨B, 4, none⟩ (.int .u64 (↑m * 8)) = w1.setCell ⟨B, 4, none⟩ (.int .u64 (8 * m : Nat)) by congr 2; omega]
    generalize w1.setCell ⟨B, 4, none⟩ (.int .u64 (8 * m : Nat)) = w2 at HF ⊢
    clear c4 f4 HE1 he1
    go_loopw [5] (fun i wr => ∃ k : Nat, m ≤ k ∧ k ≤ 8 ∧ i = .int .i64 k ∧ Fil B rb ro o f m buf (8 * m : Nat) D w wr k) (fun i _ => 8 - (intOf i).toNat)
    case atStart => exact ⟨m, Nat.le_refl _, hm8, rfl, HF.out⟩
    case round =>
      obtain ⟨k, hmk, hk8, rfl, hF⟩ := hrel
      by_cases hk : k < 8
      · obtain ⟨u, hu⟩ := hF.br.raw k hk
        have hfz := hF.br.fr (5 + k) (by omega)
        have hF2 : Fil B rb ro o f m buf (8 * m : Nat) D w (wr.setCell ⟨B, 5 + k, none⟩ (.int .u8 0)) (k + 1) := by
          refine ⟨hF.chg.setCell _ _ (fun _ => ⟨rfl, by omega⟩) _, hF.br.raw' _ (by omega) _, fun j hj => cell_ne _ (hF.raw j hj) (by omega), fun j h1 h2 => ?_⟩
          by_cases hj : j = k
          · subst hj; exact World.cell?_setCell_same _ _ _ hu
          · exact cell_ne _ (hF.zer j h1 (by omega)) (by omega)
        have HF2 := Lib.hid hF2
        clear hF2 hF
        go_wp2
        go_roundw
        case rel => exact ⟨k + 1, by omega, by omega, by go_num, HF2.out⟩
        case measure => simp [intOf]; omega
      · have hk8 : k = 8 := by omega
        subst hk8
        have HF8 := Lib.hid hF; clear hF
        have hby : Bytes wr B 5 8 (fun j => D (o + j)) := by
          intro j hj
          by_cases hjm : j < m
          · exact HF8.out.raw j hjm
          · have h0 : D (o + j) = 0 := HD.out.z _ (by have := Hm.out; omega)
            have := HF8.out.zer j (by omega) hj
            show _ = some (Value.int .u8 (D (o + j)))
            rw [h0]; exact this
        have Hby := Lib.hid hby; clear hby
        go_wp2
        (refine wp_region_txt [] (by kernel_rfl) (by kernel_rfl) ?_; repeat (first | (refine wpTxt_pure rfl rfl (fun K hK => ?_); go_simp; refine hK _ ?_; clear hK K) | (refine wpTxt_still rfl rfl (fun K hK => ?_); go_simp; refine hK _ ?_; clear hK K)))
        (refine wpTxt_effect rfl rfl (fun K hK => ?_); go_simp)
        refine (le64_any B 5 8 8 (fun j => D (o + j)) (fun j => HD.out.lt _) _ (by omega) (by exact Hby.out)).mono ?_
        rintro e w3 ⟨rfl, hch3⟩
        have hB3 : BR w3 B rb ro o f buf (8 * m : Nat) := HF8.out.br.drew.keep hch3 (fun x h => h)
        have c1 := hB3.bu
        have f1 := hB3.fr 1 (by omega)
        have HB3 := Lib.hid hB3; clear hB3
        have Hc3 := Lib.hid hch3; clear hch3
        (refine hK _ _ ?_; clear hK K)
        repeat (first | (refine wpTxt_pure rfl rfl (fun K hK => ?_); go_simp; refine hK _ ?_; clear hK K) | (refine wpTxt_still rfl rfl (fun K hK => ?_); go_simp; refine hK _ ?_; clear hK K))
        (refine wpTxt_effect rfl rfl (fun K hK => ?_); go_simp; refine hK _ _ ?_; clear hK K)
        refine wpTxt_nil ?_
        go_wp2
        go_ret
        have e8 := leV_shift D o 8 0
        rw [Nat.add_zero] at e8
        rw [e8, ← Hm.out]
        refine ⟨rfl, ((HF8.out.chg.drew).comp Hc3.out (fun _ _ _ h => h) (fun _ _ _ h => h.elim)).setCell _ _ (fun _ => ⟨rfl, by omega⟩) _, ?_⟩
        exact HB3.out.buf' _
end Go.Proofs.YtaageikelkcphaaGreatDoor
/- The reader of bits: the next number. -/
namespace Go.Proofs.YtaageikelkcphaaGreatDoor
open Go Go.RowKit
def trB (v n : Nat) : Nat := v % 2 ^ n
theorem wrap64 (m : Int) (h0 : 0 ≤ m) (h1 : m < 2 ^ 64) : IntKind.u64.wrap m = m := wraps_u64 m h0 h1
theorem mask_and (v n : Nat) (hv : v < 2 ^ 64) (hn : n ≤ 64) : bits .and .u64 (v : Int) (2 ^ n - 1) = (trB v n : Nat) := by
  rw [bits_mask .u64 64 (by decide) wraps_u64 n hn v (by omega) (by exact_mod_cast hv), trB]
  exact_mod_cast rfl
theorem shr_ones (n : Nat) (hn : n ≤ 64) : (18446744073709551615 : Int) / 2 ^ (64 - n) = 2 ^ n - 1 := by
  have h : (2 : Int) ^ 64 = 2 ^ (64 - n) * 2 ^ n := by rw [← Int.pow_add]; congr 1; omega
  have hp : (0 : Int) < 2 ^ (64 - n) := Int.pow_pos (by decide)
  have e : (18446744073709551615 : Int) = (2 ^ (64 - n) - 1) + 2 ^ (64 - n) * (2 ^ n - 1) := by
    rw [Int.mul_sub, ← h]; omega
  rw [e, Int.add_mul_ediv_left _ _ (by omega), Int.ediv_eq_zero_of_lt (by omega) (by omega)]; omega
set_option maxRecDepth 100000 in
set_option maxHeartbeats 1000000 in
theorem trailing_ok (v n : Nat) (w : World) (hv : v < 2 ^ 64) (hn : n ≤ 64) :
    Calls Tryz.prog 66 #[.int .u64 v, .int .u64 n] w fun e w' => e = .returned (.int .u64 (trB v n : Nat)) ∧ w = w' := by
  have e3 : n = 64 → trB v n = v := by rintro rfl; exact Nat.mod_eq_of_lt hv
  have e4 := ret_int' (k := .u64) ((congrArg (bits .and .u64 v) (shr_ones n hn)).trans (mask_and v n hv hn))
  have E3 := Lib.hid e3
  have E4 := Lib.hid e4
  clear hv e3 e4
  go_enter Tryz.func66, Tryz.ntmps66
  by_cases h : n = 64
  · have h' : 64 ≤ (n : Int) := by omega
    have E4 := Lib.hid (E3.out h)
    clear h E3
    go_wp2
    go_ret
    rw [E4.out]; exact ⟨rfl, rfl⟩
  · have h' : (n : Int) < 64 := by omega
    clear h hn E3
    go_wp2
    go_ret
    exact ⟨E4.out, rfl⟩

theorem trailing_still (v n : Nat) (w : World) (hv : v < 2 ^ 64) (hn : n ≤ 64) :
    Calls Tryz.prog 66 #[.int .u64 v, .int .u64 n] w fun e w' => e = .returned (.int .u64 (trB v n : Nat)) ∧ w' = w :=
  (trailing_ok v n w hv hn).mono fun _ _ h => ⟨h.1, h.2.symm⟩
theorem ret_two {k : IntKind} {a b : Int} {v : Value} (h : a = b) : Ending.returned (.tuple #[.int k a, v]) = .returned (.tuple #[.int k b, v]) := by rw [h]
def Own (B : Nat) : Nat → Nat → Prop := fun k _ => k = B
theorem Chg.own {B : Nat} {a w : World} (h : Chg (Own B) a w) (i : Nat) (v : Value) : Chg (Own B) a (w.setCell ⟨B, i, none⟩ v) := h.setCell B i (fun _ => rfl) v
/-- Where a reader of bits stands, and over what. -/
structure RC where
  (B rb ro b bo L C : Nat) (ee eu : Addr)
  (D : Nat → Nat)
/-- What holds around the reader of bits. -/
structure Env (c : RC) (w : World) : Prop where
  rdr : ∃ i pr, Rdr w c.rb c.ro c.b c.bo c.L c.C i pr
  data : Data w c.b c.bo c.L c.D
  eofs : Eofs w c.ee c.eu
  hL : c.L ≤ c.C
  hC : c.C ≤ 9223372036854775807
  hLb : c.L ≤ 1000000000000000000
  bB : c.b ≠ c.B
  rB : c.rb ≠ c.B
  br : c.b ≠ c.rb
  gB : 4 < c.B
  gr : 4 < c.rb
theorem Env.keepB {c : RC} {w w' : World} (h : Env c w) {S : Nat → Nat → Prop} (hc : Chg S w w') (hS : ∀ k x, S k x → k = c.B) : Env c w' :=
  ⟨let ⟨i, pr, hr⟩ := h.rdr; ⟨i, pr, hr.keep hc (fun j _ hh => h.rB (hS _ _ hh))⟩, h.data.keep hc (fun j _ hh => h.bB (hS _ _ hh)), h.eofs.keep hc (fun hh => by have := hS _ _ hh; have := h.gB; omega) (fun hh => by have := hS _ _ hh; have := h.gB; omega), h.hL, h.hC, h.hLb, h.bB, h.rB, h.br, h.gB, h.gr⟩
/-- Reader and block of bits may turn; that the bytes.Reader is whole must be shown. -/
theorem Env.keepR {c : RC} {w w' : World} (h : Env c w) {S : Nat → Nat → Prop} (hc : Chg S w w') (hS : ∀ k x, S k x → k ≠ c.b ∧ 4 < k) (hr : ∃ i pr, Rdr w' c.rb c.ro c.b c.bo c.L c.C i pr) : Env c w' :=
  ⟨hr, h.data.keep hc (fun j _ hh => (hS _ _ hh).1 rfl), h.eofs.keep hc (fun hh => by have := (hS _ _ hh).2; omega) (fun hh => by have := (hS _ _ hh).2; omega), h.hL, h.hC, h.hLb, h.bB, h.rB, h.br, h.gB, h.gr⟩
/-- What neither touches reader nor bytes. -/
theorem Env.keep {c : RC} {w w' : World} (h : Env c w) {S : Nat → Nat → Prop} (hc : Chg S w w') (hS : ∀ k x, S k x → k ≠ c.b ∧ k ≠ c.rb ∧ 4 < k) : Env c w' :=
  h.keepR hc (fun k x hh => ⟨(hS k x hh).1, (hS k x hh).2.2⟩) (let ⟨i, pr, hr⟩ := h.rdr; ⟨i, pr, hr.keep hc (fun j _ hh => (hS _ _ hh).2.1 rfl)⟩)
theorem Env.drew {c : RC} {w : World} (h : Env c w) : Env c w.drew := h.keepB (Chg.drew (Chg.refl Nix w)) (fun _ _ h => h.elim)
/-- At byte o, bit f, the buffer full. -/
structure NS (c : RC) (w : World) (o f : Nat) : Prop where
  env : Env c w
  hf : f ≤ 64
  br : BR w c.B c.rb c.ro o f (leV c.D o 8) (8 * min (c.L - o) 8 : Nat)
/-- At byte o, bit f; the buffer full unless at a byte's beginning. -/
structure RS (c : RC) (w : World) (o f : Nat) : Prop where
  env : Env c w
  hf : f ≤ 64
  br : ∃ buf vb, BR w c.B c.rb c.ro o f buf vb ∧ (0 < f → buf = leV c.D o 8 ∧ vb = (8 * min (c.L - o) 8 : Nat))
theorem NS.rs {c : RC} {w : World} {o f : Nat} (h : NS c w o f) : RS c w o f := ⟨h.env, h.hf, _, _, h.br, fun _ => ⟨rfl, rfl⟩⟩
theorem RS.ns {c : RC} {w : World} {o f : Nat} (h : RS c w o f) (hf : 0 < f) : NS c w o f := ⟨h.env, h.hf, by obtain ⟨buf, vb, hb, hq⟩ := h.br; obtain ⟨rfl, rfl⟩ := hq hf; exact hb⟩
theorem RS.keep {c : RC} {w w' : World} {o f : Nat} (h : RS c w o f) {S : Nat → Nat → Prop} (hc : Chg S w w') (hS : ∀ k x, S k x → k ≠ c.b ∧ k ≠ c.rb ∧ k ≠ c.B ∧ 4 < k) : RS c w' o f :=
  ⟨h.env.keep hc (fun k x hh => ⟨(hS k x hh).1, (hS k x hh).2.1, (hS k x hh).2.2.2⟩), h.hf, let ⟨buf, vb, hb, hq⟩ := h.br; ⟨buf, vb, hb.keep hc (fun x hh => (hS _ _ hh).2.2.1 rfl), hq⟩⟩
theorem NS.keep {c : RC} {w w' : World} {o f : Nat} (h : NS c w o f) {S : Nat → Nat → Prop} (hc : Chg S w w') (hS : ∀ k x, S k x → k ≠ c.b ∧ k ≠ c.rb ∧ k ≠ c.B ∧ 4 < k) : NS c w' o f :=
  ⟨h.env.keep hc (fun k x hh => ⟨(hS k x hh).1, (hS k x hh).2.1, (hS k x hh).2.2.2⟩), h.hf, h.br.keep hc (fun x hh => (hS _ _ hh).2.2.1 rfl)⟩
theorem fill_ok (c : RC) (o f : Nat) (buf vb : Int) (w : World) (h : Env c w) (hB : BR w c.B c.rb c.ro o f buf vb) (hf : f ≤ 64) :
    Calls Tryz.prog 63 #[.pointer (some ⟨c.B, 0, none⟩)] w fun e w' => e = .returned .nilIface ∧ Chg (Own c.B) w w' ∧ NS c w' o f := by
  obtain ⟨i, pr, hr⟩ := h.rdr
  refine (fill_any c.B c.rb c.ro c.b c.bo c.L c.C o f c.ee c.eu i pr buf vb c.D w hB hr h.data h.eofs h.hL (by have := h.gB; omega) h.bB h.rB).mono ?_
  rintro e w1 ⟨rfl, hc, hb⟩
  exact ⟨rfl, hc.mono (fun _ _ _ h => h.1), h.keepB hc (fun _ _ h => h.1), hf, hb⟩
theorem NS.lt {c : RC} {w : World} {o f : Nat} (h : NS c w o f) : leV c.D o 8 < 2 ^ 64 := leV_lt c.D h.env.data.lt o 8

theorem next_join (D : Nat → Nat) (hD : ∀ j, D j < 256) (o f n : Nat) (hf : f < 64) (hfn : 64 < f + n) (hn : n ≤ 64) :
    bits .or .u64 ((leV D o 8 : Nat) / 2 ^ f : Int) (IntKind.u64.wrap ((trB (leV D (o + 8) 8) (f + n - 64) : Nat) * 2 ^ (64 - f))) = (bitsV D (8 * o + f) n : Nat) := by
  have e1 := buf_top D hD o f (by omega)
  have e2 : trB (leV D (o + 8) 8) (f + n - 64) = bitsV D (8 * o + f + (64 - f)) (f + n - 64) := by
    rw [trB, buf_low D hD _ _ (by omega), show 8 * (o + 8) = 8 * o + f + (64 - f) by omega]
  have e3 : ((leV D o 8 : Nat) / 2 ^ f : Int) = (bitsV D (8 * o + f) (64 - f) : Nat) := by rw [← e1]; norm_cast
  have e4 := bitsV_add D (64 - f) (8 * o + f) (f + n - 64)
  rw [show 64 - f + (f + n - 64) = n by omega] at e4
  have h1 := bitsV_lt D (64 - f) (8 * o + f)
  have h2 := bitsV_lt D n (8 * o + f)
  have h3 : (2 : Nat) ^ n ≤ 2 ^ 64 := Nat.pow_le_pow_right (by decide) hn
  have h5 : (2 : Nat) ^ (64 - f) ≤ 2 ^ 64 := Nat.pow_le_pow_right (by decide) (by omega)
  rw [e3, e2]
  generalize bitsV D (8 * o + f) (64 - f) = a at *
  generalize bitsV D (8 * o + f + (64 - f)) (f + n - 64) = b at *
  have e5 : ((b : Nat) : Int) * 2 ^ (64 - f) = ((2 ^ (64 - f) * b : Nat) : Int) := by rw [Nat.mul_comm]; norm_cast
  have h4 : 2 ^ (64 - f) * b < 2 ^ 64 := by omega
  rw [e5, wrap64 _ (by omega) (by exact_mod_cast h4)]
  rw [bits_join_low .u64 64 (by decide) wraps_u64 (64 - f) a _ (by omega) (by exact_mod_cast h1) (by exact_mod_cast Nat.lt_of_lt_of_le h1 h5) (by omega) (by exact_mod_cast Nat.mul_mod_right _ _) (by exact_mod_cast h4), e4]
  omega
set_option maxRecDepth 100000 in
set_option maxHeartbeats 1000000 in
theorem next_ok (c : RC) (o f n : Nat) (w : World) (h : NS c w o f) (hn : n ≤ 64) (hp : 8 * o + f + n ≤ 8 * c.L) :
    Calls Tryz.prog 61 #[.pointer (some ⟨c.B, 0, none⟩), .int .u64 n] w fun e w' =>
      e = .returned (.tuple #[.int .u64 (bitsV c.D (8 * o + f) n), .nilIface]) ∧ Chg (Own c.B) w w' ∧ ∃ o' f', 8 * o' + f' = 8 * o + f + n ∧ (0 < n ∨ 0 < f → 0 < f') ∧ NS c w' o' f' := by
  have hff := h.hf
  have c3 := h.br.bi
  have c2 := h.br.bo
  have f2 := h.br.fr 2 (by omega)
  have f3 := h.br.fr 3 (by omega)
  have hL := h.env.hL
  have hC := h.env.hC
  have hLb := h.env.hLb
  have H := Lib.hid h; clear h
  have Hp := Lib.hid hp; clear hp
  have ho : o ≤ 1000000000000000000 := by have := Hp.out; omega
  by_cases hn0 : n = 0
  · subst hn0
    go_enter Tryz.func61, Tryz.ntmps61
    go_wp2
    go_ret2
    exact ⟨rfl, Chg.refl _ _, o, f, rfl, fun h => by omega, H.out⟩
  · go_enter Tryz.func61, Tryz.ntmps61
    have hn0' : ¬ (n : Int) = 0 := by omega
    go_upto_if 15 with fail
    go_cut [5] (fun v wx => v = .nilIface ∧ Chg (Own c.B) w wx ∧ ∃ o1 f1, 8 * o1 + f1 = 8 * o + f ∧ f1 < 64 ∧ NS c wx o1 f1)
    case first =>
      by_cases hf : f = 64
      · subst hf
        have hB1 := (H.out.br.off' (o + 8)).bit' 0
        have hc1 := ((Chg.refl (Own c.B) w).own 2 (.int .i64 (o + 8 : Nat))).own 3 (.int .u64 (0 : Nat))
        have e1 := H.out.env.keepB hc1 (fun _ _ h => h)
        have hcall := fill_ok c (o + 8) 0 _ _ _ e1 hB1 (by omega)
        rw [show ((o + 8 : Nat) : Int) = (o : Int) + 8 from rfl, show ((0 : Nat) : Int) = 0 from rfl] at hcall hc1
        have Hc := Lib.hid hcall
        have Hc1 := Lib.hid hc1
        clear hB1 hc1 e1 hcall
        go_wp2_with fail
        refine Hc.out.mono ?_
        rintro e w1 ⟨rfl, h1, h2⟩
        have H1 := Lib.hid h1; clear h1
        have H2 := Lib.hid h2; clear h2
        go_wp2
        go_meet
        exact ⟨rfl, Hc1.out.trans H1.out, o + 8, 0, by omega, by omega, H2.out⟩
      · have hf' : ¬ (f : Int) = 64 := by omega
        go_wp2
        go_meet
        exact ⟨rfl, Chg.refl _ _, o, f, rfl, by omega, H.out⟩
    case rest =>
      obtain ⟨rfl, hc1, o1, f1, hof, hf1, h1⟩ := hcut
      have c3' := h1.br.bi
      have c2' := h1.br.bo
      have c4' := h1.br.va
      have c1' := h1.br.bu
      have f2' := h1.br.fr 2 (by omega)
      have f3' := h1.br.fr 3 (by omega)
      have H1 := Lib.hid h1; clear h1
      have Hc1 := Lib.hid hc1; clear hc1
      have Hof := Lib.hid hof; clear hof
      clear c2 c3 f2 f3 hff
      obtain ⟨V, hV⟩ : ∃ V, V = leV c.D o1 8 := ⟨_, rfl⟩
      have hlt := H1.out.lt
      rw [← hV] at c1' hlt
      have Hlt := Lib.hid hlt; clear hlt
      have HV := Lib.hid hV; clear hV
      obtain ⟨M, hM⟩ : ∃ M, M = 8 * min (c.L - o1) 8 := ⟨_, rfl⟩
      rw [← hM] at c4'
      by_cases hfn : f1 + n ≤ 64
      · have hval : f1 + n ≤ M := by have := Hp.out; have := Hof.out; omega
        have hM64 : M ≤ 64 := by omega
        have HM := Lib.hid hM; clear hM
        have Hn1 : Hid (0 < n) := by have : 0 < n := by omega
                                     exact this
        clear hn0 hn0' hL hC ho
        go_wp2
        refine wp_region_txt [66] (by kernel_rfl) (by kernel_rfl) ?_
        repeat (first | (refine wpTxt_pure rfl rfl (fun K hK => ?_); go_simp; refine hK _ ?_; clear hK K) | (refine wpTxt_still rfl rfl (fun K hK => ?_); go_simp; refine hK _ ?_; clear hK K))
        refine wpTxt_still rfl rfl (fun K hK => ?_)
        go_simp
        refine ⟨_, trailing_still V (f1 + n) _ Hlt.out hfn, ?_⟩
        (refine hK _ ?_; clear hK K)
        repeat (first | (refine wpTxt_pure rfl rfl (fun K hK => ?_); go_simp; refine hK _ ?_; clear hK K) | (refine wpTxt_still rfl rfl (fun K hK => ?_); go_simp; refine hK _ ?_; clear hK K))
        refine wpTxt_nil ?_
        go_wp2
        go_ret2
        have e1 := buf_bits c.D H1.out.env.data.lt o1 f1 n hfn
        rw [Hof.out, ← HV.out] at e1
        have e2 : ((trB V (f1 + n) : Nat) : Int) / 2 ^ f1 = (bitsV c.D (8 * o + f) n : Nat) := by
          rw [← e1]; unfold trB; norm_cast
        refine ⟨ret_two e2, ?_, o1, f1 + n, by have := Hof.out; omega, by have := Hn1.out; omega, ?_⟩
        · exact (Hc1.out.own 3 _).drew
        · have h3 := ((Chg.refl (Own c.B) wc).own 3 (.int .u64 (f1 + n : Nat))).drew
          exact ⟨H1.out.env.keepB h3 (fun _ _ h => h), hfn, (H1.out.br.bit' (f1 + n)).drew⟩
      · have hM64 : M = 64 := by have := Hp.out; have := Hof.out; omega
        have hval : 64 ≤ (M : Int) := by omega
        have HM := Lib.hid hM64; clear hM hM64
        have hend : ¬ (f1 : Int) + n ≤ 64 := by omega
        have hB1 := (H1.out.br.off' (o1 + 8)).bit' 0
        have hc2 := ((Chg.refl (Own c.B) wc).own 2 (.int .i64 (o1 + 8 : Nat))).own 3 (.int .u64 (0 : Nat))
        have e1 := H1.out.env.keepB hc2.drew (fun _ _ h => h)
        have hcall := fill_ok c (o1 + 8) 0 _ _ _ e1 hB1.drew (by omega)
        have ho1 : o1 ≤ 1000000000000000000 := by have := Hp.out; have := Hof.out; omega
        rw [show ((o1 + 8 : Nat) : Int) = (o1 : Int) + 8 from rfl, show ((0 : Nat) : Int) = 0 from rfl] at hcall hc2
        have Hc := Lib.hid hcall
        have Hc2 := Lib.hid hc2
        clear hB1 hc2 e1 hcall hn0 hn0' hL hC ho
        go_wp2_with fail
        (refine wp_region_txt [] (by kernel_rfl) (by kernel_rfl) ?_; repeat (first | (refine wpTxt_pure rfl rfl (fun K hK => ?_); go_simp; refine hK _ ?_; clear hK K) | (refine wpTxt_still rfl rfl (fun K hK => ?_); go_simp; refine hK _ ?_; clear hK K)))
        refine wpTxt_nil ?_
        go_wp2_with fail
        refine Hc.out.mono ?_
        rintro e w2 ⟨rfl, h3, h4⟩
        have c1 := h4.br.bu
        have c3 := h4.br.bi
        have c4 := h4.br.va
        have g3 := h4.br.fr 3 (by omega)
        have Hlt2 := Lib.hid h4.lt
        obtain ⟨r, hr⟩ : ∃ r, r = f1 + n - 64 := ⟨_, rfl⟩
        have hrn : (n : Int) - (64 - f1) = r := by omega
        have hr64 : r ≤ 64 := by omega
        have hrM : r ≤ 8 * min (c.L - (o1 + 8)) 8 := by have := Hp.out; have := Hof.out; omega
        obtain ⟨M2, hM2⟩ : ∃ M2, M2 = 8 * min (c.L - (o1 + 8)) 8 := ⟨_, rfl⟩
        rw [← hM2] at c4 hrM
        obtain ⟨V2, hV2⟩ : ∃ V2, V2 = leV c.D (o1 + 8) 8 := ⟨_, rfl⟩
        rw [← hV2] at c1 Hlt2
        have hM264 : M2 ≤ 64 := by omega
        have H3 := Lib.hid h3; clear h3
        have H4 := Lib.hid h4; clear h4
        have Hr := Lib.hid hr; clear hr
        have HM2 := Lib.hid hM2; clear hM2
        have HV2 := Lib.hid hV2; clear hV2
        go_wp2_with fail
        refine (trailing_ok V2 r _ Hlt2.out hr64).mono ?_
        rintro e w3 ⟨rfl, rfl⟩
        go_wp2_with fail
        go_ret2
        have ej := next_join c.D H1.out.env.data.lt o1 f1 n hf1 (by omega) hn
        rw [← HV.out, ← HV2.out, ← Hr.out, Hof.out] at ej
        refine ⟨ret_two ej, ?_, o1 + 8, r, by have := Hof.out; have := Hr.out; omega, fun _ => by have := Hr.out; omega, ?_⟩
        · exact (Hc1.out.trans (Hc2.out.trans H3.out.undrew)).own 3 _
        · exact ⟨H4.out.env.keepB ((Chg.refl (Own c.B) w2).own 3 _) (fun _ _ h => h), hr64, H4.out.br.bit' r⟩
end Go.Proofs.YtaageikelkcphaaGreatDoor
/- The reader of bits: a byte by itself, a number by sevens, where it is. -/
namespace Go.Proofs.YtaageikelkcphaaGreatDoor
open Go Go.RowKit
set_option maxRecDepth 100000 in
set_option maxHeartbeats 1000000 in
theorem bytesFor_ok (n : Nat) (w : World) (hn : n ≤ 1000000000000000000) :
    Calls Tryz.prog 57 #[.int .i64 n] w fun e w' => e = .returned (.int .i64 ((n + 7) / 8 : Nat)) ∧ w' = w := by
  go_enter Tryz.func57, Tryz.ntmps57
  go_wp2
  go_ret
  exact ⟨ret_int' (by omega), rfl⟩
/-- What may turn at an aligned read. -/
def OwnT (B tb tj : Nat) : Nat → Nat → Prop := fun k x => k = B ∨ (k = tb ∧ x = tj)
theorem nil_ReadAt (a : Addr) (w : World) : (nilAhead 276 92 (.pointer (some a)) "ReadAt").run Tryz.prog w = .ok (some false) w := by kernel_rfl
theorem method_ReadAt (a : Addr) (w : World) : (method 276 92 (.pointer (some a)) "ReadAt").run Tryz.prog w = .ok (129, .pointer (some a)) w := by kernel_rfl
set_option maxRecDepth 100000 in
set_option maxHeartbeats 1000000 in
theorem aligned8_ok (c : RC) (o f tb tj : Nat) (u : Value) (w : World) (h : RS c w o f) (ho : o + (f + 7) / 8 < c.L) (hu : w.cell? ⟨tb, tj, none⟩ = some u) (huf : w.frozen? ⟨tb, tj, none⟩ = false) (t1 : tb ≠ c.B) (t2 : tb ≠ c.rb) (t3 : tb ≠ c.b) (t4 : 4 < tb) :
    Calls Tryz.prog 60 #[.pointer (some ⟨c.B, 0, none⟩), .int .i64 1, .pointer (some ⟨tb, tj, none⟩)] w fun e w' =>
      e = .returned (.bool true) ∧ Chg (OwnT c.B tb tj) w w' ∧ w'.cell? ⟨tb, tj, none⟩ = some (.int .u8 (c.D (o + (f + 7) / 8))) ∧ NS c w' (o + (f + 7) / 8 + 1) 0 := by
  obtain ⟨buf, vb, hb, -⟩ := h.br
  have hf := h.hf
  have henv := h.env
  have c0 := hb.rd
  have c2 := hb.bo
  have c3 := hb.bi
  have f2 := hb.fr 2 (by omega)
  have f3 := hb.fr 3 (by omega)
  have hlB := hb.lt
  have hlt := World.block_lt_of_cell? w _ hu
  have hL := henv.hL
  have hC := henv.hC
  have hLb := henv.hLb
  have HB := Lib.hid hb; clear hb
  have HE := Lib.hid henv; clear henv h
  have hbc := fun W => bytesFor_ok f W (by omega)
  obtain ⟨g, hg⟩ : ∃ g, g = (f + 7) / 8 := ⟨_, rfl⟩
  obtain ⟨o', ho'⟩ : ∃ o', o' = o + g := ⟨_, rfl⟩
  rw [← hg, ← ho'] at ho ⊢
  rw [← hg] at hbc
  have hoi : (o : Int) + g = o' := by omega
  have Hg := Lib.hid hg; clear hg
  have Ho := Lib.hid ho'; clear ho'
  have hol : o' < 1000000000000000000 := by omega
  obtain ⟨q, hq⟩ : ∃ q, q = o' + 1 := ⟨_, rfl⟩
  rw [← hq]
  have Hq := Lib.hid hq; clear hq
  have Hbc := Lib.hid hbc; clear hbc
  have H0 := nil_ReadAt
  have H1 := method_ReadAt
  go_enter Tryz.func60, Tryz.ntmps60
  go_wp2_with fail
  refine (Hbc.out _).mono ?_
  rintro e w1 ⟨rfl, rfl⟩
  have hB1 := HB.out.off' o'
  have hc1 : Chg (OwnT c.B tb tj) w1 (w1.setCell ⟨c.B, 2, none⟩ (.int .i64 o')) := (Chg.refl _ _).setCell _ _ (fun _ => .inl rfl) _
  have hc1' := (Chg.refl (Own c.B) w1).own 2 (.int .i64 o')
  have he1 := HE.out.keepB hc1' (fun _ _ h => h)
  have hu1 := hc1'.keep hu t1
  have huf1 := (hc1'.frozen tb tj hlt).trans huf
  have hl1 := hc1'.lt hlB
  have hl1t := hc1'.lt hlt
  have HB1 := Lib.hid hB1
  have Hc1 := Lib.hid hc1
  have He1 := Lib.hid he1
  have Hu1 := Lib.hid hu1
  have Huf1 := Lib.hid huf1
  clear hB1 hc1 hc1' he1 hu1 huf1
  go_wp2_with fail
  generalize w1.setCell ⟨c.B, 2, none⟩ (.int .i64 o') = w2 at *
  clear c0 c2 c3 f2 f3 hu huf
  have c0 := HB1.out.rd
  have c2 := HB1.out.bo
  have c3 := HB1.out.bi
  have f2 := HB1.out.fr 2 (by omega)
  have f3 := HB1.out.fr 3 (by omega)
  refine wp_region_txt [] (by kernel_rfl) (by kernel_rfl) ?_
  repeat (first | (refine wpTxt_pure rfl rfl (fun K hK => ?_); go_simp; refine hK _ ?_; clear hK K) | (refine wpTxt_still rfl rfl (fun K hK => ?_); go_simp; refine hK _ ?_; clear hK K))
  refine wpTxt_effect rfl rfl (fun K hK => ?_)
  go_simp
  obtain ⟨ri, rp, hr⟩ := He1.out.rdr
  have Hr := Lib.hid hr; clear hr
  refine (readAt_any c.rb c.ro c.b c.bo c.L c.C c.B 5 1 8 o' c.ee c.eu ri rp c.D _ Hr.out.drew He1.out.data.bytes He1.out.eofs.drew (by have := He1.out.gB; omega) hL (fun j hj => HB1.out.raw j (by omega)) (fun j hj => HB1.out.fr _ (by omega))).mono ?_
  rintro e w3 ⟨hee, hch, hby⟩
  have e1 : min (c.L - o') 1 = 1 := by omega
  rw [e1] at hee hch hby
  have hch' := hch.undrew
  have hx := hby 0 (by omega)
  have hB3 : BR w3 c.B c.rb c.ro o' f buf vb := HB1.out.keep5 hch' (fun x hx h => by omega) (fun j hj h => ⟨_, by have : j = 0 := by omega
                                                                                                                  subst this; exact hx⟩)
  have hc3 : Chg (OwnT c.B tb tj) w1 w3 := Hc1.out.trans (hch'.mono fun _ _ _ h => .inl h.1)
  have he3 := He1.out.keepB hch' (fun _ _ h => h.1)
  have hu3 := hch'.keep Hu1.out (by rintro ⟨h, -⟩; exact t1 h)
  have hl3 := hch'.lt hl1
  have hl3t := hch'.lt hl1t
  have huf3 := (hch'.frozen tb tj hl1t).trans Huf1.out
  simp only [Nat.add_zero] at hx
  have HB3 := Lib.hid hB3
  have Hc3 := Lib.hid hc3
  have He3 := Lib.hid he3
  have Hu3 := Lib.hid hu3
  have Huf3 := Lib.hid huf3
  have heE := he3.eofs.e
  clear hch hby hch' hB3 hc3 he3 e1 hl1 hl1t c0 c2 c3 f2 f3
  obtain ⟨ev, rfl, hev⟩ : ∃ ev, e = .returned (.tuple #[.int .i64 1, ev]) ∧ (ev = .nilIface ∨ ev = .iface 99 (.pointer (some c.ee))) := by
    rcases hee with rfl | rfl
    · exact ⟨_, rfl, .inl rfl⟩
    · exact ⟨_, rfl, .inr rfl⟩
  clear hee
  have Hev := Lib.hid hev; clear hev
  have Hx := Lib.hid hx; clear hx
  clear hu3 huf3
  refine hK _ _ ?_
  clear hK K
  repeat (first | (refine wpTxt_pure rfl rfl (fun K hK => ?_); go_simp; refine hK _ ?_; clear hK K) | (refine wpTxt_still rfl rfl (fun K hK => ?_); go_simp; refine hK _ ?_; clear hK K))
  refine wpTxt_nil ?_
  go_upto_region 6 with fail
  go_cut [51] (fun v wx => v = .bool false ∧ w3 = wx)
  case first =>
    obtain rfl | rfl := Hev.out
    · go_wp2
      go_meet
      exact ⟨rfl, rfl⟩
    · have hq := neq_err_same c.ee w3
      go_wp2
      go_meet
      exact ⟨rfl, rfl⟩
  case rest =>
    obtain ⟨rfl, rfl⟩ := hcut
    have hx := Hx.out
    have hu3 := Hu3.out
    have huf3 := Huf3.out
    have c2 := HB3.out.bo
    have c3 := HB3.out.bi
    have f2 := HB3.out.fr 2 (by omega)
    have f3 := HB3.out.fr 3 (by omega)
    clear heE
    have hoj : (o' : Int) + 1 = q := by have := Hq.out; omega
    have hc4 := (Chg.refl (OwnT c.B tb tj) w3).setCell tb tj (fun _ => .inr ⟨rfl, rfl⟩) (.int .u8 (c.D o'))
    have hv4 : (w3.setCell ⟨tb, tj, none⟩ (.int .u8 (c.D o'))).cell? ⟨tb, tj, none⟩ = some (.int .u8 (c.D o')) := World.cell?_setCell_same _ _ _ hu3
    have hc4' := (Chg.refl (fun k x => k = tb ∧ x = tj) w3).setCell tb tj (fun _ => ⟨rfl, rfl⟩) (.int .u8 (c.D o'))
    have hB4 := HB3.out.keep hc4' (by rintro x ⟨h, -⟩; exact t1 h.symm)
    have he4 := He3.out.keep hc4' (by rintro k x ⟨rfl, -⟩; exact ⟨t3, t2, t4⟩)
    have hB5 := (hB4.off' q).bit' 0
    generalize hw4 : w3.setCell ⟨tb, tj, none⟩ (.int .u8 (c.D o')) = w4 at hc4 hv4 hc4' hB4 he4 hB5
    have hc5 := ((Chg.refl (Own c.B) w4).own 2 (.int .i64 q)).own 3 (.int .u64 (0 : Nat))
    have he5 := he4.keepB hc5 (fun _ _ h => h)
    have hv5 := hc5.keep hv4 t1
    have hcall := fill_ok c q 0 _ _ _ he5 hB5 (by omega)
    have hc6 : Chg (OwnT c.B tb tj) w1 _ := (Hc3.out.trans hc4).trans (hc5.mono fun _ _ _ h => .inl h)
    rw [show ((0 : Nat) : Int) = 0 from rfl, ← hw4] at hcall hc6 hv5
    clear hw4 hc4 hv4 hc4' hB4 he4 hB5 hc5 he5
    have Hcall := Lib.hid hcall; clear hcall
    have Hc6 := Lib.hid hc6; clear hc6
    have Hv5 := Lib.hid hv5; clear hv5
    clear w4
    go_wp2_with fail
    refine Hcall.out.mono ?_
    rintro e w7 ⟨rfl, h1, h2⟩
    have hv7 := h1.keep Hv5.out t1
    have hc7 : Chg (OwnT c.B tb tj) w1 w7 := Hc6.out.trans (h1.mono fun _ _ _ h => .inl h)
    have Hv7 := Lib.hid hv7; clear hv7
    have Hc7 := Lib.hid hc7; clear hc7
    have H2 := Lib.hid h2; clear h2
    clear h1 hx hu3 huf3 c2 c3 f2 f3
    go_wp2_with fail
    go_ret
    exact ⟨rfl, Hc7.out, Hv7.out, H2.out⟩
theorem RS.lt {c : RC} {w : World} {o f : Nat} (h : RS c w o f) : c.B < w.heap.size := by obtain ⟨_, _, hb, _⟩ := h.br; exact hb.lt
theorem RS.blt {c : RC} {w : World} {o f : Nat} (h : RS c w o f) (hL : 0 < c.L) : c.b < w.heap.size := World.block_lt_of_cell? w _ (h.env.data.bytes 0 hL)
theorem RS.rlt {c : RC} {w : World} {o f : Nat} (h : RS c w o f) : c.rb < w.heap.size := by obtain ⟨_, _, hr⟩ := h.env.rdr; exact hr.lt
theorem RS.alloc {c : RC} {w : World} {o f : Nat} (h : RS c w o f) (x : Obj) : RS c (w.alloc x) o f := h.keep (Chg.new w x) (fun _ _ h => h.elim)
set_option maxRecDepth 100000 in
set_option maxHeartbeats 1000000 in
theorem readByte_ok (c : RC) (o f : Nat) (w : World) (h : RS c w o f) (ho : o + (f + 7) / 8 < c.L) :
    Calls Tryz.prog 54 #[.pointer (some ⟨c.B, 0, none⟩)] w fun e w' =>
      e = .returned (.tuple #[.int .u8 (c.D (o + (f + 7) / 8)), .nilIface]) ∧ Chg (Own c.B) w w' ∧ NS c w' (o + (f + 7) / 8 + 1) 0 := by
  have l1 := h.lt
  have l2 := h.rlt
  have l3 := h.blt (by omega)
  have g1 := h.env.gB
  have hcall := aligned8_ok c o f w.heap.size 0 (.int .u8 0) (w.alloc (.cells #[.int .u8 0] 5)) (h.alloc _) ho (by simp) (by simp) (by omega) (by omega) (by omega) (by omega)
  have H := Lib.hid hcall; clear hcall h ho
  go_enter Tryz.func54, Tryz.ntmps54
  go_wp2_with fail
  refine H.out.mono ?_
  rintro e w1 ⟨rfl, h1, h2, h3⟩
  have H1 := Lib.hid (h1.unalloc (T := Own c.B) (by rintro k x hk (h | h); exact h; omega)); clear h1
  have H3 := Lib.hid h3; clear h3
  go_wp2_with fail
  go_ret2
  exact ⟨rfl, H1.out, H3.out⟩
end Go.Proofs.YtaageikelkcphaaGreatDoor
/- Numbers by sevens: plain facts. -/
namespace Go.Proofs.YtaageikelkcphaaGreatDoor
/-- The number whose zigzag is v. -/
def unzig (v : Nat) : Int := if v % 2 = 0 then ((v / 2 : Nat) : Int) else -((v / 2 : Nat) : Int) - 1
/-- The number that k bytes from q on hold, seven bits each, the lowest first. -/
def lebV (D : Nat → Nat) (q : Nat) : Nat → Nat
  | 0 => 0
  | k + 1 => lebV D q k + 2 ^ (7 * k) * (D (q + k) % 128)
theorem lebV_lt (D : Nat → Nat) (q : Nat) : ∀ k, lebV D q k < 2 ^ (7 * k)
  | 0 => by simp [lebV]
  | k + 1 => by
    have ih := lebV_lt D q k
    have h2 : D (q + k) % 128 ≤ 127 := by omega
    have h3 : 2 ^ (7 * k) * (D (q + k) % 128) ≤ 2 ^ (7 * k) * 127 := Nat.mul_le_mul_left _ h2
    rw [lebV, show 7 * (k + 1) = 7 * k + 7 by omega, Nat.pow_add]
    omega
structure Leb (D : Nat → Nat) (q k v : Nat) : Prop where
  k1 : 1 ≤ k
  k10 : k ≤ 10
  more : ∀ i, i + 1 < k → 128 ≤ D (q + i)
  last : D (q + k - 1) < 128
  val : lebV D q k = v
  lt : v < 2 ^ 64
theorem Leb.top {D : Nat → Nat} {q v : Nat} (h : Leb D q 10 v) : D (q + 9) ≤ 1 := by
  have h1 := h.val
  have h2 := h.lt
  have h3 := h.last
  rw [lebV] at h1
  rw [show q + 10 - 1 = q + 9 by omega] at h3
  rw [Nat.mod_eq_of_lt h3] at h1
  apply Decidable.byContradiction
  intro h4
  have h5 : 2 ^ (7 * 9) * 2 ≤ 2 ^ (7 * 9) * D (q + 9) := Nat.mul_le_mul_left _ (by omega)
  have h6 : (2 : Nat) ^ 64 = 2 ^ (7 * 9) * 2 := by decide
  omega
end Go.Proofs.YtaageikelkcphaaGreatDoor
