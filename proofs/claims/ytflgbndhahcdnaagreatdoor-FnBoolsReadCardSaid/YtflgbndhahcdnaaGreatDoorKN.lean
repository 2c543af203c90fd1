/- Part 14 of the proof: the texts T, V, W, joined. What each proves stands ahead of it. -/
import Derived.Test.YtflgbndhahcdnaaGreatDoorKM
set_option linter.unusedVariables false
set_option linter.unusedSimpArgs false
/- Numbers that are left out: by the reader of bits. -/
namespace Go.Proofs.YtflgbndhahcdnaaGreatDoor
open Go Go.RowKit
/-- What is known when k numbers have been left out. -/
structure Dis (c : RC) (n p : Nat) (w wr : World) (k o1 f1 : Nat) : Prop where
  chg : Chg (Own c.B) w wr
  rs : RS c wr o1 f1
  pos : 8 * o1 + f1 = p + k * n
theorem Dis.step {c : RC} {n p k o1 f1 o2 f2 : Nat} {w wr w1 : World} (h : Dis c n p w wr k o1 f1) (hc : Chg (Own c.B) wr w1) (h2 : RS c w1 o2 f2) (hp : 8 * o2 + f2 = 8 * o1 + f1 + n) : Dis c n p w w1 (k + 1) o2 f2 :=
  ⟨h.chg.trans hc, h2, by have e1 : (k + 1) * n = k * n + n := Nat.succ_mul k n
                          have := h.pos
                          omega⟩
set_option maxRecDepth 100000 in
set_option maxHeartbeats 1000000 in
theorem discard_ok (c : RC) (o f n len : Nat) (w : World) (h : RS c w o f) (hn1 : 1 ≤ n) (hn : n ≤ 64) (hp : 8 * o + f + len * n ≤ 8 * c.L) (hlen : len ≤ 2147483647) :
    Calls Tryz.prog 47 #[.pointer (some ⟨c.B, 0, none⟩), .int .u64 n, .int .i64 len] w fun e w' =>
      e = .returned (.tuple #[.int .i64 len, .nilIface]) ∧ Chg (Own c.B) w w' ∧ ∃ o' f', 8 * o' + f' = 8 * o + f + len * n ∧ NS c w' o' f' := by
  obtain ⟨p, hpp⟩ : ∃ p, p = 8 * o + f := ⟨_, rfl⟩
  rw [← hpp] at hp ⊢
  have h0 : Dis c n p w w 0 o f := ⟨Chg.refl _ _, h, by omega⟩
  have hL := h.env.hL
  have hC := h.env.hC
  have hLb := h.env.hLb
  have hpk : ∀ k, k < len → p + k * n + n ≤ 8 * c.L := by
    intro k hk
    have : (k + 1) * n ≤ len * n := Nat.mul_le_mul_right _ hk
    rw [Nat.succ_mul] at this
    omega
  have H0 := Lib.hid h0; clear h0
  have Hpk := Lib.hid hpk; clear hpk
  have Hp := Lib.hid hp; clear hp
  clear h
  go_enter Tryz.func47, Tryz.ntmps47
  go_upto_block 0 with fail
  go_cut [8] (fun i wx => ∃ k o1 f1, k ≤ len ∧ i = .int .i64 k ∧ Dis c n p w wx k o1 f1 ∧ (k < len → f1 = 0))
  case first =>
    clear hpp
    go_wp2_with fail
    go_loopw [8] (fun i wx => ∃ k o1 f1, k ≤ len ∧ i = .int .i64 k ∧ Dis c n p w wx k o1 f1) (fun i _ => len - (intOf i).toNat)
    case atStart => exact ⟨0, o, f, Nat.zero_le _, rfl, H0.out⟩
    case round =>
      obtain ⟨k, o1, f1, hk, rfl, hG⟩ := hrel
      have HG := Lib.hid hG; clear hG
      by_cases hlt : k < len
      · obtain ⟨buf, vb, hb, -⟩ := HG.out.rs.br
        have c3 := hb.bi
        clear hb
        by_cases hf : f1 = 0
        · subst hf
          go_wp2_with fail
          go_meet
          exact ⟨k, o1, 0, hk, rfl, HG.out, fun _ => rfl⟩
        · have hf' : ¬ (f1 : Int) = 0 := by omega
          have hcall := next_ok c o1 f1 n wr (HG.out.rs.ns (by omega)) hn (by rw [HG.out.pos]; exact Hpk.out k hlt)
          have Hcall := Lib.hid hcall; clear hcall
          go_wp2_with fail
          refine Hcall.out.mono ?_
          rintro e w1 ⟨rfl, h1, o2, f2, h2, -, h3⟩
          have hG2 := HG.out.step h1 h3.rs h2
          have HG2 := Lib.hid hG2; clear hG2
          clear h1 h2 h3
          go_wp2_with fail
          go_roundw
          case rel => exact ⟨k + 1, o2, f2, by omega, by go_num, HG2.out⟩
          case measure => simp [intOf]; omega
      · go_wp2_with fail
        go_meet
        exact ⟨k, o1, f1, hk, rfl, HG.out, fun h => absurd h hlt⟩
  case rest =>
    obtain ⟨k, o1, f1, hk, rfl, hG, hkf⟩ := hcut
    have HG := Lib.hid hG; clear hG
    clear H0
    go_upto_if 47 with fail
    go_cut [8] (fun i wx => ∃ k o1 f1, k ≤ len ∧ i = .int .i64 k ∧ Dis c n p w wx k o1 f1)
    case first =>
      by_cases hbig : 32 < len - k
      · have hbig' : (32 : Int) < (len : Int) - k := by omega
        have hf0 : f1 = 0 := hkf (by omega)
        subst hf0
        obtain ⟨m, hm⟩ : ∃ m, m = (len - k) / 32 := ⟨_, rfl⟩
        have hm1 : ((len : Int) - k) / 32 = m := by omega
        have hmk : k + m * 32 ≤ len := by omega
        have hm0 : 1 ≤ m := by omega
        have Hm := Lib.hid hm; clear hm
        obtain ⟨y, hy⟩ : ∃ y, y = m * (4 * n) := ⟨_, rfl⟩
        have hTn : m * 32 * n = 8 * y := by rw [hy, Nat.mul_assoc, Nat.mul_left_comm 8 m, ← Nat.mul_assoc 8 4 n]
        have hy1 : 1 ≤ y := by rw [hy]; exact Nat.mul_pos (by omega) (by omega)
        have hyL : p + k * n + 8 * y ≤ 8 * c.L := by
          have : (k + m * 32) * n ≤ len * n := Nat.mul_le_mul_right _ hmk
          rw [Nat.add_mul, hTn] at this
          have := Hp.out
          omega
        have hpos := HG.out.pos
        have hend : o1 + y ≤ c.L := by omega
        have hmul : (m : Int) * 32 * n = (8 * y : Nat) := by rw [← hTn]; push_cast; rfl
        have hbd : (m : Int) * 32 * n ≤ 9223372036854775807 := by rw [hmul]; omega
        have hbd0 : 0 ≤ (m : Int) * 32 * n := by rw [hmul]; omega
        have hyb : y ≤ m * 256 := by rw [hy]; exact Nat.mul_le_mul_left _ (by omega)
        have hbc := fun X => bytesFor_ok (8 * y) X (by omega)
        rw [show (8 * y + 7) / 8 = y by omega] at hbc
        have Hbc := Lib.hid hbc; clear hbc
        have Hmul := Lib.hid hmul; clear hmul
        have Hy := Lib.hid hy; clear hy
        have HTn := Lib.hid hTn; clear hTn
        have Hpos := Lib.hid hpos; clear hpos
        have HyL := Lib.hid hyL; clear hyL
        have HG0 := HG.out.rs.lt
        have hgB := HG.out.rs.env.gB
        obtain ⟨ri, rp, hr⟩ := HG.out.rs.env.rdr
        have Hr := Lib.hid hr; clear hr
        obtain ⟨buf, vb, hb, hbq⟩ := HG.out.rs.br
        have c0 := hb.rd
        have c2 := hb.bo
        have HB := Lib.hid hb; clear hb
        have hsum : IntKind.i64.wrap ((o1 : Int) + y) = (o1 : Int) + y := IntWalk.i64_in _ (by omega)
        have hsum2 : IntKind.i64.wrap ((o1 : Int) + y - 1) = ((o1 + y - 1 : Nat) : Int) := by rw [IntWalk.i64_in _ (by omega)]; omega
        have Hn := nil_ReadAt
        have Hm := method_ReadAt
        clear hbq hpp hkf
        go_wp2_with fail
        rw [Hmul.out]
        refine (Hbc.out _).mono ?_
        rintro e w1 ⟨rfl, rfl⟩
        have hy0 : (0 : Int) < y := by omega
        go_wp2_with fail
        (refine wp_region_txt [] (by kernel_rfl) (by kernel_rfl) ?_; repeat (first | (refine wpTxt_pure rfl rfl (fun K hK => ?_); go_simp; refine hK _ ?_; clear hK K) | (refine wpTxt_still rfl rfl (fun K hK => ?_); go_simp; refine hK _ ?_; clear hK K)))
        refine wpTxt_effect rfl rfl (fun K hK => ?_); go_simp
        refine (readAt_any c.rb c.ro c.b c.bo c.L c.C w1.heap.size 0 1 1 (o1 + y - 1) c.ee c.eu ri rp c.D _ (by exact (Hr.out.alloc _).drew) (by exact HG.out.rs.env.data.bytes.alloc _) (by exact (HG.out.rs.env.eofs.keep (Chg.new _ _) id id).drew) (by omega) hL (by
            intro j hj
            obtain rfl : j = 0 := by omega
            exact ⟨.int .u8 0, by simp⟩) (by intro j hj; simp)).mono ?_
        rintro e w3 ⟨hee, hch, -⟩
        have e1 : min (c.L - (o1 + y - 1)) 1 = 1 := by omega
        rw [e1] at hee hch
        have hch1 : Chg Nix w1 w3 := (hch.undrew).unalloc (by rintro k x hk ⟨hh, -⟩; omega)
        have hG3 : Dis c n p w (w3.setCell ⟨c.B, 2, none⟩ (.int .i64 (o1 + y : Nat))) (k + m * 32) (o1 + y) 0 := by
          have hB3 := (HB.out.keep hch1 (fun _ h => h)).off' (o1 + y)
          have hc3 := (Chg.refl (Own c.B) w3).own 2 (.int .i64 (o1 + y : Nat))
          refine ⟨(HG.out.chg.trans (hch1.mono (fun _ _ _ h => h.elim))).trans hc3, ⟨(HG.out.rs.env.keep hch1 (fun _ _ h => h.elim)).keepB hc3 (fun _ _ h => h), by omega, _, _, hB3, fun h => by omega⟩, ?_⟩
          rw [Nat.add_mul, HTn.out]
          have := Hpos.out
          omega
        have c2' := hch1.keep c2 id
        have f2' := (hch1.frozen c.B 2 HG0).trans (HB.out.fr 2 (by omega))
        have HG3 := Lib.hid hG3
        clear hch hch1 hG3 c0 c2
        obtain ⟨ev, rfl⟩ : ∃ ev, e = .returned (.tuple #[.int .i64 1, ev]) := by
          rcases hee with rfl | rfl <;> exact ⟨_, rfl⟩
        clear hee
        (refine hK _ _ ?_; clear hK K)
        repeat (first | (refine wpTxt_pure rfl rfl (fun K hK => ?_); go_simp; refine hK _ ?_; clear hK K) | (refine wpTxt_still rfl rfl (fun K hK => ?_); go_simp; refine hK _ ?_; clear hK K))
        refine wpTxt_nil ?_
        go_wp2_with fail
        go_meet
        exact ⟨k + m * 32, o1 + y, 0, hmk, by push_cast; rfl, by have := HG3.out; push_cast at this; exact this⟩
      · have hbig' : ¬ (32 : Int) < (len : Int) - k := by omega
        clear hpp
        go_wp2_with fail
        go_meet
        exact ⟨k, o1, f1, hk, rfl, HG.out⟩
    case rest =>
      clear hk hkf HG hpp
      obtain ⟨k2, o2, f2, hk2, rfl, hG⟩ := hcut
      obtain ⟨buf, vb, hb, -⟩ := hG.rs.br
      have hcall := fill_ok c o2 f2 buf vb wc hG.rs.env hb hG.rs.hf
      have Hcall := Lib.hid hcall
      have HG := Lib.hid hG
      clear hcall hG hb
      go_wp2_with fail
      refine Hcall.out.mono ?_
      rintro e w1 ⟨rfl, h1, h2⟩
      have hG1 : Dis c n p w w1 k2 o2 f2 := ⟨HG.out.chg.trans h1, h2.rs, HG.out.pos⟩
      have HG1 := Lib.hid hG1; clear hG1
      have H2 := Lib.hid h2; clear h2
      clear h1 HG Hcall
      go_wp2_with fail
      go_loopw [8] (fun i wx => ∃ k o1 f1, k ≤ len ∧ i = .int .i64 k ∧ Dis c n p w wx k o1 f1 ∧ NS c wx o1 f1) (fun i _ => len - (intOf i).toNat)
      case atStart => exact ⟨k2, o2, f2, hk2, rfl, HG1.out, H2.out⟩
      case round =>
        obtain ⟨k, o1, f1, hk, rfl, hG, hN⟩ := hrel
        have HG := Lib.hid hG; clear hG
        have HN := Lib.hid hN; clear hN
        by_cases hlt : k < len
        · have hcall := next_ok c o1 f1 n wr HN.out hn (by rw [HG.out.pos]; exact Hpk.out k hlt)
          have Hcall := Lib.hid hcall; clear hcall
          go_wp2_with fail
          refine Hcall.out.mono ?_
          rintro e w1 ⟨rfl, h1, o2, f2, h2, -, h3⟩
          have hG2 := HG.out.step h1 h3.rs h2
          have HG2 := Lib.hid hG2; clear hG2
          have HN2 := Lib.hid h3; clear h3
          clear h1 h2
          go_wp2_with fail
          go_roundw
          case rel => exact ⟨k + 1, o2, f2, by omega, by go_num, HG2.out, HN2.out⟩
          case measure => simp [intOf]; omega
        · have hke : k = len := by omega
          subst hke
          go_wp2_with fail
          go_ret2
          exact ⟨rfl, HG.out.chg, o1, f1, HG.out.pos, HN.out⟩
end Go.Proofs.YtflgbndhahcdnaaGreatDoor
/- The reader of runs: numbers left out, a batch of numbers. -/
namespace Go.Proofs.YtflgbndhahcdnaaGreatDoor
open Go Go.RowKit
open Classical in
/-- No run is open. -/
noncomputable def idle (w : World) (R : Nat) : Nat := if w.cell? ⟨R, 3, none⟩ = some (.int .i32 0) ∧ w.cell? ⟨R, 4, none⟩ = some (.int .i32 0) then 1 else 0
theorem idle_le (w : World) (R : Nat) : idle w R ≤ 1 := by unfold idle; split <;> omega
theorem idle_is {c : RC} {W R rep lit cur o f : Nat} {w : World} (h : RD c W R rep lit cur o f w) (hz : 1 ≤ rep ∨ 1 ≤ lit) : idle w R = 0 := by
  unfold idle
  rw [if_neg]
  rintro ⟨h1, h2⟩
  rw [h.re] at h1
  rw [h.li] at h2
  injection h1 with h1; injection h1 with _ h1
  injection h2 with h2; injection h2 with _ h2
  omega
theorem idle_yes {c : RC} {W R cur o f : Nat} {w : World} (h : RD c W R 0 0 cur o f w) : idle w R = 1 := by
  unfold idle
  rw [if_pos ⟨h.re, h.li⟩]
/-- Behind k numbers. -/
structure Rl (c : RC) (W R : Nat) (S : Nat → Nat → Prop) (vs : List Nat) (w wr : World) (k rep lit cur o f : Nat) : Prop where
  rd : RD c W R rep lit cur o f wr
  pos : Pos c.D c.L W rep lit cur o f (vs.drop k)
  chg : Chg S w wr
theorem Rl.le {c : RC} {W R : Nat} {S : Nat → Nat → Prop} {vs : List Nat} {w wr : World} {k rep lit cur o f : Nat} (h : Rl c W R S vs w wr k rep lit cur o f) : rep ≤ 2147483647 ∧ lit ≤ 2147483647 := h.pos.bounds
theorem ne_drop {vs : List Nat} {k len : Nat} (hk : k < len) (hl : len ≤ vs.length) : vs.drop k ≠ [] := by
  intro e
  have := congrArg List.length e
  rw [List.length_drop] at this
  simp at this; omega
set_option maxRecDepth 100000 in
set_option maxHeartbeats 1000000 in
theorem rleDiscard_ok (c : RC) (W R rep lit cur o f len : Nat) (vs : List Nat) (w : World) (h : RD c W R rep lit cur o f w) (hp : Pos c.D c.L W rep lit cur o f vs) (hW1 : 1 ≤ W) (hW2 : W ≤ 64) (hlen : len ≤ vs.length) (hl : len ≤ 1000000000) :
    Calls Tryz.prog 36 #[.pointer (some ⟨R, 0, none⟩), .int .i64 len] w fun e w' =>
      e = .returned (.int .i64 len) ∧ ∃ rep' lit' cur' o' f', Rl c W R (OwnR c R) vs w w' len rep' lit' cur' o' f' := by
  have h0 : Rl c W R (OwnR c R) vs w w 0 rep lit cur o f := ⟨h, hp, Chg.refl _ _⟩
  have H0 := Lib.hid h0; clear h0 h hp
  have Hlen := Lib.hid hlen; clear hlen
  go_enter Tryz.func36, Tryz.ntmps36
  go_wp2_with fail
  go_loopw [5] (fun i wx => ∃ k rep lit cur o f, k ≤ len ∧ i = .int .i64 k ∧ Rl c W R (OwnR c R) vs w wx k rep lit cur o f) (fun i wx => 2 * (len - (intOf i).toNat) + idle wx R)
  case atStart => exact ⟨0, _, _, _, _, _, Nat.zero_le _, rfl, H0.out⟩
  case round =>
    obtain ⟨k, rep, lit, cur, o, f, hk, rfl, hG⟩ := hrel
    clear H0
    by_cases hlt : k < len
    · rcases hG.pos.cases with ⟨hr1, rfl⟩ | ⟨rfl, hl1⟩ | ⟨rfl, rfl, hruns⟩
      · obtain ⟨m, hm⟩ : ∃ m, m = min (len - k) rep := ⟨_, rfl⟩
        have hm1 : 1 ≤ m := by omega
        have hmr : m ≤ rep := by omega
        have hmk : k + m ≤ len := by omega
        have hmi : (if (rep : Int) < (len : Int) - k then (rep : Int) else (len : Int) - k) = m := by split <;> omega
        have hrb := hG.le.1
        have c3 := hG.rd.re
        have f3 := hG.rd.fr 3 (by omega)
        have hG2 : Rl c W R (OwnR c R) vs w (wr.setCell ⟨R, 3, none⟩ (.int .i32 (rep - m : Nat))) (k + m) (rep - m) 0 cur o f :=
          ⟨hG.rd.rep' _, by rw [← List.drop_drop]; exact (hG.pos.took_rep hr1 hmr).1, hG.chg.ownR _ _⟩
        have hrm : (rep : Int) - m = (rep - m : Nat) := by omega
        rw [← hrm] at hG2
        have HG2 := Lib.hid hG2
        have Hm := Lib.hid hm
        have Hid0 := Lib.hid (idle_le wr R)
        clear hG hG2 hm hrm
        have hr1' : (0 : Int) < rep := by omega
        go_wp2_with fail
        go_roundw
        case rel => exact ⟨k + m, rep - m, 0, cur, o, f, by omega, by push_cast; rfl, HG2.out⟩
        case measure => 
          have := idle_le (wr.setCell ⟨R, 3, none⟩ (.int .i32 (rep - m))) R
          simp [intOf]; omega
      · obtain ⟨m, hm⟩ : ∃ m, m = min (len - k) lit := ⟨_, rfl⟩
        have hm1 : 1 ≤ m := by omega
        have hml : m ≤ lit := by omega
        have hmk : k + m ≤ len := by omega
        have hmi : (if (lit : Int) < (len : Int) - k then (lit : Int) else (len : Int) - k) = m := by split <;> omega
        have hlb := hG.le.2
        have c0 := hG.rd.p
        have c1 := hG.rd.wi
        have c3 := hG.rd.re
        have c4 := hG.rd.li
        have e1 : lit * W = m * W + (lit - m) * W := by rw [← Nat.add_mul]; congr 1; omega
        have hcall := discard_ok c o f W m wr.drew hG.rd.rs.drew' hW1 hW2 (by have := (hG.pos.took_lit (m := 0) (o' := o) (f' := f) hl1 (by omega) (by omega)).2.2; omega) (by omega)
        have Hcall := Lib.hid hcall; clear hcall e1
        have HG := Lib.hid hG; clear hG
        have Hm := Lib.hid hm; clear hm
        have Hid0 := Lib.hid (idle_le wr R)
        have hl1' : (0 : Int) < lit := by omega
        have hwW : IntKind.u64.wrap (W : Int) = W := wrap64 _ (by omega) (by omega)
        go_wp2_with fail
        (refine wp_region_txt [] (by kernel_rfl) (by kernel_rfl) ?_; repeat (first | (refine wpTxt_pure rfl rfl (fun K hK => ?_); go_simp; refine hK _ ?_; clear hK K) | (refine wpTxt_still rfl rfl (fun K hK => ?_); go_simp; refine hK _ ?_; clear hK K)))
        refine wpTxt_effect rfl rfl (fun K hK => ?_); go_simp
        refine Hcall.out.mono ?_
        rintro e w1 ⟨rfl, h1, o1, f1, hpos, hN⟩
        have h1' := h1.undrew
        have hR1 := HG.out.rd.read h1' (fun x hx => HG.out.rd.nB hx) hN.rs
        have c4' := hR1.li
        have f4' := hR1.fr 4 (by omega)
        have hG2 : Rl c W R (OwnR c R) vs w (w1.setCell ⟨R, 4, none⟩ (.int .i32 (lit - m : Nat))) (k + m) 0 (lit - m) cur o1 f1 :=
          ⟨hR1.lit' _, by rw [← List.drop_drop]; exact (HG.out.pos.took_lit hl1 hml hpos).1, (HG.out.chg.trans (h1'.mono (fun _ _ _ h => .inl h))).ownR _ _⟩
        have hrm : (lit : Int) - m = (lit - m : Nat) := by omega
        rw [← hrm] at hG2
        have HG2 := Lib.hid hG2
        clear h1 h1' hR1 hG2 hrm c0 c1 c3 c4
        (refine hK _ _ ?_; clear hK K)
        repeat (first | (refine wpTxt_pure rfl rfl (fun K hK => ?_); go_simp; refine hK _ ?_; clear hK K) | (refine wpTxt_still rfl rfl (fun K hK => ?_); go_simp; refine hK _ ?_; clear hK K))
        refine wpTxt_nil ?_
        go_wp2_with fail
        go_roundw
        case rel => exact ⟨k + m, 0, lit - m, cur, o1, f1, by omega, by push_cast; rfl, HG2.out⟩
        case measure =>
          have := idle_le (w1.setCell ⟨R, 4, none⟩ (.int .i32 (lit - m))) R
          simp [intOf]; omega
      · have c3 := hG.rd.re
        have c4 := hG.rd.li
        have Hcall := Lib.hid (rleNext_ok c W R cur o f (vs.drop k) wr hG.rd hW1 hW2 hruns (ne_drop hlt Hlen.out))
        have Hid1 := Lib.hid (idle_yes hG.rd)
        have HG := Lib.hid hG; clear hG
        clear hruns
        go_wp2_with fail
        refine Hcall.out.mono ?_
        rintro e w1 ⟨rfl, h1, rep2, lit2, cur2, o2, f2, hR2, hP2, hz⟩
        have Hid2 := Lib.hid (idle_is hR2 hz)
        have hG2 : Rl c W R (OwnR c R) vs w w1 k rep2 lit2 cur2 o2 f2 := ⟨hR2, hP2, HG.out.chg.trans h1⟩
        have HG2 := Lib.hid hG2
        clear h1 hR2 hP2 hz hG2
        go_wp2_with fail
        go_roundw
        case rel => exact ⟨k, rep2, lit2, cur2, o2, f2, hk, rfl, HG2.out⟩
        case measure =>
          have := Hid1.out
          have := Hid2.out
          simp [intOf]; omega
    · have hke : k = len := by omega
      subst hke
      have HG := Lib.hid hG; clear hG
      go_wp2_with fail
      go_ret
      exact ⟨rfl, _, _, _, _, _, HG.out⟩
end Go.Proofs.YtflgbndhahcdnaaGreatDoor
/- The reader of runs: a batch of numbers. -/
namespace Go.Proofs.YtflgbndhahcdnaaGreatDoor
open Go Go.RowKit
/-- What may turn at a batch of runs. -/
def GTR (c : RC) (R ob oo len : Nat) : Nat → Nat → Prop := fun k x => k = c.B ∨ k = R ∨ (k = c.rb ∧ c.ro ≤ x ∧ x < c.ro + 3) ∨ (k = ob ∧ oo ≤ x ∧ x < oo + len)
/-- Behind k numbers of a batch; f says how a number is stored. -/
structure Gr (c : RC) (W R ob oo len : Nat) (F : Nat → Value) (vs : List Nat) (w wr : World) (k rep lit cur o f : Nat) : Prop where
  rl : Rl c W R (GTR c R ob oo len) vs w wr k rep lit cur o f
  out : ∀ j, j < k → wr.cell? ⟨ob, oo + j, none⟩ = some (F (vs.getD j 0))
  dst : Dst c wr ob oo len
  nR : ob ≠ R
theorem getD_of {vs : List Nat} {k j v : Nat} (h : (vs.drop k)[j]? = some v) : vs.getD (k + j) 0 = v := by
  rw [List.getElem?_drop] at h
  rw [List.getD_eq_getElem?_getD, h]; rfl
/-- Some numbers more have been laid, by S. -/
theorem Gr.more {c : RC} {W R ob oo len : Nat} {F : Nat → Value} {vs : List Nat} {w wr w1 : World} {k rep lit cur o f m rep' lit' cur' o' f' : Nat} (h : Gr c W R ob oo len F vs w wr k rep lit cur o f)
    {S : Nat → Nat → Prop} (hc : Chg S wr w1) (hS : ∀ a x, S a x → GTR c R ob (oo + k) m a x) (hm : k + m ≤ len) (hr : RD c W R rep' lit' cur' o' f' w1) (hp : Pos c.D c.L W rep' lit' cur' o' f' ((vs.drop k).drop m))
    (ho : ∀ j, j < m → ∃ v, (vs.drop k)[j]? = some v ∧ w1.cell? ⟨ob, oo + k + j, none⟩ = some (F v)) : Gr c W R ob oo len F vs w w1 (k + m) rep' lit' cur' o' f' := by
  have hn : ∀ j, j < k ∨ k + m ≤ j → ¬ S ob (oo + j) := by
    intro j hj hs
    rcases hS _ _ hs with hh | hh | hh | hh
    · exact h.dst.nB hh
    · exact h.nR hh
    · exact h.dst.nr hh.1
    · omega
  refine ⟨⟨hr, by rw [← List.drop_drop]; exact hp, h.rl.chg.trans (hc.mono ?_)⟩, ?_, ?_, h.nR⟩
  · intro a x _ hs
    rcases hS a x hs with hh | hh | hh | hh
    · exact .inl hh
    · exact .inr (.inl hh)
    · exact .inr (.inr (.inl hh))
    · exact .inr (.inr (.inr ⟨hh.1, by omega, by omega⟩))
  · intro j hj
    by_cases hjk : j < k
    · exact hc.keep (h.out j hjk) (hn j (.inl hjk))
    · obtain ⟨v, hv, hcl⟩ := ho (j - k) (by omega)
      have := getD_of hv
      rw [show k + (j - k) = j by omega] at this
      rw [this, show oo + j = oo + k + (j - k) by omega]
      exact hcl
  · refine ⟨fun j hj => ?_, fun j hj => ?_, h.dst.nB, h.dst.nr, h.dst.nb, h.dst.g⟩
    · by_cases hjk : j < k ∨ k + m ≤ j
      · obtain ⟨u, hu⟩ := h.dst.oth j hj; exact ⟨u, hc.keep hu (hn j hjk)⟩
      · obtain ⟨v, hv, hcl⟩ := ho (j - k) (by omega)
        rw [show oo + j = oo + k + (j - k) by omega]
        exact ⟨_, hcl⟩
    · obtain ⟨u, hu⟩ := h.dst.oth j hj
      exact (hc.frozen _ _ (World.block_lt_of_cell? wr _ hu)).trans (h.dst.ofr j hj)
/-- Numbers of one value are being laid. -/
structure Rp (ob oo k i : Nat) (v : Value) (w wr : World) : Prop where
  chg : Chg (fun a x => a = ob ∧ oo + k ≤ x ∧ x < oo + k + i) w wr
  out : ∀ j, j < i → wr.cell? ⟨ob, oo + k + j, none⟩ = some v
theorem Rp.step {ob oo k i : Nat} {v u : Value} {w wr : World} (h : Rp ob oo k i v w wr) (hu : wr.cell? ⟨ob, oo + k + i, none⟩ = some u) : Rp ob oo k (i + 1) v w (wr.setCell ⟨ob, oo + k + i, none⟩ v) := by
  refine ⟨(h.chg.mono (fun a x _ hh => ⟨hh.1, hh.2.1, by omega⟩)).setCell _ _ (fun _ => ⟨rfl, by omega, by omega⟩) _, fun j hj => ?_⟩
  by_cases hji : j = i
  · subst hji; exact World.cell?_setCell_same _ _ _ hu
  · exact cell_ne _ (h.out j (by omega)) (by omega)
set_option maxRecDepth 100000 in
set_option maxHeartbeats 1000000 in
theorem rleBatch_ok (c : RC) (W R rep lit cur o f ob oo len cap : Nat) (vs : List Nat) (w : World) (h : RD c W R rep lit cur o f w) (hp : Pos c.D c.L W rep lit cur o f vs) (hW1 : 1 ≤ W) (hW2 : W ≤ 64) (hlen : len ≤ vs.length) (hl : len ≤ 1000000000) (hd : Dst c w ob oo len) (hoR : ob ≠ R) (hcap : len ≤ cap) (hcap2 : cap ≤ 1000000000000000000) :
    Calls Tryz.prog 35 #[.pointer (some ⟨R, 0, none⟩), .slice (some ⟨ob, oo, none⟩) len cap] w fun e w' =>
      e = .returned (.tuple #[.int .i64 len, .nilIface]) ∧ ∃ rep' lit' cur' o' f', Gr c W R ob oo len (fun v => .int .u64 v) vs w w' len rep' lit' cur' o' f' := by
  have h0 : Gr c W R ob oo len (fun v => .int .u64 v) vs w w 0 rep lit cur o f := ⟨⟨h, hp, Chg.refl _ _⟩, fun j hj => by omega, hd, hoR⟩
  have H0 := Lib.hid h0; clear h0 h hp hd
  have Hlen := Lib.hid hlen; clear hlen
  go_enter Tryz.func35, Tryz.ntmps35
  go_wp2_with fail
  go_loopw [6, 8] (fun i s wx => ∃ k rep lit cur o f, k ≤ len ∧ i = .int .i64 k ∧ (k < len → s = .slice (some ⟨ob, oo + k, none⟩) (len - k) (cap - k)) ∧ Gr c W R ob oo len (fun v => .int .u64 v) vs w wx k rep lit cur o f) (fun i _ wx => 2 * (len - (intOf i).toNat) + idle wx R)
  case atStart => exact ⟨0, _, _, _, _, _, Nat.zero_le _, rfl, fun _ => rfl, H0.out⟩
  case round =>
    obtain ⟨k, rep, lit, cur, o, f, hk, rfl, hs, hG⟩ := hrel
    clear H0
    by_cases hlt : k < len
    · obtain rfl := hs hlt
      clear hs
      rcases hG.rl.pos.cases with ⟨hr1, rfl⟩ | ⟨rfl, hl1⟩ | ⟨rfl, rfl, hruns⟩
      · obtain ⟨m, hm⟩ : ∃ m, m = min (len - k) rep := ⟨_, rfl⟩
        have hm1 : 1 ≤ m := by omega
        have hmr : m ≤ rep := by omega
        have hmk : k + m ≤ len := by omega
        have hmi : (if (rep : Int) < (len : Int) - k then (rep : Int) else (len : Int) - k) = m := by split <;> omega
        have hrb := hG.rl.le.1
        have c3 := hG.rl.rd.re
        have f3 := hG.rl.rd.fr 3 (by omega)
        have c2 := hG.rl.rd.cu
        have HG := Lib.hid hG
        have Hm := Lib.hid hm
        have Hid0 := Lib.hid (idle_le wr R)
        clear hG hm
        have hr1' : (0 : Int) < rep := by omega
        go_wp2_with fail
        obtain ⟨wo, rfl⟩ : ∃ wo : World, wo = wr := ⟨_, rfl⟩
        go_loopw [11] (fun i wx => ∃ j, j ≤ m ∧ i = .int .i64 j ∧ Rp ob oo k j (.int .u64 cur) wo wx) (fun i _ => m - (intOf i).toNat)
        case atStart => exact ⟨0, Nat.zero_le _, rfl, Chg.refl _ _, fun j hj => by omega⟩
        case round =>
          obtain ⟨j, hj, rfl, hr⟩ := hrel
          have hno : ∀ x, ¬ (R = ob ∧ oo + k ≤ x ∧ x < oo + k + j) := by rintro x ⟨hh, -⟩; exact HG.out.nR hh.symm
          have d2 := hr.chg.keep c2 (hno _)
          have d3 := hr.chg.keep c3 (hno _)
          have e3 := (hr.chg.frozen R 3 HG.out.rl.rd.lt).trans f3
          by_cases hjm : j < m
          · obtain ⟨u, hu⟩ := HG.out.dst.oth (k + j) (by omega)
            have hfz := (hr.chg.frozen ob (oo + (k + j)) (World.block_lt_of_cell? _ _ hu)).trans (HG.out.dst.ofr (k + j) (by omega))
            have hu2 := hr.chg.keep hu (by rintro ⟨-, hh⟩; omega)
            rw [show oo + (k + j) = oo + k + j by omega] at hfz hu2
            have Hr := Lib.hid hr; clear hr hu
            have hjl : j < len - k := by omega
            go_wp2_with fail
            go_roundw
            case rel => exact ⟨j + 1, by omega, by go_num, Hr.out.step hu2⟩
            case measure => simp [intOf]; omega
          · obtain rfl : j = m := by omega
            have hR2 : RD c W R rep 0 cur o f wr := HG.out.rl.rd.keep hr.chg (by rintro a x ⟨rfl, -⟩; exact ⟨HG.out.dst.nb, HG.out.dst.nr, HG.out.dst.nB, HG.out.nR, HG.out.dst.g⟩)
            have hc2 : Chg (fun a x => a = R ∨ (a = ob ∧ oo + k ≤ x ∧ x < oo + k + j)) wo (wr.setCell ⟨R, 3, none⟩ (.int .i32 (rep - j : Nat))) := (hr.chg.mono (fun _ _ _ hh => .inr hh)).setCell _ _ (fun _ => .inl rfl) _
            have hG2 := HG.out.more hc2 (by rintro a x (hh | hh); exact .inr (.inl hh); exact .inr (.inr (.inr hh))) hmk (hR2.rep' (rep - j)) ((HG.out.rl.pos.took_rep hr1 hmr).1) (fun i hi => ⟨cur, (HG.out.rl.pos.took_rep hr1 hmr).2 i hi, cell_ne _ (hr.out i hi) (by rintro ⟨hh, -⟩; exact HG.out.nR hh)⟩)
            have hrm : (rep : Int) - j = (rep - j : Nat) := by omega
            rw [← hrm] at hG2
            have HG2 := Lib.hid hG2
            clear hR2 hc2 hG2 hrm hr hno
            go_wp2_with fail
            all_goals
              go_roundw
              case rel => exact ⟨k + j, rep - j, 0, cur, o, f, by omega, by push_cast; rfl, fun hh => by simp only [Nat.add_assoc, Nat.sub_sub]; rw [if_neg (by omega)], HG2.out⟩
              case measure =>
                have := Hid0.out
                have := idle_le (wr.setCell ⟨R, 3, none⟩ (.int .i32 (rep - j))) R
                simp [intOf]; omega
      · obtain ⟨m, hm⟩ : ∃ m, m = min (len - k) lit := ⟨_, rfl⟩
        have hm1 : 1 ≤ m := by omega
        have hml : m ≤ lit := by omega
        have hmk : k + m ≤ len := by omega
        have hmi : (if (lit : Int) < (len : Int) - k then (lit : Int) else (len : Int) - k) = m := by split <;> omega
        have hmt : ((m : Nat) : Int).toNat = m := by omega
        have hm00 : 0 ≤ (m : Int) := by omega
        have hm11 : m ≤ cap - k := by omega
        have hlb := hG.rl.le.2
        have c0 := hG.rl.rd.p
        have c1 := hG.rl.rd.wi
        have c3 := hG.rl.rd.re
        have c4 := hG.rl.rd.li
        have hbits := (hG.rl.pos.took_lit (m := 0) (o' := o) (f' := f) hl1 (by omega) (by omega)).2.2
        have e1 : lit * W = m * W + (lit - m) * W := by rw [← Nat.add_mul]; congr 1; omega
        have hdk : Dst c wr ob (oo + k) m := ⟨fun j hj => by have := hG.dst.oth (k + j) (by omega); rwa [← Nat.add_assoc] at this, fun j hj => by have := hG.dst.ofr (k + j) (by omega); rwa [← Nat.add_assoc] at this, hG.dst.nB, hG.dst.nr, hG.dst.nb, hG.dst.g⟩
        have hcall := getBatch_ok c o f W ob (oo + k) m (cap - k) wr.drew hG.rl.rd.rs.drew' (hdk.keep (Chg.drew (Chg.refl Nix wr)) (fun _ _ h => h)) hW1 hW2 (by omega) (by omega) (by omega)
        have Hcall := Lib.hid hcall; clear hcall e1 hbits hdk
        have HG := Lib.hid hG; clear hG
        have Hm := Lib.hid hm; clear hm
        have Hid0 := Lib.hid (idle_le wr R)
        have hl1' : (0 : Int) < lit := by omega
        have hwW : IntKind.u64.wrap (W : Int) = W := wrap64 _ (by omega) (by omega)
        go_wp2_with fail
        (refine wp_region_txt [] (by kernel_rfl) (by kernel_rfl) ?_; repeat (first | (refine wpTxt_pure rfl rfl (fun K hK => ?_); go_simp; refine hK _ ?_; clear hK K) | (refine wpTxt_still rfl rfl (fun K hK => ?_); go_simp; refine hK _ ?_; clear hK K)))
        refine wpTxt_effect rfl rfl (fun K hK => ?_); go_simp
        refine Hcall.out.mono ?_
        rintro e w1 ⟨rfl, h1, hout, o1, f1, hpos, hN⟩
        have h1' := h1.undrew
        have hSR : ∀ x, ¬ GT c ob (oo + k) m R x := by
          rintro x (hh | hh | hh)
          · exact HG.out.rl.rd.nB hh
          · exact HG.out.rl.rd.nr hh.1
          · exact HG.out.nR hh.1.symm
        have hR1 := HG.out.rl.rd.read h1' hSR hN.rs
        have c4' := hR1.li
        have f4' := hR1.fr 4 (by omega)
        have ht := HG.out.rl.pos.took_lit hl1 hml hpos
        have hc2 : Chg (fun a x => a = R ∨ GT c ob (oo + k) m a x) wr (w1.setCell ⟨R, 4, none⟩ (.int .i32 (lit - m : Nat))) := (h1'.mono (fun _ _ _ hh => .inr hh)).setCell _ _ (fun _ => .inl rfl) _
        have hG2 := HG.out.more hc2 (by rintro a x (hh | hh | hh | hh); exact .inr (.inl hh); exact .inl hh; exact .inr (.inr (.inl hh)); exact .inr (.inr (.inr hh))) hmk (hR1.lit' (lit - m)) ht.1 (fun i hi => ⟨_, ht.2.1 i hi, cell_ne _ (hout i hi) (by rintro ⟨hh, -⟩; exact HG.out.nR hh)⟩)
        have hrm : (lit : Int) - m = (lit - m : Nat) := by omega
        rw [← hrm] at hG2
        have HG2 := Lib.hid hG2
        clear h1 h1' hR1 hG2 hrm c0 c1 c3 c4 ht hc2 hout hSR
        (refine hK _ _ ?_; clear hK K)
        repeat (first | (refine wpTxt_pure rfl rfl (fun K hK => ?_); go_simp; refine hK _ ?_; clear hK K) | (refine wpTxt_still rfl rfl (fun K hK => ?_); go_simp; refine hK _ ?_; clear hK K))
        refine wpTxt_nil ?_
        go_wp2_with fail
        all_goals
          go_roundw
          case rel => exact ⟨k + m, 0, lit - m, cur, o1, f1, by omega, by push_cast; rfl, fun hh => by simp only [Nat.add_assoc, Nat.sub_sub]; rw [if_neg (by omega)], HG2.out⟩
          case measure =>
            have := Hid0.out
            have := idle_le (w1.setCell ⟨R, 4, none⟩ (.int .i32 (lit - m))) R
            simp [intOf]; omega
      · have c3 := hG.rl.rd.re
        have c4 := hG.rl.rd.li
        have Hcall := Lib.hid (rleNext_ok c W R cur o f (vs.drop k) wr hG.rl.rd hW1 hW2 hruns (ne_drop hlt Hlen.out))
        have Hid1 := Lib.hid (idle_yes hG.rl.rd)
        have HG := Lib.hid hG; clear hG
        clear hruns
        go_wp2_with fail
        refine Hcall.out.mono ?_
        rintro e w1 ⟨rfl, h1, rep2, lit2, cur2, o2, f2, hR2, hP2, hz⟩
        have Hid2 := Lib.hid (idle_is hR2 hz)
        have hG2 := HG.out.more (m := 0) h1 (by rintro a x (hh | hh); exact .inl hh; exact .inr (.inl hh)) (by omega) hR2 hP2 (fun j hj => by omega)
        rw [Nat.add_zero] at hG2
        have HG2 := Lib.hid hG2
        clear h1 hR2 hP2 hz hG2
        go_wp2_with fail
        go_roundw
        case rel => exact ⟨k, rep2, lit2, cur2, o2, f2, hk, rfl, fun _ => rfl, HG2.out⟩
        case measure =>
          have := Hid1.out
          have := Hid2.out
          simp [intOf]; omega
    · have hke : k = len := by omega
      subst hke
      have HG := Lib.hid hG; clear hG
      go_wp2_with fail
      go_ret2
      exact ⟨rfl, _, _, _, _, _, HG.out⟩
end Go.Proofs.YtflgbndhahcdnaaGreatDoor
