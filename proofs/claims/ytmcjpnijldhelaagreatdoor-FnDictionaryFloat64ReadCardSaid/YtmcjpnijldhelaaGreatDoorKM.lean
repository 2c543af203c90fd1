/- Part 13 of the proof: the texts Q, T, V, W, joined. What each proves stands ahead of it. -/
import Derived.Test.YtmcjpnijldhelaaGreatDoorKL
import Derived.Test.YtmcjpnijldhelaaGreatDoorKF
import Derived.Test.YtmcjpnijldhelaaGreatDoorKH
set_option linter.unusedVariables false
set_option linter.unusedSimpArgs false
/- The reader of runs: its cells; the next run. -/
namespace Go.Proofs.YtmcjpnijldhelaaGreatDoor
open Go Go.RowKit
/-- A reader of runs, a block of its own. -/
structure RD (c : RC) (W R rep lit cur o f : Nat) (w : World) : Prop where
  rs : RS c w o f
  p : w.cell? ⟨R, 0, none⟩ = some (.pointer (some ⟨c.B, 0, none⟩))
  wi : w.cell? ⟨R, 1, none⟩ = some (.int .i64 W)
  cu : w.cell? ⟨R, 2, none⟩ = some (.int .u64 cur)
  re : w.cell? ⟨R, 3, none⟩ = some (.int .i32 rep)
  li : w.cell? ⟨R, 4, none⟩ = some (.int .i32 lit)
  fr : ∀ j, j < 5 → w.frozen? ⟨R, j, none⟩ = false
  nB : R ≠ c.B
  nr : R ≠ c.rb
  nb : R ≠ c.b
  g : 7 < R
theorem RS.drew' {c : RC} {w : World} {o f : Nat} (h : RS c w o f) : RS c w.drew o f := h.keep (Chg.drew (Chg.refl Nix w)) (fun _ _ h => h.elim)
/-- What may turn at the next run. -/
def OwnR (c : RC) (R : Nat) : Nat → Nat → Prop := fun k _ => k = c.B ∨ k = R
theorem RD.lt {c : RC} {W R rep lit cur o f : Nat} {w : World} (h : RD c W R rep lit cur o f w) : R < w.heap.size := World.block_lt_of_cell? w _ h.p
theorem RD.keep {c : RC} {W R rep lit cur o f : Nat} {w w' : World} (h : RD c W R rep lit cur o f w) {S : Nat → Nat → Prop} (hc : Chg S w w') (hS : ∀ k x, S k x → k ≠ c.b ∧ k ≠ c.rb ∧ k ≠ c.B ∧ k ≠ R ∧ 7 < k) : RD c W R rep lit cur o f w' :=
  ⟨h.rs.keep hc (fun k x hh => ⟨(hS k x hh).1, (hS k x hh).2.1, (hS k x hh).2.2.1, (hS k x hh).2.2.2.2⟩), hc.keep h.p (fun hh => (hS _ _ hh).2.2.2.1 rfl), hc.keep h.wi (fun hh => (hS _ _ hh).2.2.2.1 rfl), hc.keep h.cu (fun hh => (hS _ _ hh).2.2.2.1 rfl), hc.keep h.re (fun hh => (hS _ _ hh).2.2.2.1 rfl), hc.keep h.li (fun hh => (hS _ _ hh).2.2.2.1 rfl), fun j hj => (hc.frozen _ _ h.lt).trans (h.fr j hj), h.nB, h.nr, h.nb, h.g⟩
/-- The reader of bits has been read from. -/
theorem RD.read {c : RC} {W R rep lit cur o f o' f' : Nat} {w w' : World} (h : RD c W R rep lit cur o f w) {S : Nat → Nat → Prop} (hc : Chg S w w') (hS : ∀ x, ¬ S R x) (hr : RS c w' o' f') : RD c W R rep lit cur o' f' w' :=
  ⟨hr, hc.keep h.p (hS _), hc.keep h.wi (hS _), hc.keep h.cu (hS _), hc.keep h.re (hS _), hc.keep h.li (hS _), fun j hj => (hc.frozen _ _ h.lt).trans (h.fr j hj), h.nB, h.nr, h.nb, h.g⟩
theorem RD.drew {c : RC} {W R rep lit cur o f : Nat} {w : World} (h : RD c W R rep lit cur o f w) : RD c W R rep lit cur o f w.drew := h.keep (Chg.drew (Chg.refl Nix w)) (fun _ _ h => h.elim)
theorem RD.alloc {c : RC} {W R rep lit cur o f : Nat} {w : World} (h : RD c W R rep lit cur o f w) (x : Obj) : RD c W R rep lit cur o f (w.alloc x) := h.keep (Chg.new w x) (fun _ _ h => h.elim)
theorem RD.rsR {c : RC} {W R rep lit cur o f : Nat} {w : World} (h : RD c W R rep lit cur o f w) (x : Nat) (v : Value) : RS c (w.setCell ⟨R, x, none⟩ v) o f :=
  h.rs.keep ((Chg.refl (Own R) w).own x v) (by rintro a y rfl; exact ⟨h.nb, h.nr, h.nB, h.g⟩)
theorem RD.cur' {c : RC} {W R rep lit cur o f : Nat} {w : World} (h : RD c W R rep lit cur o f w) (v : Nat) : RD c W R rep lit v o f (w.setCell ⟨R, 2, none⟩ (.int .u64 v)) :=
  ⟨h.rsR _ _, cell_ne _ h.p (by omega), cell_ne _ h.wi (by omega), World.cell?_setCell_same _ _ _ h.cu, cell_ne _ h.re (by omega), cell_ne _ h.li (by omega), fun j hj => by rw [World.frozen?_setCell]; exact h.fr j hj, h.nB, h.nr, h.nb, h.g⟩
theorem RD.rep' {c : RC} {W R rep lit cur o f : Nat} {w : World} (h : RD c W R rep lit cur o f w) (v : Nat) : RD c W R v lit cur o f (w.setCell ⟨R, 3, none⟩ (.int .i32 v)) :=
  ⟨h.rsR _ _, cell_ne _ h.p (by omega), cell_ne _ h.wi (by omega), cell_ne _ h.cu (by omega), World.cell?_setCell_same _ _ _ h.re, cell_ne _ h.li (by omega), fun j hj => by rw [World.frozen?_setCell]; exact h.fr j hj, h.nB, h.nr, h.nb, h.g⟩
theorem RD.lit' {c : RC} {W R rep lit cur o f : Nat} {w : World} (h : RD c W R rep lit cur o f w) (v : Nat) : RD c W R rep v cur o f (w.setCell ⟨R, 4, none⟩ (.int .i32 v)) :=
  ⟨h.rsR _ _, cell_ne _ h.p (by omega), cell_ne _ h.wi (by omega), cell_ne _ h.cu (by omega), cell_ne _ h.re (by omega), World.cell?_setCell_same _ _ _ h.li, fun j hj => by rw [World.frozen?_setCell]; exact h.fr j hj, h.nB, h.nr, h.nb, h.g⟩
theorem Chg.ownR {c : RC} {R : Nat} {a w : World} (h : Chg (OwnR c R) a w) (i : Nat) (v : Value) : Chg (OwnR c R) a (w.setCell ⟨R, i, none⟩ v) := h.setCell R i (fun _ => .inr rfl) v
/-- Behind the head of a run: a number of bytes is read into the reader's own cell. -/
def NextEnd (c : RC) (W R : Nat) (vs : List Nat) (w : World) (e : Ending) (w' : World) : Prop :=
  e = .returned (.bool true) ∧ Chg (OwnR c R) w w' ∧ ∃ rep lit cur o f, RD c W R rep lit cur o f w' ∧ Pos c.D c.L W rep lit cur o f vs ∧ (1 ≤ rep ∨ 1 ≤ lit)
theorem and1_odd (n : Nat) (hn : 2 * n + 1 < 2 ^ 64) : bits .and .u64 ((2 * n + 1 : Nat) : Int) 1 = 1 := by
  rw [Lib.u64_and1 _ (by omega) (by omega)]; omega
theorem and1_even (n : Nat) (hn : 2 * n < 2 ^ 64) : bits .and .u64 ((2 * n : Nat) : Int) 1 = 0 := by
  rw [Lib.u64_and1 _ (by omega) (by omega)]; omega
set_option maxRecDepth 100000 in
set_option maxHeartbeats 1000000 in
theorem rleNext_lit (c : RC) (W R cur o f k n : Nat) (us : List Nat) (w : World) (h : RD c W R 0 0 cur o f w) (hk : Leb c.D (o + (f + 7) / 8) k (2 * n + 1)) (h1 : 1 ≤ n) (h2 : n ≤ 268435455) (hL : o + (f + 7) / 8 + k + n * W ≤ c.L) (hr : Runs c.D c.L W (o + (f + 7) / 8 + k + n * W) us) :
    Calls Tryz.prog 95 #[.pointer (some ⟨R, 0, none⟩)] w (NextEnd c W R (bitsL c.D (8 * (o + (f + 7) / 8 + k)) W (8 * n) ++ us) w) := by
  obtain ⟨q, hq⟩ : ∃ q, q = o + (f + 7) / 8 + k := ⟨_, rfl⟩
  have hcall := getVlq_ok c o f k (2 * n + 1) w h.rs hk (by omega)
  rw [← hq] at hcall hL hr ⊢
  have Hcall := Lib.hid hcall; clear hcall
  have HR := Lib.hid hr; clear hr
  have hp := h.p
  have H := Lib.hid h; clear h
  have ha := and1_odd n (by omega)
  clear hk hq
  obtain ⟨m, hm⟩ : ∃ m, m = 2 * n + 1 := ⟨_, rfl⟩
  rw [← hm] at Hcall ha
  have hm1 : (m : Int) / 2 = n := by omega
  have Hm := Lib.hid hm; clear hm
  have g1 : 1 ≤ (n : Int) := by omega
  have g2 : (n : Int) ≤ 268435455 := by omega
  have g3 : ((n : Int) == 0) = false := by simp; omega
  have g4 : decide ((268435455 : Int) < n) = false := by simp; omega
  have H1 := Lib.hid h1; clear h1
  have H2 := Lib.hid h2; clear h2
  go_enter Tryz.func95, Tryz.ntmps95
  go_wp2_with fail
  refine Hcall.out.mono ?_
  rintro e w1 ⟨rfl, hc1, hn1⟩
  have hR1 := H.out.read hc1 (fun x hx => H.out.nB hx) hn1.rs
  have c4 := hR1.li
  have f4 := hR1.fr 4 (by omega)
  have HR1 := Lib.hid hR1; clear hR1
  have Hc1 := Lib.hid hc1; clear hc1
  clear hn1
  go_wp2_with fail
  go_ret
  rw [show (n : Int) * 8 = (8 * n : Nat) by omega]
  refine ⟨rfl, (Hc1.out.mono (fun _ _ _ h => .inl h)).ownR _ _, 0, 8 * n, cur, q, 0, HR1.out.lit' (8 * n), ?_, .inr (by have := H1.out; omega)⟩
  exact .lit (8 * n) cur q 0 (q + n * W) us (by have := H1.out; omega) (by have := H2.out; omega) (by rw [Nat.mul_assoc]; omega) hL HR.out
/-- The rest of a run of one number: its value's bytes follow at q. -/
structure RepAt (c : RC) (W R cur n q : Nat) (us : List Nat) (w w1 : World) : Prop where
  rd : RD c W R n 0 cur q 0 w1
  chg : Chg (OwnR c R) w w1
  n1 : 1 ≤ n
  n2 : n ≤ 2147483647
  hL : q + (W + 7) / 8 ≤ c.L
  runs : Runs c.D c.L W (q + (W + 7) / 8) us
theorem RepAt.fin {c : RC} {W R cur n q : Nat} {us : List Nat} {w w1 w2 : World} (h : RepAt c W R cur n q us w w1) (hc : Chg (OwnR c R) w1 w2) (hr : RD c W R n 0 (leV c.D q ((W + 7) / 8)) (q + (W + 7) / 8) 0 w2) : NextEnd c W R (List.replicate n (leV c.D q ((W + 7) / 8)) ++ us) w (.returned (.bool true)) w2 :=
  ⟨rfl, h.chg.trans hc, n, 0, _, _, 0, hr, .rep n _ _ 0 us h.n1 h.n2 h.runs, .inl h.n1⟩
theorem RepAt.loc {c : RC} {W R cur n q q2 : Nat} {us : List Nat} {w w2 w3 : World} {X : Obj} (h : RepAt c W R cur n q us w w2) (h3 : Chg (OwnT c.B w2.heap.size 0) (w2.alloc X) w3) (hn : NS c w3 q2 0) : RD c W R n 0 cur q2 0 w3 ∧ Chg (OwnR c R) w2 w3 := by
  have hl := h.rd.lt
  refine ⟨(h.rd.alloc X).read h3 (by rintro x (hh | hh); exact h.rd.nB hh; omega) hn.rs, h3.unalloc (by rintro k x hk (hh | hh); exact .inl hh; omega)⟩
set_option maxRecDepth 100000 in
set_option maxHeartbeats 1000000 in
theorem rleNext_rep (c : RC) (W R cur o f k n : Nat) (us : List Nat) (w : World) (h : RD c W R 0 0 cur o f w) (hW1 : 1 ≤ W) (hW2 : W ≤ 64) (hk : Leb c.D (o + (f + 7) / 8) k (2 * n)) (h1 : 1 ≤ n) (h2 : n ≤ 2147483647) (hL : o + (f + 7) / 8 + k + (W + 7) / 8 ≤ c.L) (hr : Runs c.D c.L W (o + (f + 7) / 8 + k + (W + 7) / 8) us) :
    Calls Tryz.prog 95 #[.pointer (some ⟨R, 0, none⟩)] w (NextEnd c W R (List.replicate n (leV c.D (o + (f + 7) / 8 + k) ((W + 7) / 8)) ++ us) w) := by
  obtain ⟨q, hq⟩ : ∃ q, q = o + (f + 7) / 8 + k := ⟨_, rfl⟩
  have hcall := getVlq_ok c o f k (2 * n) w h.rs hk (by omega)
  rw [← hq] at hcall hL hr ⊢
  have Hcall := Lib.hid hcall; clear hcall
  have hp := h.p
  have H := Lib.hid h; clear h
  have ha := and1_even n (by omega)
  clear hk hq
  obtain ⟨m, hm⟩ : ∃ m, m = 2 * n := ⟨_, rfl⟩
  rw [← hm] at Hcall ha
  have hm1 : (m : Int) / 2 = n := by omega
  have Hm := Lib.hid hm; clear hm
  have g1 : 1 ≤ (n : Int) := by omega
  have g2 : (n : Int) ≤ 2147483647 := by omega
  have g3 : ((n : Int) == 0) = false := by simp; omega
  have g4 : decide ((2147483647 : Int) < n) = false := by simp; omega
  have hbc := fun X => bytesFor_ok W X (by omega)
  obtain ⟨nb, hnb⟩ : ∃ nb, nb = (W + 7) / 8 := ⟨_, rfl⟩
  have hb1 : 1 ≤ nb := by omega
  have hb8 : nb ≤ 8 := by omega
  rw [← hnb] at hbc
  have Hbc := Lib.hid hbc; clear hbc
  have Hnb := Lib.hid hnb; clear hnb
  have HW1 := Lib.hid hW1; clear hW1
  have HL := Lib.hid hL; clear hL
  have HR := Lib.hid hr; clear hr
  have H1 := Lib.hid h1; clear h1
  have H2 := Lib.hid h2; clear h2
  have hwW : IntKind.i64.wrap (W : Int) = W := IntWalk.i64_in _ (by omega)
  go_enter Tryz.func95, Tryz.ntmps95
  go_wp2_with fail
  refine Hcall.out.mono ?_
  rintro e w1 ⟨rfl, hc1, hn1⟩
  have hR1 := H.out.read hc1 (fun x hx => H.out.nB hx) hn1.rs
  have c3 := hR1.re
  have f3 := hR1.fr 3 (by omega)
  have cW := hR1.wi
  have hA : RepAt c W R cur n q us w (w1.setCell ⟨R, 3, none⟩ (.int .i32 n)) := ⟨hR1.rep' n, (hc1.mono (fun _ _ _ h => .inl h)).ownR _ _, H1.out, H2.out, HL.out, HR.out⟩
  have HA := Lib.hid hA; clear hA
  clear hc1 hn1 hR1
  go_wp2_with fail
  refine (Hbc.out _).mono ?_
  rintro e w2 ⟨rfl, rfl⟩
  generalize w1.setCell ⟨R, 3, none⟩ (.int .i32 n) = w2 at HA ⊢
  clear c3 f3 cW hp Hcall
  have cp := HA.out.rd.p
  have cc := HA.out.rd.cu
  have fc := HA.out.rd.fr 2 (by omega)
  by_cases n4 : 4 < nb
  · have n4' : (4 : Int) < nb := by omega
    have hcall := aligned64_ok c q 0 R 2 nb (.int .u64 cur) w2.drew HA.out.rd.rs.drew' hb1 hb8 (by have := HA.out.hL; have := Hnb.out; omega) (by exact cc) (by exact fc) HA.out.rd.nB HA.out.rd.nr HA.out.rd.nb HA.out.rd.g
    have Hcall := Lib.hid hcall; clear hcall
    go_wp2_with fail
    (refine wp_region_txt [] (by kernel_rfl) (by kernel_rfl) ?_; repeat (first | (refine wpTxt_pure rfl rfl (fun K hK => ?_); go_simp; refine hK _ ?_; clear hK K) | (refine wpTxt_still rfl rfl (fun K hK => ?_); go_simp; refine hK _ ?_; clear hK K)))
    refine wpTxt_effect rfl rfl (fun K hK => ?_); go_simp
    refine Hcall.out.mono ?_
    rintro e w3 ⟨rfl, h3, hv3, hn3⟩
    have h3' := h3.undrew
    have hR3 : RD c W R n 0 (leV c.D q nb) (q + nb) 0 w3 := by
      have hS : ∀ x, x ≠ 2 → ¬ OwnT c.B R 2 R x := by rintro x hx (h | h); exact HA.out.rd.nB h; exact hx h.2
      have hd := HA.out.rd
      exact ⟨hn3.rs, h3'.keep hd.p (hS _ (by omega)), h3'.keep hd.wi (hS _ (by omega)), hv3, h3'.keep hd.re (hS _ (by omega)), h3'.keep hd.li (hS _ (by omega)), fun j hj => (h3'.frozen _ _ hd.lt).trans (hd.fr j hj), hd.nB, hd.nr, hd.nb, hd.g⟩
    have hfin := HA.out.fin (w2 := w3) (h3'.mono (by rintro k x _ (h | h); exact .inl h; exact .inr h.1)) (by rw [← Hnb.out]; exact hR3)
    have Hf := Lib.hid hfin
    clear h3 h3' hv3 hn3 hR3 hfin
    (refine hK _ _ ?_; clear hK K)
    repeat (first | (refine wpTxt_pure rfl rfl (fun K hK => ?_); go_simp; refine hK _ ?_; clear hK K) | (refine wpTxt_still rfl rfl (fun K hK => ?_); go_simp; refine hK _ ?_; clear hK K))
    refine wpTxt_nil ?_
    go_wp2_with fail
    go_ret
    exact Hf.out
  · have n4' : ¬ (4 : Int) < nb := by omega
    by_cases n2 : 2 < nb
    · have n2' : (2 : Int) < nb := by omega
      have hl := HA.out.rd.lt
      have hlB := HA.out.rd.rs.lt
      have hlr := HA.out.rd.rs.rlt
      have hlb := HA.out.rd.rs.blt (by have := HA.out.hL; have := Hnb.out; omega)
      have hg := HA.out.rd.g
      have hcall := aligned32_ok c q 0 w2.heap.size 0 nb (.int .u32 0) _ (HA.out.rd.rs.alloc (.cells #[.int .u32 0] 149)) hb1 (by omega) (by have := HA.out.hL; have := Hnb.out; omega) (by simp) (by simp) (by omega) (by omega) (by omega) (by omega)
      rw [show q + (0 + 7) / 8 = q by omega] at hcall
      have Hcall := Lib.hid hcall; clear hcall
      clear hlB hlr hlb hg
      go_wp2_with fail
      refine Hcall.out.mono ?_
      rintro e w3 ⟨rfl, h3, hv3, hn3⟩
      obtain ⟨hR3, hc3⟩ := HA.out.loc h3 hn3
      have c2 := hR3.cu
      have f2 := hR3.fr 2 (by omega)
      have cp3 := hR3.p
      have hV : leV c.D q nb < 18446744073709551616 := by
        have := leV_lt c.D HA.out.rd.rs.env.data.lt q nb
        have h5 : (2 : Nat) ^ (8 * nb) ≤ 2 ^ 64 := Nat.pow_le_pow_right (by decide) (by omega)
        omega
      have hwu : IntKind.u64.wrap ((leV c.D q nb : Nat) : Int) = (leV c.D q nb : Nat) := wrap64 _ (by omega) (by exact_mod_cast hV)
      clear hV
      have hfin := HA.out.fin (w2 := w3.setCell ⟨R, 2, none⟩ (.int .u64 (leV c.D q nb : Nat))) (hc3.ownR _ _) (by rw [← Hnb.out]; exact hR3.cur' _)
      rw [← Hnb.out] at hfin
      obtain ⟨V, hVe⟩ : ∃ V, V = leV c.D q nb := ⟨_, rfl⟩
      rw [← hVe] at hv3 hwu hfin
      have Hf := Lib.hid hfin
      have HV := Lib.hid hVe
      clear h3 hn3 hR3 hc3 hfin hVe
      go_wp2_with fail
      go_ret
      rw [← Hnb.out, ← HV.out]
      exact Hf.out
    · have n2' : ¬ (2 : Int) < nb := by omega
      by_cases n1 : 1 < nb
      · have n1' : (1 : Int) < nb := by omega
        have hl := HA.out.rd.lt
        have hlB := HA.out.rd.rs.lt
        have hlr := HA.out.rd.rs.rlt
        have hlb := HA.out.rd.rs.blt (by have := HA.out.hL; have := Hnb.out; omega)
        have hg := HA.out.rd.g
        have hcall := aligned16_ok c q 0 w2.heap.size 0 nb (.int .u16 0) _ (HA.out.rd.rs.alloc (.cells #[.int .u16 0] 154)) hb1 (by omega) (by have := HA.out.hL; have := Hnb.out; omega) (by simp) (by simp) (by omega) (by omega) (by omega) (by omega)
        rw [show q + (0 + 7) / 8 = q by omega] at hcall
        have Hcall := Lib.hid hcall; clear hcall
        clear hlB hlr hlb hg
        go_wp2_with fail
        refine Hcall.out.mono ?_
        rintro e w3 ⟨rfl, h3, hv3, hn3⟩
        obtain ⟨hR3, hc3⟩ := HA.out.loc h3 hn3
        have c2 := hR3.cu
        have f2 := hR3.fr 2 (by omega)
        have cp3 := hR3.p
        have hV : leV c.D q nb < 18446744073709551616 := by
          have := leV_lt c.D HA.out.rd.rs.env.data.lt q nb
          have h5 : (2 : Nat) ^ (8 * nb) ≤ 2 ^ 64 := Nat.pow_le_pow_right (by decide) (by omega)
          omega
        have hwu : IntKind.u64.wrap ((leV c.D q nb : Nat) : Int) = (leV c.D q nb : Nat) := wrap64 _ (by omega) (by exact_mod_cast hV)
        clear hV
        have hfin := HA.out.fin (w2 := w3.setCell ⟨R, 2, none⟩ (.int .u64 (leV c.D q nb : Nat))) (hc3.ownR _ _) (by rw [← Hnb.out]; exact hR3.cur' _)
        rw [← Hnb.out] at hfin
        obtain ⟨V, hVe⟩ : ∃ V, V = leV c.D q nb := ⟨_, rfl⟩
        rw [← hVe] at hv3 hwu hfin
        have Hf := Lib.hid hfin
        have HV := Lib.hid hVe
        clear h3 hn3 hR3 hc3 hfin hVe
        go_wp2_with fail
        go_ret
        rw [← Hnb.out, ← HV.out]
        exact Hf.out
      · have n1' : ¬ (1 : Int) < nb := by omega
        have hl := HA.out.rd.lt
        have hlB := HA.out.rd.rs.lt
        have hlr := HA.out.rd.rs.rlt
        have hlb := HA.out.rd.rs.blt (by have := HA.out.hL; have := Hnb.out; omega)
        have hg := HA.out.rd.g
        have e1 : nb = 1 := by omega
        have e1' : (nb : Int) = 1 := by omega
        have hcall := aligned8_ok c q 0 w2.heap.size 0 (.int .u8 0) _ (HA.out.rd.rs.alloc (.cells #[.int .u8 0] 5)) (by have := HA.out.hL; have := Hnb.out; omega) (by simp) (by simp) (by omega) (by omega) (by omega) (by omega)
        rw [show q + (0 + 7) / 8 = q by omega] at hcall
        have Hcall := Lib.hid hcall; clear hcall
        have He1 := Lib.hid e1; clear e1
        have He1' := Lib.hid e1'; clear e1'
        clear hlB hlr hlb hg
        go_wp2_with fail
        rw [He1'.out]
        refine Hcall.out.mono ?_
        rintro e w3 ⟨rfl, h3, hv3, hn3⟩
        have eV : c.D q = leV c.D q nb := by
          rw [He1.out]; simp [leV]
        have e0 : q + 1 = q + nb := by rw [He1.out]
        rw [eV] at hv3
        rw [e0] at hn3
        obtain ⟨hR3, hc3⟩ := HA.out.loc h3 hn3
        have c2 := hR3.cu
        have f2 := hR3.fr 2 (by omega)
        have cp3 := hR3.p
        have hV : leV c.D q nb < 18446744073709551616 := by
          have := leV_lt c.D HA.out.rd.rs.env.data.lt q nb
          have h5 : (2 : Nat) ^ (8 * nb) ≤ 2 ^ 64 := Nat.pow_le_pow_right (by decide) (by omega)
          omega
        have hwu : IntKind.u64.wrap ((leV c.D q nb : Nat) : Int) = (leV c.D q nb : Nat) := wrap64 _ (by omega) (by exact_mod_cast hV)
        clear hV
        have hfin := HA.out.fin (w2 := w3.setCell ⟨R, 2, none⟩ (.int .u64 (leV c.D q nb : Nat))) (hc3.ownR _ _) (by rw [← Hnb.out]; exact hR3.cur' _)
        rw [← Hnb.out] at hfin
        obtain ⟨V, hVe⟩ : ∃ V, V = leV c.D q nb := ⟨_, rfl⟩
        rw [← hVe] at hv3 hwu hfin
        have Hf := Lib.hid hfin
        have HV := Lib.hid hVe
        clear h3 hn3 hR3 hc3 hfin hVe eV e0
        go_wp2_with fail
        go_ret
        rw [← Hnb.out, ← HV.out]
        exact Hf.out
theorem rleNext_ok (c : RC) (W R cur o f : Nat) (vs : List Nat) (w : World) (h : RD c W R 0 0 cur o f w) (hW1 : 1 ≤ W) (hW2 : W ≤ 64) (hr : Runs c.D c.L W (o + (f + 7) / 8) vs) (hv : vs ≠ []) :
    Calls Tryz.prog 95 #[.pointer (some ⟨R, 0, none⟩)] w (NextEnd c W R vs w) := by
  generalize hq : o + (f + 7) / 8 = q at hr
  cases hr with
  | nil => exact absurd rfl hv
  | rep _ k n us hk h1 h2 hL hr =>
    subst hq
    exact rleNext_rep c W R cur o f k n us w h hW1 hW2 hk h1 h2 hL hr
  | lit _ k n us hk h1 h2 hL hr =>
    subst hq
    exact rleNext_lit c W R cur o f k n us w h hk h1 h2 hL hr
end Go.Proofs.YtmcjpnijldhelaaGreatDoor
/- Numbers that are left out: by the reader of bits. -/
namespace Go.Proofs.YtmcjpnijldhelaaGreatDoor
open Go Go.RowKit
/-- What is known when k numbers have been left out. -/
structure Dis (c : RC) (n p : Nat) (w wr : World) (k o1 f1 : Nat) : Prop where
  chg : Chg (Own c.B) w wr
  rs : RS c wr o1 f1
  pos : 8 * o1 + f1 = p + k * n
theorem Dis.step {c : RC} {n p k o1 f1 o2 f2 : Nat} {w wr w1 : World} (h : Dis c n p w wr k o1 f1) (hc : Chg (Own c.B) wr w1) (h2 : RS c w1 o2 f2) (hp : 8 * o2 + f2 = 8 * o1 + f1 + n) : Dis c n p w w1 (k + 1) o2 f2 :=
  ⟨h.chg.trans hc, h2, by have e1 : (k + 1) * n = k * n + n := Nat.succ_mul k n
                          have := h.pos
                          omega⟩
set_option maxRecDepth 100000 in
set_option maxHeartbeats 1000000 in
theorem discard_ok (c : RC) (o f n len : Nat) (w : World) (h : RS c w o f) (hn1 : 1 ≤ n) (hn : n ≤ 64) (hp : 8 * o + f + len * n ≤ 8 * c.L) (hlen : len ≤ 2147483647) :
    Calls Tryz.prog 96 #[.pointer (some ⟨c.B, 0, none⟩), .int .u64 n, .int .i64 len] w fun e w' =>
      e = .returned (.tuple #[.int .i64 len, .nilIface]) ∧ Chg (Own c.B) w w' ∧ ∃ o' f', 8 * o' + f' = 8 * o + f + len * n ∧ NS c w' o' f' := by
  obtain ⟨p, hpp⟩ : ∃ p, p = 8 * o + f := ⟨_, rfl⟩
  rw [← hpp] at hp ⊢
  have h0 : Dis c n p w w 0 o f := ⟨Chg.refl _ _, h, by omega⟩
  have hL := h.env.hL
  have hC := h.env.hC
  have hLb := h.env.hLb
  have hpk : ∀ k, k < len → p + k * n + n ≤ 8 * c.L := by
    intro k hk
    have : (k + 1) * n ≤ len * n := Nat.mul_le_mul_right _ hk
    rw [Nat.succ_mul] at this
    omega
  have H0 := Lib.hid h0; clear h0
  have Hpk := Lib.hid hpk; clear hpk
  have Hp := Lib.hid hp; clear hp
  clear h
  go_enter Tryz.func96, Tryz.ntmps96
  go_upto_block 0 with fail
  go_cut [8] (fun i wx => ∃ k o1 f1, k ≤ len ∧ i = .int .i64 k ∧ Dis c n p w wx k o1 f1 ∧ (k < len → f1 = 0))
  case first =>
    clear hpp
    go_wp2_with fail
    go_loopw [8] (fun i wx => ∃ k o1 f1, k ≤ len ∧ i = .int .i64 k ∧ Dis c n p w wx k o1 f1) (fun i _ => len - (intOf i).toNat)
    case atStart => exact ⟨0, o, f, Nat.zero_le _, rfl, H0.out⟩
    case round =>
      obtain ⟨k, o1, f1, hk, rfl, hG⟩ := hrel
      have HG := Lib.hid hG; clear hG
      by_cases hlt : k < len
      · obtain ⟨buf, vb, hb, -⟩ := HG.out.rs.br
        have c3 := hb.bi
        clear hb
        by_cases hf : f1 = 0
        · subst hf
          go_wp2_with fail
          go_meet
          exact ⟨k, o1, 0, hk, rfl, HG.out, fun _ => rfl⟩
        · have hf' : ¬ (f1 : Int) = 0 := by omega
          have hcall := next_ok c o1 f1 n wr (HG.out.rs.ns (by omega)) hn (by rw [HG.out.pos]; exact Hpk.out k hlt)
          have Hcall := Lib.hid hcall; clear hcall
          go_wp2_with fail
          refine Hcall.out.mono ?_
          rintro e w1 ⟨rfl, h1, o2, f2, h2, -, h3⟩
          have hG2 := HG.out.step h1 h3.rs h2
          have HG2 := Lib.hid hG2; clear hG2
          clear h1 h2 h3
          go_wp2_with fail
          go_roundw
          case rel => exact ⟨k + 1, o2, f2, by omega, by go_num, HG2.out⟩
          case measure => simp [intOf]; omega
      · go_wp2_with fail
        go_meet
        exact ⟨k, o1, f1, hk, rfl, HG.out, fun h => absurd h hlt⟩
  case rest =>
    obtain ⟨k, o1, f1, hk, rfl, hG, hkf⟩ := hcut
    have HG := Lib.hid hG; clear hG
    clear H0
    go_upto_if 47 with fail
    go_cut [8] (fun i wx => ∃ k o1 f1, k ≤ len ∧ i = .int .i64 k ∧ Dis c n p w wx k o1 f1)
    case first =>
      by_cases hbig : 32 < len - k
      · have hbig' : (32 : Int) < (len : Int) - k := by omega
        have hf0 : f1 = 0 := hkf (by omega)
        subst hf0
        obtain ⟨m, hm⟩ : ∃ m, m = (len - k) / 32 := ⟨_, rfl⟩
        have hm1 : ((len : Int) - k) / 32 = m := by omega
        have hmk : k + m * 32 ≤ len := by omega
        have hm0 : 1 ≤ m := by omega
        have Hm := Lib.hid hm; clear hm
        obtain ⟨y, hy⟩ : ∃ y, y = m * (4 * n) := ⟨_, rfl⟩
        have hTn : m * 32 * n = 8 * y := by rw [hy, Nat.mul_assoc, Nat.mul_left_comm 8 m, ← Nat.mul_assoc 8 4 n]
        have hy1 : 1 ≤ y := by rw [hy]; exact Nat.mul_pos (by omega) (by omega)
        have hyL : p + k * n + 8 * y ≤ 8 * c.L := by
          have : (k + m * 32) * n ≤ len * n := Nat.mul_le_mul_right _ hmk
          rw [Nat.add_mul, hTn] at this
          have := Hp.out
          omega
        have hpos := HG.out.pos
        have hend : o1 + y ≤ c.L := by omega
        have hmul : (m : Int) * 32 * n = (8 * y : Nat) := by rw [← hTn]; push_cast; rfl
        have hbd : (m : Int) * 32 * n ≤ 9223372036854775807 := by rw [hmul]; omega
        have hbd0 : 0 ≤ (m : Int) * 32 * n := by rw [hmul]; omega
        have hyb : y ≤ m * 256 := by rw [hy]; exact Nat.mul_le_mul_left _ (by omega)
        have hbc := fun X => bytesFor_ok (8 * y) X (by omega)
        rw [show (8 * y + 7) / 8 = y by omega] at hbc
        have Hbc := Lib.hid hbc; clear hbc
        have Hmul := Lib.hid hmul; clear hmul
        have Hy := Lib.hid hy; clear hy
        have HTn := Lib.hid hTn; clear hTn
        have Hpos := Lib.hid hpos; clear hpos
        have HyL := Lib.hid hyL; clear hyL
        have HG0 := HG.out.rs.lt
        have hgB := HG.out.rs.env.gB
        obtain ⟨ri, rp, hr⟩ := HG.out.rs.env.rdr
        have Hr := Lib.hid hr; clear hr
        obtain ⟨buf, vb, hb, hbq⟩ := HG.out.rs.br
        have c0 := hb.rd
        have c2 := hb.bo
        have HB := Lib.hid hb; clear hb
        have hsum : IntKind.i64.wrap ((o1 : Int) + y) = (o1 : Int) + y := IntWalk.i64_in _ (by omega)
        have hsum2 : IntKind.i64.wrap ((o1 : Int) + y - 1) = ((o1 + y - 1 : Nat) : Int) := by rw [IntWalk.i64_in _ (by omega)]; omega
        have Hn := nil_ReadAt
        have Hm := method_ReadAt
        clear hbq hpp hkf
        go_wp2_with fail
        rw [Hmul.out]
        refine (Hbc.out _).mono ?_
        rintro e w1 ⟨rfl, rfl⟩
        have hy0 : (0 : Int) < y := by omega
        go_wp2_with fail
        (refine wp_region_txt [] (by kernel_rfl) (by kernel_rfl) ?_; repeat (first | (refine wpTxt_pure rfl rfl (fun K hK => ?_); go_simp; refine hK _ ?_; clear hK K) | (refine wpTxt_still rfl rfl (fun K hK => ?_); go_simp; refine hK _ ?_; clear hK K)))
        refine wpTxt_effect rfl rfl (fun K hK => ?_); go_simp
        refine (readAt_any c.rb c.ro c.b c.bo c.L c.C w1.heap.size 0 1 1 (o1 + y - 1) c.ee c.eu ri rp c.D _ (by exact (Hr.out.alloc _).drew) (by exact HG.out.rs.env.data.bytes.alloc _) (by exact (HG.out.rs.env.eofs.keep (Chg.new _ _) id id).drew) (by omega) hL (by
            intro j hj
            obtain rfl : j = 0 := by omega
            exact ⟨.int .u8 0, by simp⟩) (by intro j hj; simp)).mono ?_
        rintro e w3 ⟨hee, hch, -⟩
        have e1 : min (c.L - (o1 + y - 1)) 1 = 1 := by omega
        rw [e1] at hee hch
        have hch1 : Chg Nix w1 w3 := (hch.undrew).unalloc (by rintro k x hk ⟨hh, -⟩; omega)
        have hG3 : Dis c n p w (w3.setCell ⟨c.B, 2, none⟩ (.int .i64 (o1 + y : Nat))) (k + m * 32) (o1 + y) 0 := by
          have hB3 := (HB.out.keep hch1 (fun _ h => h)).off' (o1 + y)
          have hc3 := (Chg.refl (Own c.B) w3).own 2 (.int .i64 (o1 + y : Nat))
          refine ⟨(HG.out.chg.trans (hch1.mono (fun _ _ _ h => h.elim))).trans hc3, ⟨(HG.out.rs.env.keep hch1 (fun _ _ h => h.elim)).keepB hc3 (fun _ _ h => h), by omega, _, _, hB3, fun h => by omega⟩, ?_⟩
          rw [Nat.add_mul, HTn.out]
          have := Hpos.out
          omega
        have c2' := hch1.keep c2 id
        have f2' := (hch1.frozen c.B 2 HG0).trans (HB.out.fr 2 (by omega))
        have HG3 := Lib.hid hG3
        clear hch hch1 hG3 c0 c2
        obtain ⟨ev, rfl⟩ : ∃ ev, e = .returned (.tuple #[.int .i64 1, ev]) := by
          rcases hee with rfl | rfl <;> exact ⟨_, rfl⟩
        clear hee
        (refine hK _ _ ?_; clear hK K)
        repeat (first | (refine wpTxt_pure rfl rfl (fun K hK => ?_); go_simp; refine hK _ ?_; clear hK K) | (refine wpTxt_still rfl rfl (fun K hK => ?_); go_simp; refine hK _ ?_; clear hK K))
        refine wpTxt_nil ?_
        go_wp2_with fail
        go_meet
        exact ⟨k + m * 32, o1 + y, 0, hmk, by push_cast; rfl, by have := HG3.out; push_cast at this; exact this⟩
      · have hbig' : ¬ (32 : Int) < (len : Int) - k := by omega
        clear hpp
        go_wp2_with fail
        go_meet
        exact ⟨k, o1, f1, hk, rfl, HG.out⟩
    case rest =>
      clear hk hkf HG hpp
      obtain ⟨k2, o2, f2, hk2, rfl, hG⟩ := hcut
      obtain ⟨buf, vb, hb, -⟩ := hG.rs.br
      have hcall := fill_ok c o2 f2 buf vb wc hG.rs.env hb hG.rs.hf
      have Hcall := Lib.hid hcall
      have HG := Lib.hid hG
      clear hcall hG hb
      go_wp2_with fail
      refine Hcall.out.mono ?_
      rintro e w1 ⟨rfl, h1, h2⟩
      have hG1 : Dis c n p w w1 k2 o2 f2 := ⟨HG.out.chg.trans h1, h2.rs, HG.out.pos⟩
      have HG1 := Lib.hid hG1; clear hG1
      have H2 := Lib.hid h2; clear h2
      clear h1 HG Hcall
      go_wp2_with fail
      go_loopw [8] (fun i wx => ∃ k o1 f1, k ≤ len ∧ i = .int .i64 k ∧ Dis c n p w wx k o1 f1 ∧ NS c wx o1 f1) (fun i _ => len - (intOf i).toNat)
      case atStart => exact ⟨k2, o2, f2, hk2, rfl, HG1.out, H2.out⟩
      case round =>
        obtain ⟨k, o1, f1, hk, rfl, hG, hN⟩ := hrel
        have HG := Lib.hid hG; clear hG
        have HN := Lib.hid hN; clear hN
        by_cases hlt : k < len
        · have hcall := next_ok c o1 f1 n wr HN.out hn (by rw [HG.out.pos]; exact Hpk.out k hlt)
          have Hcall := Lib.hid hcall; clear hcall
          go_wp2_with fail
          refine Hcall.out.mono ?_
          rintro e w1 ⟨rfl, h1, o2, f2, h2, -, h3⟩
          have hG2 := HG.out.step h1 h3.rs h2
          have HG2 := Lib.hid hG2; clear hG2
          have HN2 := Lib.hid h3; clear h3
          clear h1 h2
          go_wp2_with fail
          go_roundw
          case rel => exact ⟨k + 1, o2, f2, by omega, by go_num, HG2.out, HN2.out⟩
          case measure => simp [intOf]; omega
        · have hke : k = len := by omega
          subst hke
          go_wp2_with fail
          go_ret2
          exact ⟨rfl, HG.out.chg, o1, f1, HG.out.pos, HN.out⟩
end Go.Proofs.YtmcjpnijldhelaaGreatDoor
/- The reader of runs: numbers left out, a batch of numbers. -/
namespace Go.Proofs.YtmcjpnijldhelaaGreatDoor
open Go Go.RowKit
open Classical in
/-- No run is open. -/
noncomputable def idle (w : World) (R : Nat) : Nat := if w.cell? ⟨R, 3, none⟩ = some (.int .i32 0) ∧ w.cell? ⟨R, 4, none⟩ = some (.int .i32 0) then 1 else 0
theorem idle_le (w : World) (R : Nat) : idle w R ≤ 1 := by unfold idle; split <;> omega
theorem idle_is {c : RC} {W R rep lit cur o f : Nat} {w : World} (h : RD c W R rep lit cur o f w) (hz : 1 ≤ rep ∨ 1 ≤ lit) : idle w R = 0 := by
  unfold idle
  rw [if_neg]
  rintro ⟨h1, h2⟩
  rw [h.re] at h1
  rw [h.li] at h2
  injection h1 with h1; injection h1 with _ h1
  injection h2 with h2; injection h2 with _ h2
  omega
theorem idle_yes {c : RC} {W R cur o f : Nat} {w : World} (h : RD c W R 0 0 cur o f w) : idle w R = 1 := by
  unfold idle
  rw [if_pos ⟨h.re, h.li⟩]
/-- Behind k numbers. -/
structure Rl (c : RC) (W R : Nat) (S : Nat → Nat → Prop) (vs : List Nat) (w wr : World) (k rep lit cur o f : Nat) : Prop where
  rd : RD c W R rep lit cur o f wr
  pos : Pos c.D c.L W rep lit cur o f (vs.drop k)
  chg : Chg S w wr
theorem Rl.le {c : RC} {W R : Nat} {S : Nat → Nat → Prop} {vs : List Nat} {w wr : World} {k rep lit cur o f : Nat} (h : Rl c W R S vs w wr k rep lit cur o f) : rep ≤ 2147483647 ∧ lit ≤ 2147483647 := h.pos.bounds
theorem ne_drop {vs : List Nat} {k len : Nat} (hk : k < len) (hl : len ≤ vs.length) : vs.drop k ≠ [] := by
  intro e
  have := congrArg List.length e
  rw [List.length_drop] at this
  simp at this; omega
set_option maxRecDepth 100000 in
set_option maxHeartbeats 1000000 in
theorem rleDiscard_ok (c : RC) (W R rep lit cur o f len : Nat) (vs : List Nat) (w : World) (h : RD c W R rep lit cur o f w) (hp : Pos c.D c.L W rep lit cur o f vs) (hW1 : 1 ≤ W) (hW2 : W ≤ 64) (hlen : len ≤ vs.length) (hl : len ≤ 1000000000) :
    Calls Tryz.prog 81 #[.pointer (some ⟨R, 0, none⟩), .int .i64 len] w fun e w' =>
      e = .returned (.int .i64 len) ∧ ∃ rep' lit' cur' o' f', Rl c W R (OwnR c R) vs w w' len rep' lit' cur' o' f' := by
  have h0 : Rl c W R (OwnR c R) vs w w 0 rep lit cur o f := ⟨h, hp, Chg.refl _ _⟩
  have H0 := Lib.hid h0; clear h0 h hp
  have Hlen := Lib.hid hlen; clear hlen
  go_enter Tryz.func81, Tryz.ntmps81
  go_wp2_with fail
  go_loopw [5] (fun i wx => ∃ k rep lit cur o f, k ≤ len ∧ i = .int .i64 k ∧ Rl c W R (OwnR c R) vs w wx k rep lit cur o f) (fun i wx => 2 * (len - (intOf i).toNat) + idle wx R)
  case atStart => exact ⟨0, _, _, _, _, _, Nat.zero_le _, rfl, H0.out⟩
  case round =>
    obtain ⟨k, rep, lit, cur, o, f, hk, rfl, hG⟩ := hrel
    clear H0
    by_cases hlt : k < len
    · rcases hG.pos.cases with ⟨hr1, rfl⟩ | ⟨rfl, hl1⟩ | ⟨rfl, rfl, hruns⟩
      · obtain ⟨m, hm⟩ : ∃ m, m = min (len - k) rep := ⟨_, rfl⟩
        have hm1 : 1 ≤ m := by omega
        have hmr : m ≤ rep := by omega
        have hmk : k + m ≤ len := by omega
        have hmi : (if (rep : Int) < (len : Int) - k then (rep : Int) else (len : Int) - k) = m := by split <;> omega
        have hrb := hG.le.1
        have c3 := hG.rd.re
        have f3 := hG.rd.fr 3 (by omega)
        have hG2 : Rl c W R (OwnR c R) vs w (wr.setCell ⟨R, 3, none⟩ (.int .i32 (rep - m : Nat))) (k + m) (rep - m) 0 cur o f :=
          ⟨hG.rd.rep' _, by rw [← List.drop_drop]; exact (hG.pos.took_rep hr1 hmr).1, hG.chg.ownR _ _⟩
        have hrm : (rep : Int) - m = (rep - m : Nat) := by omega
        rw [← hrm] at hG2
        have HG2 := Lib.hid hG2
        have Hm := Lib.hid hm
        have Hid0 := Lib.hid (idle_le wr R)
        clear hG hG2 hm hrm
        have hr1' : (0 : Int) < rep := by omega
        go_wp2_with fail
        go_roundw
        case rel => exact ⟨k + m, rep - m, 0, cur, o, f, by omega, by push_cast; rfl, HG2.out⟩
        case measure => 
          have := idle_le (wr.setCell ⟨R, 3, none⟩ (.int .i32 (rep - m))) R
          simp [intOf]; omega
      · obtain ⟨m, hm⟩ : ∃ m, m = min (len - k) lit := ⟨_, rfl⟩
        have hm1 : 1 ≤ m := by omega
        have hml : m ≤ lit := by omega
        have hmk : k + m ≤ len := by omega
        have hmi : (if (lit : Int) < (len : Int) - k then (lit : Int) else (len : Int) - k) = m := by split <;> omega
        have hlb := hG.le.2
        have c0 := hG.rd.p
        have c1 := hG.rd.wi
        have c3 := hG.rd.re
        have c4 := hG.rd.li
        have e1 : lit * W = m * W + (lit - m) * W := by rw [← Nat.add_mul]; congr 1; omega
        have hcall := discard_ok c o f W m wr.drew hG.rd.rs.drew' hW1 hW2 (by have := (hG.pos.took_lit (m := 0) (o' := o) (f' := f) hl1 (by omega) (by omega)).2.2; omega) (by omega)
        have Hcall := Lib.hid hcall; clear hcall e1
        have HG := Lib.hid hG; clear hG
        have Hm := Lib.hid hm; clear hm
        have Hid0 := Lib.hid (idle_le wr R)
        have hl1' : (0 : Int) < lit := by omega
        have hwW : IntKind.u64.wrap (W : Int) = W := wrap64 _ (by omega) (by omega)
        go_wp2_with fail
        (refine wp_region_txt [] (by kernel_rfl) (by kernel_rfl) ?_; repeat (first | (refine wpTxt_pure rfl rfl (fun K hK => ?_); go_simp; refine hK _ ?_; clear hK K) | (refine wpTxt_still rfl rfl (fun K hK => ?_); go_simp; refine hK _ ?_; clear hK K)))
        refine wpTxt_effect rfl rfl (fun K hK => ?_); go_simp
        refine Hcall.out.mono ?_
        rintro e w1 ⟨rfl, h1, o1, f1, hpos, hN⟩
        have h1' := h1.undrew
        have hR1 := HG.out.rd.read h1' (fun x hx => HG.out.rd.nB hx) hN.rs
        have c4' := hR1.li
        have f4' := hR1.fr 4 (by omega)
        have hG2 : Rl c W R (OwnR c R) vs w (w1.setCell ⟨R, 4, none⟩ (.int .i32 (lit - m : Nat))) (k + m) 0 (lit - m) cur o1 f1 :=
          ⟨hR1.lit' _, by rw [← List.drop_drop]; exact (HG.out.pos.took_lit hl1 hml hpos).1, (HG.out.chg.trans (h1'.mono (fun _ _ _ h => .inl h))).ownR _ _⟩
        have hrm : (lit : Int) - m = (lit - m : Nat) := by omega
        rw [← hrm] at hG2
        have HG2 := Lib.hid hG2
        clear h1 h1' hR1 hG2 hrm c0 c1 c3 c4
        (refine hK _ _ ?_; clear hK K)
        repeat (first | (refine wpTxt_pure rfl rfl (fun K hK => ?_); go_simp; refine hK _ ?_; clear hK K) | (refine wpTxt_still rfl rfl (fun K hK => ?_); go_simp; refine hK _ ?_; clear hK K))
        refine wpTxt_nil ?_
        go_wp2_with fail
        go_roundw
        case rel => exact ⟨k + m, 0, lit - m, cur, o1, f1, by omega, by push_cast; rfl, HG2.out⟩
        case measure =>
          have := idle_le (w1.setCell ⟨R, 4, none⟩ (.int .i32 (lit - m))) R
          simp [intOf]; omega
      · have c3 := hG.rd.re
        have c4 := hG.rd.li
        have Hcall := Lib.hid (rleNext_ok c W R cur o f (vs.drop k) wr hG.rd hW1 hW2 hruns (ne_drop hlt Hlen.out))
        have Hid1 := Lib.hid (idle_yes hG.rd)
        have HG := Lib.hid hG; clear hG
        clear hruns
        go_wp2_with fail
        refine Hcall.out.mono ?_
        rintro e w1 ⟨rfl, h1, rep2, lit2, cur2, o2, f2, hR2, hP2, hz⟩
        have Hid2 := Lib.hid (idle_is hR2 hz)
        have hG2 : Rl c W R (OwnR c R) vs w w1 k rep2 lit2 cur2 o2 f2 := ⟨hR2, hP2, HG.out.chg.trans h1⟩
        have HG2 := Lib.hid hG2
        clear h1 hR2 hP2 hz hG2
        go_wp2_with fail
        go_roundw
        case rel => exact ⟨k, rep2, lit2, cur2, o2, f2, hk, rfl, HG2.out⟩
        case measure =>
          have := Hid1.out
          have := Hid2.out
          simp [intOf]; omega
    · have hke : k = len := by omega
      subst hke
      have HG := Lib.hid hG; clear hG
      go_wp2_with fail
      go_ret
      exact ⟨rfl, _, _, _, _, _, HG.out⟩
end Go.Proofs.YtmcjpnijldhelaaGreatDoor
/- The reader of runs: a batch of numbers. -/
namespace Go.Proofs.YtmcjpnijldhelaaGreatDoor
open Go Go.RowKit
/-- What may turn at a batch of runs. -/
def GTR (c : RC) (R ob oo len : Nat) : Nat → Nat → Prop := fun k x => k = c.B ∨ k = R ∨ (k = c.rb ∧ c.ro ≤ x ∧ x < c.ro + 3) ∨ (k = ob ∧ oo ≤ x ∧ x < oo + len)
/-- Behind k numbers of a batch; f says how a number is stored. -/
structure Gr (c : RC) (W R ob oo len : Nat) (F : Nat → Value) (vs : List Nat) (w wr : World) (k rep lit cur o f : Nat) : Prop where
  rl : Rl c W R (GTR c R ob oo len) vs w wr k rep lit cur o f
  out : ∀ j, j < k → wr.cell? ⟨ob, oo + j, none⟩ = some (F (vs.getD j 0))
  dst : Dst c wr ob oo len
  nR : ob ≠ R
theorem getD_of {vs : List Nat} {k j v : Nat} (h : (vs.drop k)[j]? = some v) : vs.getD (k + j) 0 = v := by
  rw [List.getElem?_drop] at h
  rw [List.getD_eq_getElem?_getD, h]; rfl
/-- Some numbers more have been laid, by S. -/
theorem Gr.more {c : RC} {W R ob oo len : Nat} {F : Nat → Value} {vs : List Nat} {w wr w1 : World} {k rep lit cur o f m rep' lit' cur' o' f' : Nat} (h : Gr c W R ob oo len F vs w wr k rep lit cur o f)
    {S : Nat → Nat → Prop} (hc : Chg S wr w1) (hS : ∀ a x, S a x → GTR c R ob (oo + k) m a x) (hm : k + m ≤ len) (hr : RD c W R rep' lit' cur' o' f' w1) (hp : Pos c.D c.L W rep' lit' cur' o' f' ((vs.drop k).drop m))
    (ho : ∀ j, j < m → ∃ v, (vs.drop k)[j]? = some v ∧ w1.cell? ⟨ob, oo + k + j, none⟩ = some (F v)) : Gr c W R ob oo len F vs w w1 (k + m) rep' lit' cur' o' f' := by
  have hn : ∀ j, j < k ∨ k + m ≤ j → ¬ S ob (oo + j) := by
    intro j hj hs
    rcases hS _ _ hs with hh | hh | hh | hh
    · exact h.dst.nB hh
    · exact h.nR hh
    · exact h.dst.nr hh.1
    · omega
  refine ⟨⟨hr, by rw [← List.drop_drop]; exact hp, h.rl.chg.trans (hc.mono ?_)⟩, ?_, ?_, h.nR⟩
  · intro a x _ hs
    rcases hS a x hs with hh | hh | hh | hh
    · exact .inl hh
    · exact .inr (.inl hh)
    · exact .inr (.inr (.inl hh))
    · exact .inr (.inr (.inr ⟨hh.1, by omega, by omega⟩))
  · intro j hj
    by_cases hjk : j < k
    · exact hc.keep (h.out j hjk) (hn j (.inl hjk))
    · obtain ⟨v, hv, hcl⟩ := ho (j - k) (by omega)
      have := getD_of hv
      rw [show k + (j - k) = j by omega] at this
      rw [this, show oo + j = oo + k + (j - k) by omega]
      exact hcl
  · refine ⟨fun j hj => ?_, fun j hj => ?_, h.dst.nB, h.dst.nr, h.dst.nb, h.dst.g⟩
    · by_cases hjk : j < k ∨ k + m ≤ j
      · obtain ⟨u, hu⟩ := h.dst.oth j hj; exact ⟨u, hc.keep hu (hn j hjk)⟩
      · obtain ⟨v, hv, hcl⟩ := ho (j - k) (by omega)
        rw [show oo + j = oo + k + (j - k) by omega]
        exact ⟨_, hcl⟩
    · obtain ⟨u, hu⟩ := h.dst.oth j hj
      exact (hc.frozen _ _ (World.block_lt_of_cell? wr _ hu)).trans (h.dst.ofr j hj)
/-- Numbers of one value are being laid. -/
structure Rp (ob oo k i : Nat) (v : Value) (w wr : World) : Prop where
  chg : Chg (fun a x => a = ob ∧ oo + k ≤ x ∧ x < oo + k + i) w wr
  out : ∀ j, j < i → wr.cell? ⟨ob, oo + k + j, none⟩ = some v
theorem Rp.step {ob oo k i : Nat} {v u : Value} {w wr : World} (h : Rp ob oo k i v w wr) (hu : wr.cell? ⟨ob, oo + k + i, none⟩ = some u) : Rp ob oo k (i + 1) v w (wr.setCell ⟨ob, oo + k + i, none⟩ v) := by
  refine ⟨(h.chg.mono (fun a x _ hh => ⟨hh.1, hh.2.1, by omega⟩)).setCell _ _ (fun _ => ⟨rfl, by omega, by omega⟩) _, fun j hj => ?_⟩
  by_cases hji : j = i
  · subst hji; exact World.cell?_setCell_same _ _ _ hu
  · exact cell_ne _ (h.out j (by omega)) (by omega)
end Go.Proofs.YtmcjpnijldhelaaGreatDoor
