/- Part 11 of the proof: the texts DC, DF, Q0, joined. What each proves stands ahead of it. -/
import Derived.Test.YtmcjpnijldhelaaGreatDoorKF
import Derived.Test.YtmcjpnijldhelaaGreatDoorKC
set_option linter.unusedVariables false
set_option linter.unusedSimpArgs false
/- A batch of indexes of n bits: from the word at hand, number by number. -/
namespace Go.Proofs.YtmcjpnijldhelaaGreatDoor
open Go Go.RowKit
theorem ix_lt (D : Nat → Nat) (n p : Nat) (hn : n ≤ 31) : bitsV D p n < 2147483648 := by
  have := bitsV_lt D n p
  have h5 : (2 : Nat) ^ n ≤ 2 ^ 31 := Nat.pow_le_pow_right (by decide) hn
  omega
/-- What is known behind k indexes. -/
structure GX (c : RC) (ob oo len n p : Nat) (w wr : World) (k o1 f1 : Nat) : Prop where
  chg : Chg (GT c ob oo len) w wr
  out : ∀ j, j < k → wr.cell? ⟨ob, oo + j, none⟩ = some (.int .i32 (bitsV c.D (p + j * n) n))
  dst : Dst c wr ob oo len
  rs : RS c wr o1 f1
  pos : 8 * o1 + f1 = p + k * n
/-- A store behind 'next', or behind a number of the word at hand. -/
theorem GX.step {c : RC} {ob oo len n p k o1 f1 o2 f2 : Nat} {w wr w1 : World} (h : GX c ob oo len n p w wr k o1 f1) (hk : k < len) (hc : Chg (Own c.B) wr w1) (h2 : RS c w1 o2 f2) (hp : 8 * o2 + f2 = 8 * o1 + f1 + n) :
    GX c ob oo len n p w (w1.setCell ⟨ob, oo + k, none⟩ (.int .i32 (bitsV c.D (8 * o1 + f1) n))) (k + 1) o2 f2 := by
  have hd := h.dst.keep hc (fun j hj hh => h.dst.nB hh)
  refine ⟨(h.chg.comp hc (fun _ _ _ h => h) (fun _ _ _ h => .inl h)).setCell _ _ (fun _ => .inr (.inr ⟨rfl, by omega, by omega⟩)) _, ?_, hd.put _ _, ?_, ?_⟩
  · intro j hj
    by_cases hjk : j = k
    · subst hjk
      obtain ⟨u, hu⟩ := hd.oth j (by omega)
      rw [h.pos]
      exact World.cell?_setCell_same _ _ _ hu
    · exact cell_ne _ (hc.keep (h.out j (by omega)) (fun hh => h.dst.nB hh)) (by omega)
  · have hc1 := (Chg.refl (Own ob) w1).own (oo + k) (.int .i32 (bitsV c.D (8 * o1 + f1) n))
    exact h2.keep hc1 (by rintro a x rfl; exact ⟨hd.nb, hd.nr, hd.nB, hd.g⟩)
  · have e1 : (k + 1) * n = k * n + n := Nat.succ_mul k n
    have e2 := h.pos
    omega
/-- The store comes first, the step of the word at hand behind it. -/
theorem GX.take {c : RC} {ob oo len n p k o1 f1 : Nat} {w wr : World} (h : GX c ob oo len n p w wr k o1 f1) (hN : NS c wr o1 f1) (hk : k < len) (hf : f1 + n ≤ 64) :
    GX c ob oo len n p w ((wr.setCell ⟨ob, oo + k, none⟩ (.int .i32 (bitsV c.D (8 * o1 + f1) n))).setCell ⟨c.B, 3, none⟩ (.int .u64 (f1 + n : Nat))) (k + 1) o1 (f1 + n) ∧ NS c ((wr.setCell ⟨ob, oo + k, none⟩ (.int .i32 (bitsV c.D (8 * o1 + f1) n))).setCell ⟨c.B, 3, none⟩ (.int .u64 (f1 + n : Nat))) o1 (f1 + n) := by
  obtain ⟨w1, hw1⟩ : ∃ w1, w1 = wr.setCell ⟨ob, oo + k, none⟩ (.int .i32 (bitsV c.D (8 * o1 + f1) n)) := ⟨_, rfl⟩
  have hc1 : Chg (Own ob) wr w1 := by rw [hw1]; exact (Chg.refl (Own ob) wr).own (oo + k) _
  have hN1 : NS c w1 o1 f1 := hN.keep hc1 (by rintro a x rfl; exact ⟨h.dst.nb, h.dst.nr, h.dst.nB, h.dst.g⟩)
  rw [← hw1]
  have hc2 := (Chg.refl (Own c.B) w1).own 3 (.int .u64 (f1 + n : Nat))
  have hN2 : NS c (w1.setCell ⟨c.B, 3, none⟩ (.int .u64 (f1 + n : Nat))) o1 (f1 + n) := ⟨hN1.env.keepB hc2 (fun _ _ h => h), hf, hN1.br.bit' (f1 + n)⟩
  have hd1 : Dst c w1 ob oo len := by rw [hw1]; exact h.dst.put _ _
  refine ⟨⟨?_, ?_, hd1.keep hc2 (fun j _ hh => h.dst.nB hh), hN2.rs, ?_⟩, hN2⟩
  · refine Chg.comp (b := w1) ?_ hc2 (fun _ _ _ h => h) (fun _ _ _ h => .inl h)
    rw [hw1]
    exact h.chg.setCell _ _ (fun _ => .inr (.inr ⟨rfl, by omega, by omega⟩)) _
  · intro j hj
    refine hc2.keep ?_ (fun hh => h.dst.nB hh)
    rw [hw1]
    by_cases hjk : j = k
    · subst hjk
      obtain ⟨u, hu⟩ := h.dst.oth j (by omega)
      rw [h.pos]
      exact World.cell?_setCell_same _ _ _ hu
    · exact cell_ne _ (h.out j (by omega)) (by omega)
  · have e1 : (k + 1) * n = k * n + n := Nat.succ_mul k n
    have e2 := h.pos
    omega
theorem GX.keepD {c : RC} {ob oo len n p k o1 f1 : Nat} {w wr : World} (h : GX c ob oo len n p w wr k o1 f1) : GX c ob oo len n p w wr.drew k o1 f1 :=
  ⟨h.chg.drew, h.out, h.dst.keep (Chg.drew (Chg.refl Nix wr)) (fun _ _ h => h), h.rs.keep (Chg.drew (Chg.refl Nix wr)) (fun _ _ h => h.elim), h.pos⟩
theorem NS.keepD {c : RC} {w : World} {o f : Nat} (h : NS c w o f) : NS c w.drew o f := h.keep (Chg.drew (Chg.refl Nix w)) (fun _ _ h => h.elim)
/-- How the reading of single numbers ends: all of them, or at a byte's beginning. -/
def ScEnd (c : RC) (ob oo len n p : Nat) (stop : Bool) (w : World) (e : Ending) (w' : World) : Prop :=
  ∃ (k o1 f1 : Nat), e = .returned (.tuple #[.int .i64 k, .nilIface]) ∧ k ≤ len ∧ GX c ob oo len n p w w' k o1 f1 ∧ (stop = false → k = len ∧ NS c w' o1 f1) ∧ (k < len → f1 = 0)
set_option maxRecDepth 100000 in
set_option maxHeartbeats 1000000 in
theorem scalar_ok (c : RC) (o f n ob oo len cap : Nat) (stop : Bool) (w : World) (h : NS c w o f) (hd : Dst c w ob oo len) (hn1 : 1 ≤ n) (hn : n ≤ 31) (hp : 8 * o + f + len * n ≤ 8 * c.L) (hlen : len ≤ cap) (hcap : cap ≤ 1000000000000000000) :
    Calls Tryz.prog 111 #[.pointer (some ⟨c.B, 0, none⟩), .int .u64 n, .slice (some ⟨ob, oo, none⟩) len cap, .bool stop] w (ScEnd c ob oo len n (8 * o + f) stop w) := by
  obtain ⟨p, hpp⟩ : ∃ p, p = 8 * o + f := ⟨_, rfl⟩
  rw [← hpp] at hp ⊢
  have h0 : GX c ob oo len n p w w 0 o f := ⟨Chg.refl _ _, fun j hj => by omega, hd, h.rs, by omega⟩
  have hL := h.env.hL
  have hC := h.env.hC
  have hLb := h.env.hLb
  have hpk : ∀ k m, k + m ≤ len → p + k * n + m * n ≤ 8 * c.L := by
    intro k m hk
    have : (k + m) * n ≤ len * n := Nat.mul_le_mul_right _ hk
    rw [Nat.add_mul] at this
    omega
  have H0 := Lib.hid (And.intro h0 h); clear h0
  have Hpk := Lib.hid hpk; clear hpk
  have Hp := Lib.hid hp; clear hp
  clear h hd
  go_enter Tryz.func111, Tryz.ntmps111
  go_wp2_with fail
  go_loopw [10] (fun i wx => ∃ k o1 f1, k ≤ len ∧ i = .int .i64 k ∧ GX c ob oo len n p w wx k o1 f1 ∧ NS c wx o1 f1) (fun i _ => len - (intOf i).toNat)
  case atStart => exact ⟨0, o, f, Nat.zero_le _, rfl, H0.out⟩
  case round =>
    clear H0 hpp
    obtain ⟨k, o1, f1, hk, rfl, hG, hN⟩ := hrel
    have HG := Lib.hid hG; clear hG
    have HN := Lib.hid hN; clear hN
    have ho1 : o1 ≤ 1000000000000000000 := by have := HG.out.pos; have := Hpk.out k 0 (by omega); omega
    by_cases hlt : k < len
    · have c3 := HN.out.br.bi
      have c4 := HN.out.br.va
      have c2 := HN.out.br.bo
      have f2 := HN.out.br.fr 2 (by omega)
      have f3 := HN.out.br.fr 3 (by omega)
      have hf64 := HN.out.hf
      by_cases hst : stop = true ∧ (f1 = 0 ∨ f1 = 64)
      · obtain ⟨rfl, hst⟩ := hst
        rcases hst with rfl | rfl
        · go_wp2_with fail
          go_ret2
          exact ⟨k, o1, 0, rfl, hk, HG.out, fun h => by simp at h, fun _ => rfl⟩
        · have hB1 := (HN.out.br.off' (o1 + 8)).bit' 0
          have hc1 := ((Chg.refl (Own c.B) wr).own 2 (.int .i64 (o1 + 8 : Nat))).own 3 (.int .u64 (0 : Nat))
          have e1 := HN.out.env.keepB hc1 (fun _ _ h => h)
          rw [show ((o1 + 8 : Nat) : Int) = (o1 : Int) + 8 from rfl, show ((0 : Nat) : Int) = 0 from rfl] at hc1 e1 hB1
          have hG2 : GX c ob oo len n p w ((wr.setCell ⟨c.B, 2, none⟩ (.int .i64 ((o1 : Int) + 8))).setCell ⟨c.B, 3, none⟩ (.int .u64 0)) k (o1 + 8) 0 :=
            ⟨HG.out.chg.comp hc1 (fun _ _ _ h => h) (fun _ _ _ h => .inl h), fun j hj => hc1.keep (HG.out.out j hj) (fun h => HG.out.dst.nB h), HG.out.dst.keep hc1 (fun j _ h => HG.out.dst.nB h), ⟨e1, by omega, _, _, hB1, fun h => by omega⟩, by have := HG.out.pos; omega⟩
          have HG2 := Lib.hid hG2
          clear hB1 hc1 e1 hG2
          go_wp2_with fail
          go_ret2
          exact ⟨k, o1 + 8, 0, rfl, hk, HG2.out, fun h => by simp at h, fun _ => rfl⟩
      · have hnx : ∀ (wb : World), wb = wr → True := fun _ _ => trivial
        clear hnx
        obtain ⟨M, hM⟩ : ∃ M, M = 8 * min (c.L - o1) 8 := ⟨_, rfl⟩
        rw [← hM] at c4
        have hM64 : M ≤ 64 := by omega
        have hfull : 64 ≤ M ∨ 8 * o1 + M = 8 * c.L ∨ (M = 0 ∧ c.L ≤ o1) := by omega
        have hpos := HG.out.pos
        have hstop : (stop = false) ∨ (stop = true ∧ ((f1 : Int) == 0) = false ∧ ((f1 : Int) == 64) = false) := by
          cases stop
          · exact .inl rfl
          · refine .inr ⟨rfl, ?_, ?_⟩
            · simp; intro e; exact hst ⟨rfl, .inl e⟩
            · simp; intro e; exact hst ⟨rfl, .inr (by omega)⟩
        have Hpos := Lib.hid hpos; clear hpos
        clear hst
        -- the word at hand
        by_cases hfM : f1 < M
        · obtain ⟨A, hA⟩ : ∃ A, A = (M - f1) / n := ⟨_, rfl⟩
          obtain ⟨m, hm⟩ : ∃ m, m = min A (len - k) := ⟨_, rfl⟩
          have hAn : A * n ≤ M - f1 := by rw [hA]; exact Nat.div_mul_le_self _ _
          have hA64 : A ≤ 64 := by
            have : A * 1 ≤ A * n := Nat.mul_le_mul_left _ hn1
            omega
          have hmn : m * n ≤ A * n := Nat.mul_le_mul_right _ (by omega)
          have hmk : k + m ≤ len := by omega
          have hdiv : ((M : Int) - f1) / (n : Int) = A := by rw [hA, Int.natCast_ediv, Int.natCast_sub (by omega)]
          have hwA : IntKind.i64.wrap (A : Int) = A := IntWalk.i64_in _ (by omega)
          have hmi : min (A : Int) ((len : Int) - k) = m := by omega
          have hmi2 : (if (len : Int) - k < (A : Int) then (len : Int) - k else (A : Int)) = m := by split <;> omega
          have hfi : (f1 : Int) < M := by omega
          have hqn : ∀ t, t < m → f1 + t * n + n ≤ 64 := by
            intro t ht
            have : (t + 1) * n ≤ m * n := Nat.mul_le_mul_right _ ht
            rw [Nat.succ_mul] at this
            omega
          have Hqn := Lib.hid hqn; clear hqn
          have Hmi := Lib.hid hmi; clear hmi
          have Hm := Lib.hid hm; clear hm
          have hsub : IntKind.u64.wrap ((M : Int) - f1) = (M : Int) - f1 := wrap64 _ (by omega) (by omega)
          have hn0 : ¬ n = 0 := by omega
          have hquo : IntKind.u64.wrap (((M : Int) - f1).tdiv n) = A := by
            rw [Int.tdiv_eq_ediv_of_nonneg (by omega), hdiv]; exact wrap64 _ (by omega) (by omega)
          have Hfull := Lib.hid hfull; clear hfull
          clear hdiv hmn hAn hA hM
          rcases hstop with rfl | ⟨rfl, hs1, hs2⟩
          all_goals
            go_wp2_with fail
            (refine wp_region_txt [] (by kernel_rfl) (by kernel_rfl) ?_; repeat (first | (refine wpTxt_pure rfl rfl (fun K hK => ?_); go_simp; refine hK _ ?_; clear hK K) | (refine wpTxt_still rfl rfl (fun K hK => ?_); go_simp; refine hK _ ?_; clear hK K)))
            refine wpTxt_nil ?_
            go_wp2_with fail
            (refine wp_region_txt [] (by kernel_rfl) (by kernel_rfl) ?_; repeat (first | (refine wpTxt_pure rfl rfl (fun K hK => ?_); go_simp; refine hK _ ?_; clear hK K) | (refine wpTxt_still rfl rfl (fun K hK => ?_); go_simp; refine hK _ ?_; clear hK K)))
            refine wpTxt_nil ?_
            go_wp2_with fail
            obtain ⟨wq, hwq⟩ : ∃ wq, wq = wr.drew.drew := ⟨_, rfl⟩
            have HQ := Lib.hid HG.out.keepD.keepD
            have HP := Lib.hid HN.out.keepD.keepD
            rw [← hwq] at HQ HP ⊢
            clear hwq
            go_loopw [10, 78] (fun i j wx => ∃ t, t ≤ m ∧ i = .int .i64 (k + t : Nat) ∧ j = .int .i64 t ∧ GX c ob oo len n p w wx (k + t) o1 (f1 + t * n) ∧ NS c wx o1 (f1 + t * n)) (fun _ j _ => m - (intOf j).toNat)
            case atStart => exact ⟨0, Nat.zero_le _, rfl, rfl, by rw [Nat.zero_mul]; exact HQ.out, by rw [Nat.zero_mul]; exact HP.out⟩
            case round =>
              clear HQ HP wq c2 c3 c4 f2 f3
              obtain ⟨t, ht, rfl, rfl, hG2, hN2⟩ := hrel
              by_cases htm : t < m
              · obtain ⟨q, hq⟩ : ∃ q, q = f1 + t * n := ⟨_, rfl⟩
                obtain ⟨k2, hk2⟩ : ∃ k2, k2 = k + t := ⟨_, rfl⟩
                have hq64 := Hqn.out t htm
                rw [← hq] at hq64 hG2 hN2
                rw [← hk2] at hG2 ⊢
                have c3 := hN2.br.bi
                have c1 := hN2.br.bu
                have f3 := hN2.br.fr 3 (by omega)
                obtain ⟨u, hu⟩ := hG2.dst.oth k2 (by omega)
                have hfz := hG2.dst.ofr k2 (by omega)
                have e1 := buf_bits c.D hN2.env.data.lt o1 q n (by omega)
                have hlt2 := hN2.lt
                obtain ⟨V, hV⟩ : ∃ V, V = leV c.D o1 8 := ⟨_, rfl⟩
                rw [← hV] at c1 e1 hlt2
                have hT := fun (W : World) => trailing_still V (q + n) W hlt2 (by omega)
                have HT := Lib.hid hT
                obtain ⟨U, hU⟩ : ∃ U, U = bitsV c.D (8 * o1 + q) n := ⟨_, rfl⟩
                have hU31 : U < 2147483648 := by rw [hU]; exact ix_lt c.D n _ hn
                have e2 : ((trB V (q + n) : Nat) : Int) / 2 ^ q = U := by rw [hU, ← e1]; unfold trB; norm_cast
                have hwv := IntWalk.i32_in (U : Int) (by omega)
                obtain ⟨hG3, hN3⟩ := hG2.keepD.take hN2.keepD (by omega) (by omega)
                rw [← hU] at hG3 hN3
                have HG3 := Lib.hid hG3
                have HN3 := Lib.hid hN3
                have Hk2 := Lib.hid hk2
                have Hq := Lib.hid hq
                have hk2l : k2 < len := by omega
                have HB2 := Lib.hid hG2.dst.nB
                clear hG2 hN2 hT hlt2 e1 hV hU hG3 hN3 hk2 hq
                go_wp2_with fail
                refine wp_region_txt [128] (by kernel_rfl) (by kernel_rfl) ?_
                repeat (first | (refine wpTxt_pure rfl rfl (fun K hK => ?_); go_simp; refine hK _ ?_; clear hK K) | (refine wpTxt_still rfl rfl (fun K hK => ?_); go_simp; refine hK _ ?_; clear hK K))
                refine wpTxt_still rfl rfl (fun K hK => ?_)
                go_simp
                refine ⟨_, HT.out _, ?_⟩
                (refine hK _ ?_; clear hK K)
                repeat (first | (refine wpTxt_pure rfl rfl (fun K hK => ?_); go_simp; refine hK _ ?_; clear hK K) | (refine wpTxt_still rfl rfl (fun K hK => ?_); go_simp; refine hK _ ?_; clear hK K))
                (refine wpTxt_effect rfl rfl (fun K hK => ?_); go_simp; refine hK _ _ ?_; clear hK K)
                refine wpTxt_nil ?_
                have hBo : c.B ≠ ob := fun e => HB2.out e.symm
                obtain ⟨w1, hw1⟩ : ∃ w1, w1 = (wr.setCell ⟨ob, oo + k2, none⟩ (.int .i32 U)).drew := ⟨_, rfl⟩
                have c31 : w1.cell? ⟨c.B, 3, none⟩ = some (.int .u64 q) := by rw [hw1]; exact cell_ne _ c3 (fun h => hBo h.1)
                have f31 : w1.frozen? ⟨c.B, 3, none⟩ = false := by rw [hw1]; exact (World.frozen?_setCell ..).trans f3
                rw [show wr.drew.setCell ⟨ob, oo + k2, none⟩ (.int .i32 U) = w1 from hw1.symm] at HG3 HN3
                rw [← hw1]
                clear hw1 c3 f3 hu hfz c1 HT
                go_wp2_with fail
                go_roundw
                case rel =>
                  refine ⟨t + 1, by omega, by have := Hk2.out; go_num, by go_num, ?_, ?_⟩
                  · rw [show f1 + (t + 1) * n = q + n by rw [Nat.add_one_mul]; have := Hq.out; omega, show k + (t + 1) = k2 + 1 by have := Hk2.out; omega]
                    exact HG3.out
                  · rw [show f1 + (t + 1) * n = q + n by rw [Nat.add_one_mul]; have := Hq.out; omega]
                    exact HN3.out
                case measure => simp [intOf]; omega
              · have htm : t = m := by omega
                subst htm
                by_cases ht0 : t = 0
                · subst ht0
                  obtain ⟨wq, hwq⟩ : ∃ wq, wq = wr := ⟨_, rfl⟩
                  rw [Nat.zero_mul, Nat.add_zero, Nat.add_zero] at hG2
                  rw [Nat.zero_mul, Nat.add_zero] at hN2
                  rw [← hwq] at hG2 hN2 ⊢
                  have HQ2 := Lib.hid hG2
                  have HP2 := Lib.hid hN2
                  clear hG2 hN2 hwq
                  rw [Nat.add_zero]
                  have hcall := next_ok c o1 f1 n wq HP2.out (by omega) (by rw [HQ2.out.pos]; have := Hpk.out k 1 (by omega); omega)
                  have Hcall := Lib.hid hcall; clear hcall
                  have hVl := ix_lt c.D n (8 * o1 + f1) hn
                  have hwv := IntWalk.i32_in ((bitsV c.D (8 * o1 + f1) n : Nat) : Int) (by omega)
                  clear hVl
                  go_wp2_with fail
                  refine Hcall.out.mono ?_
                  rintro e w1 ⟨rfl, h1, o2, f2, h2, -, h3⟩
                  have hG2 := HQ2.out.step hlt h1 h3.rs h2
                  have hdd := HQ2.out.dst.keep h1 (fun j hj hh => HQ2.out.dst.nB hh)
                  obtain ⟨u, hu⟩ := hdd.oth k hlt
                  have hfz := hdd.ofr k hlt
                  have hN2 := h3.keep ((Chg.refl (Own ob) w1).own (oo + k) (.int .i32 (bitsV c.D (8 * o1 + f1) n))) (by rintro a x rfl; exact ⟨hdd.nb, hdd.nr, hdd.nB, hdd.g⟩)
                  have HG2 := Lib.hid hG2
                  have HN2 := Lib.hid hN2
                  clear h1 h2 h3 hdd hG2 hN2
                  go_wp2_with fail
                  go_roundw
                  case rel => exact ⟨k + 1, o2, f2, by omega, by go_num, HG2.out, HN2.out⟩
                  case measure => simp [intOf]; omega
                · have HG3 := Lib.hid hG2
                  have HN3 := Lib.hid hN2
                  clear hG2 hN2
                  have ht0' : (0 : Int) < t := by omega
                  go_wp2_with fail
                  go_roundw
                  case rel => exact ⟨k + t, o1, f1 + t * n, by omega, rfl, HG3.out, HN3.out⟩
                  case measure => simp [intOf]; omega
            
        · have hfi : ¬ (f1 : Int) < M := by omega
          rcases hstop with rfl | ⟨rfl, hs1, hs2⟩
          all_goals
            go_wp2_with fail
            (refine wp_region_txt [] (by kernel_rfl) (by kernel_rfl) ?_; repeat (first | (refine wpTxt_pure rfl rfl (fun K hK => ?_); go_simp; refine hK _ ?_; clear hK K) | (refine wpTxt_still rfl rfl (fun K hK => ?_); go_simp; refine hK _ ?_; clear hK K)))
            refine wpTxt_nil ?_
            go_wp2_with fail
            obtain ⟨wq, hwq⟩ : ∃ wq, wq = wr.drew := ⟨_, rfl⟩
            have HQ := Lib.hid HG.out.keepD
            have HP := Lib.hid HN.out.keepD
            rw [← hwq] at HQ HP ⊢
            clear hwq
            have hcall := next_ok c o1 f1 n wq HP.out (by omega) (by rw [HQ.out.pos]; have := Hpk.out k 1 (by omega); omega)
            have Hcall := Lib.hid hcall; clear hcall
            have hVl := ix_lt c.D n (8 * o1 + f1) hn
            have hwv := IntWalk.i32_in ((bitsV c.D (8 * o1 + f1) n : Nat) : Int) (by omega)
            clear hVl
            refine Hcall.out.mono ?_
            rintro e w1 ⟨rfl, h1, o2, f2, h2, -, h3⟩
            have hG2 := HQ.out.step hlt h1 h3.rs h2
            have hdd := HQ.out.dst.keep h1 (fun j hj hh => HQ.out.dst.nB hh)
            obtain ⟨u, hu⟩ := hdd.oth k hlt
            have hfz := hdd.ofr k hlt
            have hN2 := h3.keep ((Chg.refl (Own ob) w1).own (oo + k) (.int .i32 (bitsV c.D (8 * o1 + f1) n))) (by rintro a x rfl; exact ⟨hdd.nb, hdd.nr, hdd.nB, hdd.g⟩)
            have HG2 := Lib.hid hG2
            have HN2 := Lib.hid hN2
            clear h1 h2 h3 hdd hG2 hN2
            go_wp2_with fail
            go_roundw
            case rel => exact ⟨k + 1, o2, f2, by omega, by go_num, HG2.out, HN2.out⟩
            case measure => simp [intOf]; omega
    · have hke : k = len := by omega
      subst hke
      go_wp2_with fail
      go_ret2
      exact ⟨k, o1, f1, rfl, Nat.le_refl _, HG.out, fun _ => ⟨rfl, HN.out⟩, fun h => absurd h (Nat.lt_irrefl _)⟩
end Go.Proofs.YtmcjpnijldhelaaGreatDoor
/- A batch of indexes of n bits: GetBatchIndex. -/
namespace Go.Proofs.YtmcjpnijldhelaaGreatDoor
open Go Go.RowKit
theorem make_u32 (n : Nat) (h2 : n ≤ 1000000) : ∀ W : World, (Instr.makeSlice 252 (.int .i64 (n : Int)) (.int .i64 (n : Int))).run Tryz.prog W = .ok (.slice (some ⟨W.heap.size, 0, none⟩) n n) (W.alloc (.cells (madeCells #[.int .u32 0] n) 149)) :=
  fun W => run_make_row' (P := Tryz.prog) 252 149 (.int .u32 0) 4 (by kernel_rfl) (by kernel_rfl) rfl .i64 .i64 n (by omega) (by omega) W
/-- The rest of a row, read behind what is read. -/
theorem GX.join {c : RC} {ob oo len n p k o1 f1 k2 o2 f2 : Nat} {w wr w2 : World} (h : GX c ob oo len n p w wr k o1 f1) (hk : k ≤ len) (h2 : GX c ob (oo + k) (len - k) n (8 * o1 + f1) wr w2 k2 o2 f2) : GX c ob oo len n p w w2 (k + k2) o2 f2 := by
  have hno : ∀ j, j < k → ¬ GT c ob (oo + k) (len - k) ob (oo + j) := by
    rintro j hj (hh | hh | hh)
    · exact h.dst.nB hh
    · exact h.dst.nr hh.1
    · omega
  refine ⟨h.chg.comp h2.chg (fun _ _ _ h => h) ?_, ?_, ?_, h2.rs, ?_⟩
  · rintro a x ha (hh | hh | hh)
    · exact .inl hh
    · exact .inr (.inl hh)
    · exact .inr (.inr ⟨hh.1, by omega, by omega⟩)
  · intro j hj
    by_cases hjk : j < k
    · exact h2.chg.keep (h.out j hjk) (hno j hjk)
    · have := h2.out (j - k) (by omega)
      rw [h.pos, show oo + k + (j - k) = oo + j by omega, show p + k * n + (j - k) * n = p + j * n by
        rw [Nat.add_assoc, ← Nat.add_mul, show k + (j - k) = j by omega]] at this
      exact this
  · refine ⟨fun j hj => ?_, fun j hj => ?_, h.dst.nB, h.dst.nr, h.dst.nb, h.dst.g⟩
    · by_cases hjk : j < k
      · obtain ⟨u, hu⟩ := h.dst.oth j hj
        exact ⟨u, h2.chg.keep hu (hno j hjk)⟩
      · obtain ⟨u, hu⟩ := h2.dst.oth (j - k) (by omega)
        exact ⟨u, by rwa [show oo + k + (j - k) = oo + j by omega] at hu⟩
    · obtain ⟨u, hu⟩ := h.dst.oth j hj
      exact (h2.chg.frozen _ _ (World.block_lt_of_cell? wr _ hu)).trans (h.dst.ofr j hj)
  · have e1 := h2.pos
    have e2 := h.pos
    rw [Nat.add_mul]; omega
theorem Dst.rest {c : RC} {w : World} {ob oo len : Nat} (h : Dst c w ob oo len) (k : Nat) (hk : k ≤ len) : Dst c w ob (oo + k) (len - k) :=
  ⟨fun j hj => by have := h.oth (k + j) (by omega); rwa [← Nat.add_assoc] at this, fun j hj => by have := h.ofr (k + j) (by omega); rwa [← Nat.add_assoc] at this, h.nB, h.nr, h.nb, h.g⟩
set_option maxRecDepth 100000 in
set_option maxHeartbeats 1000000 in
theorem getIndex_ok (c : RC) (o f n ob oo len cap : Nat) (w : World) (h : RS c w o f) (hd : Dst c w ob oo len) (hn1 : 1 ≤ n) (hn : n ≤ 31) (hp : 8 * o + f + len * n ≤ 8 * c.L) (hlen : len ≤ 1024) (hlc : len ≤ cap) (hcap : cap ≤ 1000000000000000000) :
    Calls Tryz.prog 94 #[.pointer (some ⟨c.B, 0, none⟩), .int .u64 n, .slice (some ⟨ob, oo, none⟩) len cap] w fun e w' =>
      e = .returned (.tuple #[.int .i64 len, .nilIface]) ∧ ∃ o' f', GX c ob oo len n (8 * o + f) w w' len o' f' := by
  obtain ⟨p, hpp⟩ : ∃ p, p = 8 * o + f := ⟨_, rfl⟩
  have hL := h.env.hL
  have hC := h.env.hC
  have hLb := h.env.hLb
  have hpk : ∀ k m, k + m ≤ len → p + k * n + m * n ≤ 8 * c.L := by
    intro k m hk
    have : (k + m) * n ≤ len * n := Nat.mul_le_mul_right _ hk
    rw [Nat.add_mul] at this
    omega
  have h0 : GX c ob oo len n p w w 0 o f := ⟨Chg.refl _ _, fun j hj => by omega, hd, h, by omega⟩
  have hsc : 0 < f → Calls Tryz.prog 111 #[.pointer (some ⟨c.B, 0, none⟩), .int .u64 n, .slice (some ⟨ob, oo, none⟩) len cap, .bool true] w (ScEnd c ob oo len n p true w) := by
    intro hf
    rw [hpp]
    exact scalar_ok c o f n ob oo len cap true w (h.ns hf) hd hn1 hn hp hlc hcap
  rw [← hpp]
  obtain ⟨buf0, vb0, hb0, -⟩ := h.br
  have c3 := hb0.bi
  have Hpk := Lib.hid hpk
  have H0 := Lib.hid h0
  have Hsc := Lib.hid hsc
  clear hpk h0 hsc hp h hd hb0 hpp
  go_enter Tryz.func94, Tryz.ntmps94
  have hn0 : ¬ (n : Int) = 0 := by omega
  have hn32 : ¬ (32 : Int) < n := by omega
  go_upto_if 29 with fail
  go_cut [6, 7] (fun i e wx => ∃ k o1, k ≤ len ∧ i = .int .i64 k ∧ e = .nilIface ∧ GX c ob oo len n p w wx k o1 0)
  case first =>
    by_cases hf : f = 0
    · subst hf
      go_wp2_with fail
      go_meet
      exact ⟨0, o, Nat.zero_le _, rfl, rfl, H0.out⟩
    · have hf' : ¬ (f : Int) = 0 := by omega
      have Hcall := Lib.hid (Hsc.out (by omega))
      go_wp2_with fail
      refine Hcall.out.mono ?_
      rintro e w1 ⟨k, o1, f1, rfl, hk, hG, -, hkf⟩
      have HG := Lib.hid hG
      clear hG c3 Hcall
      by_cases hke : k = len
      · subst hke
        go_wp2_with fail
        go_ret2
        exact ⟨rfl, o1, f1, HG.out⟩
      · obtain rfl := hkf (by omega)
        have hke' : ¬ (k : Int) = len := by omega
        go_wp2_with fail
        go_meet
        exact ⟨k, o1, hk, rfl, rfl, HG.out⟩
  case rest =>
    obtain ⟨k, o1, hk, rfl, rfl, hG⟩ := hcut
    have HG := Lib.hid hG
    clear hG H0 Hsc c3
    obtain ⟨buf, vb, hb, -⟩ := HG.out.rs.br
    obtain ⟨ri, rp, hr⟩ := HG.out.rs.env.rdr
    have Hr := Lib.hid hr
    have c0 := hb.rd
    have c2 := hb.bo
    have HB := Lib.hid hb
    have Hn := nil_Seek
    have Hm := method_Seek
    clear hr hb
    go_wp2_with fail
    refine wp_region_txt [] (by kernel_rfl) (by kernel_rfl) ?_
    repeat (first | (refine wpTxt_pure rfl rfl (fun K hK => ?_); go_simp; refine hK _ ?_; clear hK K) | (refine wpTxt_still rfl rfl (fun K hK => ?_); go_simp; refine hK _ ?_; clear hK K))
    refine wpTxt_effect rfl rfl (fun K hK => ?_)
    go_simp
    refine (seek_start c.rb c.ro c.b c.bo c.L c.C o1 ri rp _ Hr.out.drew).mono ?_
    rintro e w1 ⟨rfl, h1, h2⟩
    have h1' := h1.undrew
    have hG1 : GX c ob oo len n p w w1 k o1 0 :=
      ⟨HG.out.chg.comp h1' (fun _ _ _ h => h) (fun _ _ _ h => .inr (.inl h)), fun j hj => h1'.keep (HG.out.out j hj) (fun h => HG.out.dst.nr h.1), HG.out.dst.keep h1' (fun j hj h => HG.out.dst.nr h.1), HG.out.rs.seek h1' (fun _ _ h => h.1) ⟨_, _, h2⟩, HG.out.pos⟩
    have hB1 := HB.out.keep h1' (fun x h => HG.out.rs.env.rB h.1.symm)
    have HB1 := Lib.hid hB1
    have HG1 := Lib.hid hG1
    have Hr1 := Lib.hid h2
    clear h1 h1' c0 c2 Hr HB HG Hn Hm hG1 hB1 h2
    (refine hK _ _ ?_; clear hK K)
    repeat (first | (refine wpTxt_pure rfl rfl (fun K hK => ?_); go_simp; refine hK _ ?_; clear hK K) | (refine wpTxt_still rfl rfl (fun K hK => ?_); go_simp; refine hK _ ?_; clear hK K))
    refine wpTxt_nil ?_
    go_upto_if 68 with fail
    go_cut [6, 7] (fun i e wx => ∃ k o1, k ≤ len ∧ i = .int .i64 k ∧ e = .nilIface ∧ GX c ob oo len n p w wx k o1 0)
    case first =>
      by_cases hlt : k < len
      · obtain ⟨m, hm⟩ : ∃ m, m = len - k := ⟨_, rfl⟩
        have hmi : (len : Int) - k = m := by omega
        obtain ⟨X, hX⟩ : ∃ X, X = Obj.cells (madeCells #[.int .u32 0] m) 149 := ⟨_, rfl⟩
        have hmk : ∀ W : World, (Instr.makeSlice 252 (.int .i64 ((len : Int) - k)) (.int .i64 ((len : Int) - k))).run Tryz.prog W = .ok (.slice (some ⟨W.heap.size, 0, none⟩) m m) (W.alloc X) := by
          intro W
          rw [hX, hmi]
          exact make_u32 m (by omega) W
        have hm1024 : m ≤ 1024 := by omega
        have c0 := HB1.out.rd
        have hwn : IntKind.i64.wrap (n : Int) = n := IntWalk.i64_in _ (by omega)
        obtain ⟨W1, hW1⟩ : ∃ W1, W1 = w1.alloc X := ⟨_, rfl⟩
        have hc0 : Chg Nix w1 W1 := by rw [hW1]; exact Chg.new w1 X
        have hu1 : ∀ j, j < m → W1.cell? ⟨w1.heap.size, j, none⟩ = some (.int .u32 0) := fun j hj => by rw [hW1, hX]; exact made_cell w1 _ m j _ hj
        have hf1 : ∀ j, j < m → W1.frozen? ⟨w1.heap.size, j, none⟩ = false := fun j hj => by rw [hW1, hX]; exact fresh_frozen rfl
        have hBl := HB1.out.lt
        have hrl := Hr1.out.lt
        have hbl : c.b < w1.heap.size ∨ c.L = 0 := by
          by_cases h0 : c.L = 0
          · exact .inr h0
          · exact .inl (World.block_lt_of_cell? w1 _ (HG1.out.rs.env.data.bytes 0 (by omega)))
        have hL0 : 0 < c.L := by
          have := Hpk.out k 1 (by omega)
          omega
        have hbl2 : c.b < w1.heap.size := by omega
        have hq : 8 * (o1 + m / 32 * (4 * n)) = p + (k + m / 32 * 32) * n := by
          have e1 : (k + m / 32 * 32) * n = k * n + m / 32 * 32 * n := Nat.add_mul _ _ _
          have e2 : 8 * (m / 32 * (4 * n)) = m / 32 * 32 * n := by rw [Nat.mul_left_comm, ← Nat.mul_assoc 8 4 n, ← Nat.mul_assoc]
          have := HG1.out.pos
          omega
        have hqL : o1 + m / 32 * (4 * n) ≤ c.L := by
          have := Hpk.out k (m / 32 * 32) (by omega)
          rw [Nat.add_mul] at hq
          omega
        have hob : ob < w1.heap.size := by
          obtain ⟨u, hu⟩ := HG1.out.dst.oth k hlt
          exact World.block_lt_of_cell? w1 _ hu
        have Hq := Lib.hid hq
        have hcall := unpack32_ok c.rb c.ro c.b c.bo c.L c.C w1.heap.size 0 m m o1 n _ c.D W1 (Hr1.out.keep hc0 (fun _ _ h => h)) (HG1.out.rs.env.data.keep hc0 (fun _ _ h => h)) hn1 (by omega) hqL hL hC HG1.out.rs.env.br (by omega) (by omega) (Nat.le_refl _) (by omega) (fun j hj => ⟨_, by rw [Nat.zero_add]; exact hu1 j hj⟩) (fun j hj => by rw [Nat.zero_add]; exact hf1 j hj)
        have Hcall := Lib.hid hcall
        have Hc0 := Lib.hid hc0
        have Hm := Lib.hid hm
        have HX := Lib.hid hX
        rw [hW1] at Hcall Hc0
        clear hq hcall hc0 hu1 hf1 hm hX hmi hbl hW1
        go_wp2_with fail
        refine Hcall.out.mono ?_
        rintro e w3 ⟨rfl, h1, ⟨pr3, h2⟩, h3⟩
        obtain ⟨N, hN⟩ : ∃ N, N = m / 32 * 32 := ⟨_, rfl⟩
        rw [show 32 * (m / 32) = N by omega] at h1 h3
        rw [← hN]
        have hNm : N ≤ m := by omega
        have hkN : k + N ≤ len := by have := Hm.out; omega
        have h13 : Chg (fun x y => x = c.rb ∧ c.ro ≤ y ∧ y < c.ro + 3) w1 w3 := (Hc0.out.mono (fun _ _ _ h => h.elim)).comp h1 (fun _ _ _ h => h) (by
          rintro a x ha (hh | ⟨hh, -⟩)
          · exact hh
          · omega)
        have hB3 : BR w3 c.B c.rb c.ro o1 0 buf vb := HB1.out.keep h13 (fun x hh => HG1.out.rs.env.rB hh.1.symm)
        have hE3 : Env c w3 := HG1.out.rs.env.keepR h13 (by rintro a x ⟨rfl, -⟩; exact ⟨fun e => HG1.out.rs.env.br e.symm, HG1.out.rs.env.gr⟩) ⟨_, _, h2⟩
        have hG3 : GX c ob oo len n p w w3 k o1 0 :=
          ⟨HG1.out.chg.comp h13 (fun _ _ _ h => h) (fun _ _ _ h => .inr (.inl h)), fun j hj => h13.keep (HG1.out.out j hj) (fun h => HG1.out.dst.nr h.1), HG1.out.dst.keep h13 (fun j _ h => HG1.out.dst.nr h.1), ⟨hE3, by omega, buf, vb, hB3, fun h => by omega⟩, HG1.out.pos⟩
        have hu3 : ∀ j, j < N → w3.cell? ⟨w1.heap.size, j, none⟩ = some (.int .u32 (bitsV c.D (p + (k + j) * n) n)) := by
          intro j hj
          have e1 : (k + j) * n = k * n + j * n := Nat.add_mul _ _ _
          have e2 : 8 * o1 + j * n = p + (k + j) * n := by have := HG1.out.pos; omega
          have := h3 j hj
          rwa [e2, Nat.zero_add] at this
        have HG3 := Lib.hid hG3
        have HB3 := Lib.hid hB3
        have Hu3 := Lib.hid hu3
        have HN := Lib.hid hN
        have hUl : w1.heap.size < w3.heap.size := Nat.lt_of_lt_of_le (by simp) h1.size
        have hob3 : ob ≠ w1.heap.size := by omega
        clear h1 h2 h3 h13 hB3 hE3 hG3 hu3 hN c0 HB1 HG1 Hr1 Hcall Hc0
        go_wp2_with fail
        go_loopw [85] (fun i wx => ∃ j, j ≤ N ∧ i = .int .i64 j ∧ Chg (fun a x => a = ob ∧ oo + k ≤ x ∧ x < oo + k + N) w3 wx ∧ Dst c wx ob oo len ∧ ∀ i, i < j → wx.cell? ⟨ob, oo + (k + i), none⟩ = some (.int .i32 (bitsV c.D (p + (k + i) * n) n))) (fun i _ => N - (intOf i).toNat)
        case atStart => exact ⟨0, Nat.zero_le _, rfl, Chg.refl _ _, HG3.out.dst, fun i hi => by omega⟩
        case round =>
          obtain ⟨j, hj, rfl, hc4, hd4, ho4⟩ := hrel
          by_cases hjN : j < N
          · have hcell := hc4.keep (Hu3.out j hjN) (fun hh => hob3 hh.1.symm)
            obtain ⟨u, hu⟩ := hd4.oth (k + j) (by omega)
            have hfz := hd4.ofr (k + j) (by omega)
            obtain ⟨V, hV⟩ : ∃ V, V = bitsV c.D (p + (k + j) * n) n := ⟨_, rfl⟩
            have hVlt : V < 2147483648 := by rw [hV]; exact ix_lt _ _ _ hn
            have hwv := IntWalk.i32_in (V : Int) (by omega)
            rw [← hV] at hcell
            have HV := Lib.hid hV; clear hV
            have Hc4 := Lib.hid hc4; clear hc4
            have Hd4 := Lib.hid hd4; clear hd4
            have Ho4 := Lib.hid ho4; clear ho4
            have hkj : ((k : Int) + j).toNat = k + j := by omega
            go_wp2_with fail
            go_roundw
            case rel =>
              refine ⟨j + 1, by omega, by go_num, Hc4.out.setCell _ _ (fun _ => ⟨rfl, by omega, by omega⟩) _, Hd4.out.put _ _, ?_⟩
              intro i hi
              by_cases hij : i = j
              · subst hij
                rw [← HV.out]
                exact World.cell?_setCell_same _ _ _ hu
              · exact cell_ne _ (Ho4.out i (by omega)) (by omega)
            case measure => simp [intOf]; omega
          · have hje : j = N := by omega
            subst hje
            obtain ⟨Q, hQ⟩ : ∃ Q, Q = j * n := ⟨_, rfl⟩
            obtain ⟨o3, ho3⟩ : ∃ o3, o3 = o1 + m / 32 * (4 * n) := ⟨_, rfl⟩
            have hQ1 : Q ≤ 1024 * 31 := by rw [hQ]; exact Nat.mul_le_mul (by omega) hn
            have hQi : (j : Int) * n = Q := by rw [hQ]; norm_cast
            have hQ8 : Q / 8 = m / 32 * (4 * n) := by
              have e2 : 8 * (m / 32 * (4 * n)) = m / 32 * 32 * n := by rw [Nat.mul_left_comm, ← Nat.mul_assoc 8 4 n, ← Nat.mul_assoc]
              rw [← HN.out] at e2
              omega
            have hq3 : (o1 : Int) + Q / 8 = o3 := by omega
            have ho3L : o3 ≤ c.L := by omega
            have hB4 := HB3.out.keep hc4 (fun x hh => hd4.nB hh.1.symm)
            have c2 := hB4.bo
            have f2' := hB4.fr 2 (by omega)
            obtain ⟨k3, hk3⟩ : ∃ k3, k3 = k + j := ⟨_, rfl⟩
            have hk3i : (k : Int) + j = k3 := by omega
            have hG5 : GX c ob oo len n p w (wr.setCell ⟨c.B, 2, none⟩ (.int .i64 o3)) k3 o3 0 := by
              have hc5 := (Chg.refl (Own c.B) wr).own 2 (.int .i64 o3)
              have he4 : Env c wr := HG3.out.rs.env.keep hc4 (by rintro a x ⟨rfl, -⟩; exact ⟨hd4.nb, hd4.nr, hd4.g⟩)
              refine ⟨(HG3.out.chg.comp hc4 (fun _ _ _ h => h) (by rintro a x ha ⟨rfl, h1, h2⟩; exact .inr (.inr ⟨rfl, by omega, by omega⟩))).comp hc5 (fun _ _ _ h => h) (fun _ _ _ h => .inl h), ?_, hd4.keep hc5 (fun j _ h => hd4.nB h), ⟨he4.keepB hc5 (fun _ _ h => h), by omega, buf, vb, hB4.off' o3, fun h => by omega⟩, ?_⟩
              · intro i hi
                refine hc5.keep ?_ (fun h => hd4.nB h)
                by_cases hik : i < k
                · exact hc4.keep (HG3.out.out i hik) (by rintro ⟨-, h, -⟩; omega)
                · have := ho4 (i - k) (by omega)
                  rwa [show k + (i - k) = i by omega] at this
              · have := Hq.out
                rw [← HN.out, ← ho3, ← hk3] at this
                omega
            have HG5 := Lib.hid hG5; clear hG5
            have hk3l : k3 ≤ len := by omega
            have HQ8 := Lib.hid hQ8; clear hQ8
            have Hk3 := Lib.hid hk3; clear hk3
            have Ho3 := Lib.hid ho3; clear ho3
            have HQ := Lib.hid hQ; clear hQ
            clear ho4 hc4 hB4
            go_wp2_with fail
            go_meet
            exact ⟨k3, o3, hk3l, rfl, rfl, HG5.out⟩
      · have hke : ¬ (k : Int) < len := by omega
        go_wp2_with fail
        go_meet
        exact ⟨k, o1, hk, rfl, rfl, HG1.out⟩
    case rest =>
      clear HG1 Hr1 HB1 hk
      obtain ⟨k, o1, hk, rfl, rfl, hG⟩ := hcut
      obtain ⟨buf, vb, hb, -⟩ := hG.rs.br
      have hcall := fill_ok c o1 0 buf vb wc hG.rs.env hb hG.rs.hf
      have Hcall := Lib.hid hcall
      have HG := Lib.hid hG
      clear hcall hG hb
      go_wp2_with fail
      refine Hcall.out.mono ?_
      rintro e w1 ⟨rfl, h1, h2⟩
      have hG1 : GX c ob oo len n p w w1 k o1 0 := ⟨HG.out.chg.comp h1 (fun _ _ _ h => h) (fun _ _ _ h => .inl h), fun j hj => h1.keep (HG.out.out j hj) (fun h => HG.out.dst.nB h), HG.out.dst.keep h1 (fun j hj h => HG.out.dst.nB h), h2.rs, HG.out.pos⟩
      have hN := h2
      have hps : 8 * o1 + 0 + (len - k) * n ≤ 8 * c.L := by have e1 := Hpk.out k (len - k) (by omega); have e2 := hG1.pos; omega
      by_cases hck : cap = k
      · subst hck
        have hkl : len = cap := by omega
        subst hkl
        have hcall := scalar_ok c o1 0 n ob oo 0 0 false w1 h2 ⟨fun j hj => by omega, fun j hj => by omega, hG1.dst.nB, hG1.dst.nr, hG1.dst.nb, hG1.dst.g⟩ hn1 hn (by omega) (by omega) (by omega)
        have Hcall := Lib.hid hcall
        have HG1 := Lib.hid hG1
        clear h1 HG hcall hG1 h2 hN
        go_wp2_with fail
        refine Hcall.out.mono ?_
        rintro e w2 ⟨k2, o2, f2, rfl, hk2, hG2, -, -⟩
        obtain rfl : k2 = 0 := by omega
        have hG3 : GX c ob oo len n p w w2 len o2 f2 := by
          have hno : ∀ j, ¬ GT c ob oo 0 ob (oo + j) := by
            rintro j (hh | hh | hh)
            · exact HG1.out.dst.nB hh
            · exact HG1.out.dst.nr hh.1
            · omega
          refine ⟨HG1.out.chg.comp hG2.chg (fun _ _ _ h => h) ?_, fun j hj => hG2.chg.keep (HG1.out.out j hj) (hno j), HG1.out.dst.keep hG2.chg (fun j _ => hno j), hG2.rs, by have e1 := hG2.pos; have e2 := HG1.out.pos; omega⟩
          rintro a x ha (hh | hh | hh)
          · exact .inl hh
          · exact .inr (.inl hh)
          · omega
        have HG3 := Lib.hid hG3
        clear hG2 hG3
        go_wp2_with fail
        go_ret2
        exact ⟨rfl, o2, f2, HG3.out⟩
      · have hcall := scalar_ok c o1 0 n ob (oo + k) (len - k) (cap - k) false w1 h2 (hG1.dst.rest k hk) hn1 hn hps (by omega) (by omega)
        have Hcall := Lib.hid hcall
        have HG1 := Lib.hid hG1
        clear h1 HG hcall hG1 h2 hN
        go_wp2_with fail
        refine Hcall.out.mono ?_
        rintro e w2 ⟨k2, o2, f2, rfl, hk2, hG2, hfl, -⟩
        obtain ⟨rfl, -⟩ := hfl rfl
        have hG3 := HG1.out.join hk hG2
        rw [show k + (len - k) = len by omega] at hG3
        have HG3 := Lib.hid hG3
        clear hG2 hG3
        go_wp2_with fail
        go_ret2
        exact ⟨ret_two (by omega), o2, f2, HG3.out⟩
end Go.Proofs.YtmcjpnijldhelaaGreatDoor
/- Bytes set to a value; little-endian numbers that are cut off. -/
namespace Go.Proofs.YtmcjpnijldhelaaGreatDoor
open Go Go.RowKit
theorem leV_zero (D : Nat → Nat) : ∀ (m p : Nat), (∀ j, p ≤ j → j < p + m → D j = 0) → leV D p m = 0
  | 0, p, h => rfl
  | m + 1, p, h => by rw [leV, leV_zero D m (p + 1) (fun j h1 h2 => h j (by omega) (by omega)), h p (Nat.le_refl _) (by omega)]
theorem leV_cut (D E : Nat → Nat) : ∀ (n m o p : Nat), n ≤ m → (∀ j, j < n → E (p + j) = D (o + j)) → (∀ j, n ≤ j → j < m → E (p + j) = 0) → leV E p m = leV D o n
  | 0, m, o, p, h, h1, h2 => by
    refine leV_zero E m p (fun j hj hm => ?_)
    have := h2 (j - p) (by omega) (by omega)
    rwa [show p + (j - p) = j by omega] at this
  | n + 1, 0, o, p, h, h1, h2 => by omega
  | n + 1, m + 1, o, p, h, h1, h2 => by
    have h0 := h1 0 (by omega)
    rw [Nat.add_zero, Nat.add_zero] at h0
    rw [leV, leV, h0, leV_cut D E n m (o + 1) (p + 1) (by omega) (fun j hj => by have := h1 (j + 1) (by omega); rwa [show p + (j + 1) = p + 1 + j by omega, show o + (j + 1) = o + 1 + j by omega] at this) (fun j hj hm => by have := h2 (j + 1) (by omega) (by omega); rwa [show p + (j + 1) = p + 1 + j by omega] at this)]
set_option maxRecDepth 100000 in
set_option maxHeartbeats 1000000 in
theorem memsetGo_ok (b off len cap v : Nat) (w : World) (hlen : len ≤ 1000000000000000000) (hc : ∀ j, j < len → ∃ u, w.cell? ⟨b, off + j, none⟩ = some u) (hf : ∀ j, j < len → w.frozen? ⟨b, off + j, none⟩ = false) :
    Calls Tryz.prog 173 #[.slice (some ⟨b, off, none⟩) len cap, .int .u8 v] w fun e w' => e = .returned (.tuple #[]) ∧ Chg (fun k x => k = b ∧ off ≤ x ∧ x < off + len) w w' ∧ Bytes w' b off len (fun _ => v) := by
  have Hc := Lib.hid hc; clear hc
  have Hf := Lib.hid hf; clear hf
  go_enter Tryz.func173, Tryz.ntmps173
  go_wp2_with fail
  go_loopw [4] (fun i wx => ∃ k : Nat, k ≤ len ∧ i = .int .i64 k ∧ Chg (fun k x => k = b ∧ off ≤ x ∧ x < off + len) w wx ∧ (∀ j, j < len → ∃ u, wx.cell? ⟨b, off + j, none⟩ = some u) ∧ Bytes wx b off k (fun _ => v)) (fun i _ => len - (intOf i).toNat)
  case atStart => exact ⟨0, Nat.zero_le _, rfl, Chg.refl _ _, Hc.out, fun j hj => by omega⟩
  case round =>
    obtain ⟨k, hk, rfl, h1, h2, h3⟩ := hrel
    by_cases hlt : k < len
    · obtain ⟨u, hu⟩ := h2 k hlt
      obtain ⟨u0, hu0⟩ := Hc.out k hlt
      have hfz := (h1.frozen b (off + k) (World.block_lt_of_cell? w _ hu0)).trans (Hf.out k hlt)
      have H1 := Lib.hid h1; clear h1
      have H2 := Lib.hid h2; clear h2
      have H3 := Lib.hid h3; clear h3
      clear hu0 u0
      go_wp2_with fail
      go_roundw
      case rel =>
        refine ⟨k + 1, by omega, by go_num, H1.out.setCell _ _ (fun _ => ⟨rfl, by omega, by omega⟩) _, fun j hj => cell_is _ (H2.out j hj), fun j hj => ?_⟩
        by_cases hjk : j = k
        · subst hjk; exact World.cell?_setCell_same _ _ _ hu
        · exact cell_ne _ (H3.out j (by omega)) (by omega)
      case measure => simp [intOf]; omega
    · have : k = len := by omega
      subst this
      have H1 := Lib.hid h1; clear h1
      have H2 := Lib.hid h2; clear h2
      have H3 := Lib.hid h3; clear h3
      go_wp2_with fail
      go_end0
      exact ⟨rfl, H1.out, H3.out⟩
set_option maxRecDepth 100000 in
set_option maxHeartbeats 1000000 in
theorem memset_ok (b off len cap v : Nat) (w : World) (hlen : len ≤ 1000000000000000000) (hc : ∀ j, j < len → ∃ u, w.cell? ⟨b, off + j, none⟩ = some u) (hf : ∀ j, j < len → w.frozen? ⟨b, off + j, none⟩ = false) :
    Calls Tryz.prog 131 #[.slice (some ⟨b, off, none⟩) len cap, .int .u8 v] w fun e w' => e = .returned (.tuple #[]) ∧ Chg (fun k x => k = b ∧ off ≤ x ∧ x < off + len) w w' ∧ Bytes w' b off len (fun _ => v) := by
  have H := Lib.hid (memsetGo_ok b off len cap v w hlen hc hf)
  clear hc hf
  go_enter Tryz.func131, Tryz.ntmps131
  go_wp2_with fail
  refine H.out.mono ?_
  rintro e w1 ⟨rfl, h1, h2⟩
  have H1 := Lib.hid h1; clear h1
  have H2 := Lib.hid h2; clear h2
  go_wp2_with fail
  go_end0
  exact ⟨rfl, H1.out, H2.out⟩
set_option maxRecDepth 100000 in
set_option maxHeartbeats 1000000 in
theorem memsetGo_nil (pp : Option Addr) (cap v : Nat) (w : World) :
    Calls Tryz.prog 173 #[.slice pp 0 cap, .int .u8 v] w fun e w' => e = .returned (.tuple #[]) ∧ w = w' := by
  go_enter Tryz.func173, Tryz.ntmps173
  go_wp2_with fail
  refine wp_loop_rounds 1 ?_
  rw [rounds_succ]
  go_wp2
  go_end0
  exact ⟨rfl, rfl⟩
set_option maxRecDepth 100000 in
set_option maxHeartbeats 1000000 in
theorem memset_nil (pp : Option Addr) (cap v : Nat) (w : World) :
    Calls Tryz.prog 131 #[.slice pp (0 : Nat) cap, .int .u8 v] w fun e w' => e = .returned (.tuple #[]) ∧ w = w' := by
  go_enter Tryz.func131, Tryz.ntmps131
  go_wp2_with fail
  refine (memsetGo_nil pp cap v w).mono ?_
  rintro e w1 ⟨rfl, rfl⟩
  go_wp2_with fail
  go_end0
  exact ⟨rfl, rfl⟩
end Go.Proofs.YtmcjpnijldhelaaGreatDoor
