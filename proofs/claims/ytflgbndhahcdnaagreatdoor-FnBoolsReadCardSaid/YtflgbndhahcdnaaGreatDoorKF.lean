/- Part 6 of the proof: the texts PG, PH, BN, BQ, BR, joined. What each proves stands ahead of it. -/
import Derived.Test.YtflgbndhahcdnaaGreatDoorKE
import Derived.Test.YtflgbndhahcdnaaGreatDoorKC
import Derived.Test.YtflgbndhahcdnaaGreatDoorKD
import Derived.Outline
set_option linter.unusedVariables false
set_option linter.unusedSimpArgs false
/- The plain law: runs as they are written stand as runs: all of them. -/
namespace Go.Proofs.YtflgbndhahcdnaaGreatDoor
open Go Go.RowKit Go.Proofs.YtflgbndhahcdnaaGreatDoor.PFnBoolsRead Go.Proofs.YtflgbndhahcdnaaGreatDoorW.PrintWords Go.Proofs.YtflgbndhahcdnaaGreatDoorW.PrintMore
theorem or_one (c : Nat) : (2 * c) ||| 1 = 2 * c + 1 := by
  have := Nat.two_pow_add_eq_or_of_lt (i := 1) (b := 1) (by decide) c
  rw [Nat.pow_one] at this
  exact this.symm
theorem pow_bytes (W v : Nat) (h : v < 2 ^ W) : v < 256 ^ ((W + 7) / 8) := by
  refine Nat.lt_of_lt_of_le h ?_
  rw [show (256 : Nat) = 2 ^ 8 from rfl, ← Nat.pow_mul]
  exact Nat.pow_le_pow_right (by decide) (by omega)
theorem leB_lt : ∀ (n v : Nat), ∀ x ∈ leB v n, x < 256
  | 0, v, x, hx => by cases hx
  | n + 1, v, x, hx => by
    rw [leB] at hx
    rcases List.mem_cons.1 hx with rfl | hx
    · exact Nat.mod_lt _ (by decide)
    · exact leB_lt n _ x hx
theorem vlq_short (u : Nat) (hu : u ≤ 1000) : (vlq u).length ≤ 2 := (vlq_len 1 u (by omega)).2
theorem put_l0 (W : Nat) (hW1 : 1 ≤ W) (hW2 : W ≤ 64) (l : List S35) (hL : l.length ≤ 40) (hI : ∀ r ∈ l, IsRun r) (hF : ∀ r ∈ l, FitR W r) : ∀ (suf pre : List S35) (done : List Nat), pre ++ suf = l → done.length ≤ 2000 * pre.length →
    ∃ bs : List Nat, Ev (fun k => spec_PutRuns.l0 k (W : Int) (ints done) l (l.length : Int) (pre.length : Int)) (ints (done ++ bs)) ∧ (∀ x ∈ bs, x < 256) ∧ bs.length ≤ 2000 * suf.length ∧ (suf ≠ [] → bs ≠ []) ∧ ∀ D L q, StandB D q bs → q + bs.length ≤ L → Runs D L W q (allOf suf) := by
  intro suf
  induction suf with
  | nil =>
    intro pre done h hd
    rw [List.append_nil] at h
    subst h
    exact ⟨[], .now fun k => by rw [spec_PutRuns.l0, if_neg (by omega), List.append_nil], fun x hx => (by cases hx), Nat.zero_le _, fun h => absurd rfl h, fun D L q _ _ => .nil q⟩
  | cons r suf ih =>
    intro pre done h hd
    have hl : pre.length + suf.length + 1 = l.length := by rw [← h, List.length_append, List.length_cons]; omega
    have hrd : rd_T35 l (pre.length : Int) = r := by rw [← h]; exact rdT_app pre suf r
    have hI1 := hI r (by rw [← h]; simp)
    have hF1 := hF r (by rw [← h]; simp)
    have hc1 := hF1.c1
    obtain ⟨c, hc⟩ : ∃ c : Nat, r.f1 = c := ⟨r.f1.toNat, by omega⟩
    have hct : r.f1.toNat = c := by omega
    have hw : ∀ x : Nat, x ≤ 1000 → IntKind.u64.wrap (x : Int) = x := fun x hx => wrap64 _ (by omega) (by omega)
    have hstart : ∀ k, spec_PutRuns.l0 (k + 1) (W : Int) (ints done) l (l.length : Int) (pre.length : Int) = _ := fun k => by
      rw [spec_PutRuns.l0, if_pos (show (pre.length : Int) < l.length by omega), if_pos (show (0 : Int) ≤ pre.length by omega), if_pos (show (pre.length : Int) < l.length by omega), hrd]
    by_cases h0 : r.f0 = true
    · have hp := hF1.p h0
      have hnum : numsOf r = vals r ++ List.replicate (8 * c - (vals r).length) 0 := by unfold numsOf; rw [if_pos h0, hct]
      have hnl : (numsOf r).length = 8 * c := by rw [hnum, List.length_append, List.length_replicate, vals_len]; omega
      have hnv : ∀ v ∈ numsOf r, v < 2 ^ W := fun v hv => by
        rw [hnum] at hv
        rcases List.mem_append.1 hv with hv | hv
        · exact hF1.v v hv
        · rw [List.eq_of_mem_replicate hv]; exact Nat.two_pow_pos _
      have h64 : ∀ v ∈ numsOf r, v < 2 ^ 64 := fun v hv => Nat.lt_of_lt_of_le (hnv v hv) (Nat.pow_le_pow_right (by decide) hW2)
      obtain ⟨pb, hpb, hpk⟩ := packBits_ev (numsOf r) W c hW1 hW2 h64 hnl (by omega)
      have hcW : c * W ≤ 1280 := Nat.le_trans (Nat.mul_le_mul (show c ≤ 20 by omega) hW2) (by decide)
      have hvl := vlq_short (2 * c + 1) (by omega)
      obtain ⟨bs, hb1, hb2, hb3, -, hb4⟩ := ih (pre ++ [r]) (done ++ vlq (2 * c + 1) ++ pb) (by rw [List.append_assoc]; exact h) (by
        simp only [List.length_append, List.length_singleton, hpk.len]; omega)
      rw [List.length_append, List.length_singleton] at hb1
      have h1 := put_l1 W c hW1 hW2 l pre.length (by omega) r hc (by omega) (done ++ vlq (2 * c + 1)) (by rw [List.length_append]; omega) _ (numsOf r) pb hpb (by rw [hpk.len]; omega) hnl hb1 (8 * c - (vals r).length) (vals r) hnum.symm
      refine ⟨vlq (2 * c + 1) ++ (pb ++ bs), ?_, ?_, ?_, ?_, ?_⟩
      · rw [show done ++ (vlq (2 * c + 1) ++ (pb ++ bs)) = done ++ vlq (2 * c + 1) ++ pb ++ bs by simp only [List.append_assoc]]
        have hX : Go.bits .or .u64 (IntKind.u64.wrap (IntKind.u64.wrap r.f1 * 2)) 1 = ((2 * c + 1 : Nat) : Int) := by
          rw [hc, hw c (by omega), show (c : Int) * 2 = (2 * c : Nat) by push_cast; omega, hw _ (by omega), show (1 : Int) = ((1 : Nat) : Int) from rfl, u64_or_nat _ _ (by omega) (by decide), or_one]
        refine .step (fun k => (hstart k).trans (if_pos h0)) ?_
        rw [hX]
        refine .bind (putVlq_ev (2 * c + 1) (by omega)) (.congr (fun k => ?_) h1)
        rw [if_pos (by rw [ints_len, ints_len]; omega)]
        show (if ([] : List Int).length + r.f2.length < 17592186044416 then _ else _) = _
        rw [if_pos (by simp only [List.length_nil]; omega), ← ints_app, List.nil_append, ← hI1.ints]
      · intro x hx
        rcases List.mem_append.1 hx with hx | hx
        · exact vlq_byte 8 _ (by omega) x hx
        · rcases List.mem_append.1 hx with hx | hx
          · exact hpk.lt x hx
          · exact hb2 x hx
      · simp only [List.length_append, List.length_cons, hpk.len]; omega
      · intro _ hh
        have := vlq_pos (2 * c + 1)
        rw [(List.append_eq_nil_iff.1 hh).1] at this
        exact absurd this (by decide)
      · intro D L q hs hq
        simp only [List.length_append, hpk.len] at hq
        have hs2 := hs.app.2.app
        have hb5 := hb4 D L (q + (vlq (2 * c + 1)).length + c * W) (by have := hs2.2; rwa [hpk.len] at this) (by omega)
        exact Runs.put_lit (by omega) (by omega) hnl hnv hs.app.1 (fun j v t hj ht => packed_bit hW1 hpk (by rw [hnl, Nat.mul_assoc]) hs2.1 j v t hj ht) (by omega) hb5
    · have h0' : r.f0 = false := by simpa using h0
      have hq := hF1.q h0'
      obtain ⟨v, hv⟩ : ∃ v, vals r = [v] := List.length_eq_one_iff.1 (by rw [vals_len]; exact hq.2)
      have hvW : v < 2 ^ W := hF1.v v (by rw [hv]; simp)
      have hnum : numsOf r = List.replicate c v := by unfold numsOf; rw [if_neg h0, hct, hv]; rfl
      have hvl := vlq_short (2 * c) (by omega)
      obtain ⟨bs, hb1, hb2, hb3, -, hb4⟩ := ih (pre ++ [r]) (done ++ vlq (2 * c) ++ leB v ((W + 7) / 8)) (by rw [List.append_assoc]; exact h) (by
        simp only [List.length_append, List.length_singleton, leB_length]; omega)
      rw [List.length_append, List.length_singleton] at hb1
      have h2 := put_l2 W hW2 l pre.length (by omega) r v (by rw [hI1.ints, hv]; rfl) _ ((W + 7) / 8) 0 (done ++ vlq (2 * c)) (by omega) (by rw [List.length_append]; omega) (by rw [Nat.pow_zero, Nat.div_one]; exact hb1)
      refine ⟨vlq (2 * c) ++ (leB v ((W + 7) / 8) ++ bs), ?_, ?_, ?_, ?_, ?_⟩
      · rw [show done ++ (vlq (2 * c) ++ (leB v ((W + 7) / 8) ++ bs)) = done ++ vlq (2 * c) ++ leB v ((W + 7) / 8) ++ bs by simp only [List.append_assoc]]
        have hX : IntKind.u64.wrap (IntKind.u64.wrap r.f1 * 2) = ((2 * c : Nat) : Int) := by
          rw [hc, hw c (by omega), show (c : Int) * 2 = (2 * c : Nat) by push_cast; omega, hw _ (by omega)]
        refine .step (fun k => (hstart k).trans (if_neg h0)) ?_
        rw [hX]
        refine .bind (putVlq_ev (2 * c) (by omega)) (.congr (fun k => ?_) h2)
        rw [if_pos (by rw [ints_len, ints_len]; omega), ← ints_app]
        rfl
      · intro x hx
        rcases List.mem_append.1 hx with hx | hx
        · exact vlq_byte 8 _ (by omega) x hx
        · rcases List.mem_append.1 hx with hx | hx
          · exact leB_lt _ _ x hx
          · exact hb2 x hx
      · simp only [List.length_append, List.length_cons, leB_length]; omega
      · intro _ hh
        have := vlq_pos (2 * c)
        rw [(List.append_eq_nil_iff.1 hh).1] at this
        exact absurd this (by decide)
      · intro D L q hs hq
        simp only [List.length_append, leB_length] at hq
        rw [← List.append_assoc] at hs
        have hs2 := hs.app
        rw [List.length_append, leB_length, ← Nat.add_assoc] at hs2
        have hb5 := hb4 D L (q + (vlq (2 * c)).length + (W + 7) / 8) hs2.2 (by omega)
        show Runs D L W q (numsOf r ++ allOf suf)
        rw [hnum]
        exact Runs.put_rep (by omega) (by omega) (pow_bytes W v hvW) hs2.1 (by omega) hb5
theorem putRuns_ev (W : Nat) (hW1 : 1 ≤ W) (hW2 : W ≤ 64) (l : List S35) (hL : l.length ≤ 40) (hI : ∀ r ∈ l, IsRun r) (hF : ∀ r ∈ l, FitR W r) :
    ∃ bs : List Nat, Ev (fun k => spec_PutRuns.f k l (W : Int)) (ints bs) ∧ (∀ x ∈ bs, x < 256) ∧ bs.length ≤ 80000 ∧ (l ≠ [] → bs ≠ []) ∧ ∀ D L, StandB D 0 bs → bs.length ≤ L → Runs D L W 0 (allOf l) := by
  obtain ⟨bs, h1, h2, h3, h4, h5⟩ := put_l0 W hW1 hW2 l hL hI hF l [] [] rfl (Nat.zero_le _)
  exact ⟨bs, h1, h2, by omega, h4, fun D L hs hl => h5 D L 0 hs (by omega)⟩
/-- The numbers fit in the width. -/
theorem allOf_lt (W : Nat) (l : List S35) (hF : ∀ r ∈ l, FitR W r) : ∀ v ∈ allOf l, v < 2 ^ W := by
  intro v hv
  unfold allOf at hv
  obtain ⟨r, hr, hv⟩ := List.mem_flatMap.1 hv
  have hF1 := hF r hr
  unfold numsOf at hv
  split at hv
  · rcases List.mem_append.1 hv with hv | hv
    · exact hF1.v v hv
    · rw [List.eq_of_mem_replicate hv]; exact Nat.two_pow_pos _
  · rw [List.eq_of_mem_replicate hv]
    cases hvr : vals r with
    | nil => exact Nat.two_pow_pos _
    | cons x xs => exact hF1.v x (by rw [hvr]; simp)
theorem allOf_len (W : Nat) : ∀ l : List S35, (∀ r ∈ l, FitR W r) → (allOf l).length ≤ 300 * l.length
  | [], _ => Nat.zero_le _
  | r :: l, hF => by
    have h1 := numsOf_len (hF r (by simp))
    have h2 := allOf_len W l (fun x hx => hF x (by simp [hx]))
    show (numsOf r ++ allOf l).length ≤ _
    rw [List.length_append, List.length_cons]; omega
end Go.Proofs.YtflgbndhahcdnaaGreatDoor
/- Rows of the print and rows of mine. -/
namespace Go.Proofs.YtflgbndhahcdnaaGreatDoor
open Go Go.RowKit Go.Proofs.YtflgbndhahcdnaaGreatDoor.PFnBoolsRead Go.Proofs.YtflgbndhahcdnaaGreatDoorW.PrintWords Go.Proofs.YtflgbndhahcdnaaGreatDoorW.PrintMore
theorem Chg.ofBelow {w w' : World} (h : Below w.heap.size w w') : Chg Nix w w' :=
  ⟨h.os, h.tape, h.output, h.size, fun k hk _ => h.block k hk, fun k o hk _ => by unfold World.cell?; rw [h.block k hk], fun k o hk => by unfold World.frozen?; rw [h.block k hk]⟩
theorem Chg.toBelow {w w' : World} (h : Chg Nix w w') : Below w.heap.size w w' := h.below (Nat.le_refl _) (fun _ _ _ h => h)
theorem spot_none {w : World} {ad : Addr} {v : Value} (h : w.cell? ad = some v) : ad = ⟨ad.block, ad.off, none⟩ := by
  obtain ⟨g, o, s⟩ := ad
  cases s with
  | none => rfl
  | some x =>
    unfold World.cell? at h
    split at h
    · simp at h
    · cases h
theorem C_addr {k : IntKind} {w : World} {A : Option Addr} {xs : List Int} (h : Kd.C (Kd.int k) w A xs.length xs) (j : Nat) (hj : j < xs.length) : ∃ g o, A = some ⟨g, o, none⟩ ∧ w.cell? ⟨g, o + j, none⟩ = some (.int k xs[j]) := by
  obtain ⟨ad, e, hc⟩ := h.2.2 (by omega)
  have hat : ∀ i (hi : i < xs.length), w.cell? (ad.add i) = some (.int k xs[i]) := fun i hi => by
    obtain ⟨c, hl, hr, hcell⟩ := hc i xs[i] (List.getElem?_eq_getElem hi)
    have hr' : c = [.int k xs[i]] := hr
    subst hr'
    have := hcell 0 _ rfl
    rw [show (Kd.int k).sz = 1 from rfl, Nat.mul_one, Nat.add_zero] at this
    exact this
  have h0 := hat 0 (by omega)
  have hz : ad.add 0 = ad := rfl
  rw [hz] at h0
  have hs := spot_none h0
  refine ⟨ad.block, ad.off, by rw [e, ← hs], ?_⟩
  have := hat j hj
  rw [hs] at this
  rwa [addr_add] at this
/-- Bytes of the print as data of mine. -/
theorem C_data {w : World} {A : Option Addr} {bs : List Nat} (h : Kd.C (Kd.int .u8) w A (ints bs).length (ints bs)) (hlt : ∀ x ∈ bs, x < 256) (hne : bs ≠ []) : ∃ g o, A = some ⟨g, o, none⟩ ∧ g < w.heap.size ∧ Data w g o bs.length (fun j => bs.getD j 0) ∧ StandB (fun j => bs.getD j 0) 0 bs := by
  have hl : (ints bs).length = bs.length := ints_len bs
  have h0 : 0 < bs.length := List.length_pos_iff.2 hne
  obtain ⟨g, o, rfl, hc0⟩ := C_addr h 0 (by omega)
  refine ⟨g, o, rfl, World.block_lt_of_cell? w _ hc0, ⟨fun j hj => ?_, fun j => getD_lt hlt j, fun j hj => ?_⟩, fun j v hv => ?_⟩
  · obtain ⟨g', o', e, hcj⟩ := C_addr h j (by omega)
    injection e with e
    injection e with e1 e2
    subst e1; subst e2
    rw [hcj]
    have : (ints bs)[j]'(by omega) = ((bs.getD j 0 : Nat) : Int) := by
      unfold ints
      rw [List.getElem_map, List.getD_eq_getElem?_getD, List.getElem?_eq_getElem hj]; rfl
    rw [this]
  · show bs.getD j 0 = 0
    rw [List.getD_eq_getElem?_getD, List.getElem?_eq_none (by omega)]; rfl
  · show bs.getD (0 + j) 0 = v
    rw [Nat.zero_add, List.getD_eq_getElem?_getD, hv]; rfl
end Go.Proofs.YtflgbndhahcdnaaGreatDoor
/- Bits of a bitmap: set, cleared, asked. -/
namespace Go.Proofs.YtflgbndhahcdnaaGreatDoor
open Go Go.RowKit
/-- The four tables of bytes. -/
structure Tabs (w : World) : Prop where
  bm : ∀ t, t < 8 → w.cell? ⟨2, t, none⟩ = some (.int .u8 (2 ^ t : Nat))
theorem Tabs.keep {w w' : World} (h : Tabs w) {S : Nat → Nat → Prop} (hc : Chg S w w') (hS : ∀ k x, S k x → 5 < k) : Tabs w' where
  bm := fun t ht => hc.keep (h.bm t ht) (fun hh => by have := hS _ _ hh; omega)
theorem Bmp.drew {w : World} {b off n : Nat} {β : Nat → Bool} (h : Bmp w b off n β) : Bmp w.drew b off n β := h.keep (Chg.drew (Chg.refl Nix w)) (fun _ _ h => h)
theorem Tabs.drew {w : World} (h : Tabs w) : Tabs w.drew := h.keep (Chg.drew (Chg.refl Nix w)) (fun _ _ h => h.elim)
/-- Cells of a row. -/
def RowS (b off n : Nat) : Nat → Nat → Prop := fun k x => k = b ∧ off ≤ x ∧ x < off + n
theorem and_pow_ne (x r : Nat) : (((x &&& 2 ^ r : Nat) : Int) != 0) = x.testBit r := by
  cases h : x.testBit r
  · have e : x &&& 2 ^ r = 0 := by
      apply Nat.eq_of_testBit_eq
      intro i
      rw [Nat.testBit_and, tb_pow, Nat.zero_testBit]
      by_cases e : r = i
      · subst e; rw [h]; rfl
      · simp [e]
    rw [e]; rfl
  · have e : x &&& 2 ^ r ≠ 0 := by
      intro e
      have := congrArg (fun y => y.testBit r) e
      simp only [Nat.testBit_and, tb_pow, h, Nat.zero_testBit] at this
      simp at this
    simp only [bne_iff_ne, ne_eq]
    exact_mod_cast e
set_option maxRecDepth 100000 in
set_option maxHeartbeats 1000000 in
theorem bitIsSet_ok (b off n cap i : Nat) (β : Nat → Bool) (w : World) (hT : Tabs w) (hB : Bmp w b off n β) (hi : i < 8 * n) (hn : n ≤ 1000000000) (hnc : n ≤ cap) :
    Calls Tryz.prog 24 #[.slice (some ⟨b, off, none⟩) n cap, .int .i64 i] w fun e w' => e = .returned (.bool (β i)) ∧ Chg Nix w w' := by
  obtain ⟨q, hq⟩ : ∃ q, q = i / 8 := ⟨_, rfl⟩
  obtain ⟨r, hr⟩ : ∃ r, r = i % 8 := ⟨_, rfl⟩
  obtain ⟨x, hx, hx8, hxb⟩ := hB.cell q (by omega)
  have hf := hB.fr q (by omega)
  have ht := hT.bm r (by omega)
  have hp := pow8 r (by omega)
  have hwq : IntKind.u64.wrap (i : Int) = i := IntWalk.u64_in _ (by omega)
  have hq' : (i : Int) / 8 = q := by omega
  have hqn : q < n := by omega
  have hqt : ((q : Nat) : Int).toNat = q := by omega
  have hw8 : (IntKind.u8.wrap (i : Int)).tmod 8 = r := by rw [IntKind.wrap_u8, Int.tmod_eq_emod_of_nonneg (by omega)]; omega
  have hwqq : IntKind.u64.wrap (q : Int) = q := IntWalk.u64_in _ (by omega)
  have hwrr : IntKind.u8.wrap (r : Int) = r := IntWalk.u8_in _ (by omega)
  have hr8 : (r : Int) < 8 := by omega
  have hr0 : 0 ≤ (r : Int) := by omega
  have hrt : ((r : Nat) : Int).toNat = r := by omega
  have hne := and_pow_ne x r
  rw [hxb r (by omega), show 8 * q + r = i by omega] at hne
  obtain ⟨P, hP⟩ : ∃ P, P = 2 ^ r := ⟨_, rfl⟩
  have hP8 : P < 256 := by omega
  rw [← hP] at ht hne
  have hor := u8_and_nat x P hx8 hP8
  clear hT hB hq hr hxb hP
  go_enter Tryz.func24, Tryz.ntmps24
  go_wp2_with fail
  (refine wp_region_txt [] (by kernel_rfl) (by kernel_rfl) ?_; repeat (first | (refine wpTxt_pure rfl rfl (fun K hK => ?_); go_simp; refine hK _ ?_; clear hK K) | (refine wpTxt_still rfl rfl (fun K hK => ?_); go_simp; refine hK _ ?_; clear hK K)))
  refine wpTxt_nil ?_
  go_wp2_with fail
  go_ret
  exact ⟨rfl, (Chg.refl _ _).drew⟩
end Go.Proofs.YtflgbndhahcdnaaGreatDoor
/- The reader of a bitmap by words. -/
namespace Go.Proofs.YtflgbndhahcdnaaGreatDoor
open Go Go.RowKit
set_option maxRecDepth 100000 in
set_option maxHeartbeats 1000000 in
theorem toLE_ok (v : Int) (w : World) : Calls Tryz.prog 72 #[.int .u64 v] w fun e w' => e = .returned (.int .u64 v) ∧ w' = w := by
  go_enter Tryz.func72, Tryz.ntmps72
  go_wp2_with fail
  go_ret
  exact ⟨rfl, rfl⟩
set_option maxRecDepth 100000 in
set_option maxHeartbeats 1000000 in
theorem getLSB_ok (v : Nat) (w : World) : Calls Tryz.prog 79 #[.int .u64 v] w fun e w' => e = .returned (.int .u8 (v % 256 : Nat)) ∧ w' = w := by
  have hw : IntKind.u8.wrap (v : Int) = (v % 256 : Nat) := by rw [IntKind.wrap_u8]; omega
  go_enter Tryz.func79, Tryz.ntmps79
  go_wp2_with fail
  go_ret
  exact ⟨rfl, rfl⟩
/-- The lowest byte laid anew. -/
def lsb (v x : Nat) : Nat := (v &&& (2 ^ 64 - 1 - 255)) ||| x
theorem lsb_lt (v x : Nat) (hv : v < 2 ^ 64) (hx : x < 256) : lsb v x < 2 ^ 64 := or64_lt _ _ (and64_lt _ _ hv) (Nat.lt_trans hx (by decide))
theorem tb_255 (t : Nat) : (255 : Nat).testBit t = decide (t < 8) := tb_ones 8 t
theorem lsb_tb (v x t : Nat) (hx : x < 256) (ht : t < 8) : (lsb v x).testBit t = x.testBit t := by
  unfold lsb
  rw [Nat.testBit_or, Nat.testBit_and, tb_not64 255 t (by decide) (by omega), tb_255, decide_eq_true ht]
  simp
set_option maxRecDepth 100000 in
set_option maxHeartbeats 1000000 in
theorem setLSB_ok (b o v x : Nat) (w : World) (hv : v < 2 ^ 64) (hx : x < 256) (hc : w.cell? ⟨b, o, none⟩ = some (.int .u64 v)) (hf : w.frozen? ⟨b, o, none⟩ = false) :
    Calls Tryz.prog 73 #[.pointer (some ⟨b, o, none⟩), .int .u8 x] w fun e w' => e = .returned (.tuple #[]) ∧ w.setCell ⟨b, o, none⟩ (.int .u64 (lsb v x : Nat)) = w' := by
  have h1 : bits .andNot .u64 (v : Int) 255 = ((v &&& (2 ^ 64 - 1 - 255) : Nat) : Int) := u64_andNot_nat v 255 hv (by decide)
  have h2 := u64_or_nat (v &&& (2 ^ 64 - 1 - 255)) x (and64_lt _ _ hv) (Nat.lt_trans hx (by decide))
  have h3 : (v &&& (2 ^ 64 - 1 - 255)) ||| x = lsb v x := rfl
  rw [h3] at h2
  obtain ⟨L, hL⟩ : ∃ L, L = lsb v x := ⟨_, rfl⟩
  obtain ⟨A, hA⟩ : ∃ A, A = v &&& (2 ^ 64 - 1 - 255) := ⟨_, rfl⟩
  rw [← hL] at h2 ⊢
  rw [← hA] at h1 h2
  have hw : IntKind.u64.wrap (x : Int) = x := IntWalk.u64_in _ (by omega)
  clear hv h3 hL hA
  go_enter Tryz.func73, Tryz.ntmps73
  go_wp2_with fail
  go_end0
  exact ⟨rfl, rfl⟩
/-- A word of a bitmap. -/
theorem leBits_ok (b off n j len cap : Nat) (β : Nat → Bool) (w : World) (hB : Bmp w b off n β) (hj : j + 8 ≤ n) (hl : 8 ≤ len) :
    Calls Tryz.prog 68 #[.agg #[], .slice (some ⟨b, off + j, none⟩) len cap] w fun e w' => ∃ V : Nat, e = .returned (.int .u64 V) ∧ Num64 β (8 * j) V ∧ Chg Nix w w' := by
  obtain ⟨E, hE, hby, hbt⟩ := hB.bytes
  refine (le64_any b (off + j) len cap (fun i => E (j + i)) (fun i => hE _) w hl ((hby.sub j 8 hj))).mono ?_
  rintro e w' ⟨rfl, hc⟩
  refine ⟨_, rfl, ⟨leV_lt (fun i => E (j + i)) (fun i => hE _) 0 8, fun t ht => ?_⟩, hc⟩
  rw [leV_tb (fun i => E (j + i)) (fun i => hE _) 8 0 t (by omega), hbt _ (by omega) _ (by omega)]
  congr 1; omega
set_option maxRecDepth 100000 in
set_option maxHeartbeats 1000000 in
theorem put64_ok (b o len cap v : Nat) (w : World) (hv : v < 2 ^ 64) (hl : 8 ≤ len) (hc : ∀ j, j < 8 → ∃ u : Nat, w.cell? ⟨b, o + j, none⟩ = some (.int .u8 u)) (hf : ∀ j, j < 8 → w.frozen? ⟨b, o + j, none⟩ = false) :
    Calls Tryz.prog 74 #[.agg #[], .slice (some ⟨b, o, none⟩) len cap, .int .u64 v] w fun e w' => e = .returned (.tuple #[]) ∧ Chg (fun k x => k = b ∧ o ≤ x ∧ x < o + 8) w w' ∧ Bytes w' b o 8 (fun i => v / 256 ^ i % 256) := by
  obtain ⟨u0, c0⟩ := hc 0 (by omega)
  have f0 := hf 0 (by omega)
  obtain ⟨u1, c1⟩ := hc 1 (by omega)
  have f1 := hf 1 (by omega)
  obtain ⟨u2, c2⟩ := hc 2 (by omega)
  have f2 := hf 2 (by omega)
  obtain ⟨u3, c3⟩ := hc 3 (by omega)
  have f3 := hf 3 (by omega)
  obtain ⟨u4, c4⟩ := hc 4 (by omega)
  have f4 := hf 4 (by omega)
  obtain ⟨u5, c5⟩ := hc 5 (by omega)
  have f5 := hf 5 (by omega)
  obtain ⟨u6, c6⟩ := hc 6 (by omega)
  have f6 := hf 6 (by omega)
  obtain ⟨u7, c7⟩ := hc 7 (by omega)
  have f7 := hf 7 (by omega)
  simp only [Nat.add_zero] at c0 f0
  have hl0 : 0 < len := by omega
  have w0 : IntKind.u8.wrap (v : Int) = (v / 256 ^ 0 % 256 : Nat) := by rw [IntKind.wrap_u8, Nat.pow_zero, Nat.div_one]; omega
  have w1 : IntKind.u8.wrap ((v : Int) / 256) = (v / 256 ^ 1 % 256 : Nat) := by rw [IntKind.wrap_u8, show (256 : Nat) ^ 1 = 256 from rfl]; omega
  have w2 : IntKind.u8.wrap ((v : Int) / 65536) = (v / 256 ^ 2 % 256 : Nat) := by rw [IntKind.wrap_u8, show (256 : Nat) ^ 2 = 65536 from rfl]; omega
  have w3 : IntKind.u8.wrap ((v : Int) / 16777216) = (v / 256 ^ 3 % 256 : Nat) := by rw [IntKind.wrap_u8, show (256 : Nat) ^ 3 = 16777216 from rfl]; omega
  have w4 : IntKind.u8.wrap ((v : Int) / 4294967296) = (v / 256 ^ 4 % 256 : Nat) := by rw [IntKind.wrap_u8, show (256 : Nat) ^ 4 = 4294967296 from rfl]; omega
  have w5 : IntKind.u8.wrap ((v : Int) / 1099511627776) = (v / 256 ^ 5 % 256 : Nat) := by rw [IntKind.wrap_u8, show (256 : Nat) ^ 5 = 1099511627776 from rfl]; omega
  have w6 : IntKind.u8.wrap ((v : Int) / 281474976710656) = (v / 256 ^ 6 % 256 : Nat) := by rw [IntKind.wrap_u8, show (256 : Nat) ^ 6 = 281474976710656 from rfl]; omega
  have w7 : IntKind.u8.wrap ((v : Int) / 72057594037927936) = (v / 256 ^ 7 % 256 : Nat) := by rw [IntKind.wrap_u8, show (256 : Nat) ^ 7 = 72057594037927936 from rfl]; omega
  obtain ⟨x0, hx0⟩ : ∃ x, x = v / 256 ^ 0 % 256 := ⟨_, rfl⟩
  rw [← hx0] at w0
  have X0 := Lib.hid hx0; clear hx0
  obtain ⟨x1, hx1⟩ : ∃ x, x = v / 256 ^ 1 % 256 := ⟨_, rfl⟩
  rw [← hx1] at w1
  have X1 := Lib.hid hx1; clear hx1
  obtain ⟨x2, hx2⟩ : ∃ x, x = v / 256 ^ 2 % 256 := ⟨_, rfl⟩
  rw [← hx2] at w2
  have X2 := Lib.hid hx2; clear hx2
  obtain ⟨x3, hx3⟩ : ∃ x, x = v / 256 ^ 3 % 256 := ⟨_, rfl⟩
  rw [← hx3] at w3
  have X3 := Lib.hid hx3; clear hx3
  obtain ⟨x4, hx4⟩ : ∃ x, x = v / 256 ^ 4 % 256 := ⟨_, rfl⟩
  rw [← hx4] at w4
  have X4 := Lib.hid hx4; clear hx4
  obtain ⟨x5, hx5⟩ : ∃ x, x = v / 256 ^ 5 % 256 := ⟨_, rfl⟩
  rw [← hx5] at w5
  have X5 := Lib.hid hx5; clear hx5
  obtain ⟨x6, hx6⟩ : ∃ x, x = v / 256 ^ 6 % 256 := ⟨_, rfl⟩
  rw [← hx6] at w6
  have X6 := Lib.hid hx6; clear hx6
  obtain ⟨x7, hx7⟩ : ∃ x, x = v / 256 ^ 7 % 256 := ⟨_, rfl⟩
  rw [← hx7] at w7
  have X7 := Lib.hid hx7; clear hx7
  have hb := World.block_lt_of_cell? w _ c0
  clear hv hc hf
  go_enter Tryz.func74, Tryz.ntmps74
  go_wp2_with fail
  go_end0
  refine ⟨rfl, (((((((((Chg.refl _ _).setCell b (o) (fun _ => ⟨rfl, by omega, by omega⟩) _).setCell b (o + 1) (fun _ => ⟨rfl, by omega, by omega⟩) _).setCell b (o + 2) (fun _ => ⟨rfl, by omega, by omega⟩) _).setCell b (o + 3) (fun _ => ⟨rfl, by omega, by omega⟩) _).setCell b (o + 4) (fun _ => ⟨rfl, by omega, by omega⟩) _).setCell b (o + 5) (fun _ => ⟨rfl, by omega, by omega⟩) _).setCell b (o + 6) (fun _ => ⟨rfl, by omega, by omega⟩) _).setCell b (o + 7) (fun _ => ⟨rfl, by omega, by omega⟩) _).alloc _, fun j hj => cell_alloc _ ?_⟩
  have hj8 : j = 0 ∨ j = 1 ∨ j = 2 ∨ j = 3 ∨ j = 4 ∨ j = 5 ∨ j = 6 ∨ j = 7 := by omega
  rcases hj8 with rfl | rfl | rfl | rfl | rfl | rfl | rfl | rfl
  · show _ = some (Value.int .u8 ((v / 256 ^ 0 % 256 : Nat) : Int))
    rw [← X0.out]; go_cell
  · show _ = some (Value.int .u8 ((v / 256 ^ 1 % 256 : Nat) : Int))
    rw [← X1.out]; go_cell
  · show _ = some (Value.int .u8 ((v / 256 ^ 2 % 256 : Nat) : Int))
    rw [← X2.out]; go_cell
  · show _ = some (Value.int .u8 ((v / 256 ^ 3 % 256 : Nat) : Int))
    rw [← X3.out]; go_cell
  · show _ = some (Value.int .u8 ((v / 256 ^ 4 % 256 : Nat) : Int))
    rw [← X4.out]; go_cell
  · show _ = some (Value.int .u8 ((v / 256 ^ 5 % 256 : Nat) : Int))
    rw [← X5.out]; go_cell
  · show _ = some (Value.int .u8 ((v / 256 ^ 6 % 256 : Nat) : Int))
    rw [← X6.out]; go_cell
  · show _ = some (Value.int .u8 ((v / 256 ^ 7 % 256 : Nat) : Int))
    rw [← X7.out]; go_cell
end Go.Proofs.YtflgbndhahcdnaaGreatDoor
/- The reader of a bitmap by words: made, asked. -/
namespace Go.Proofs.YtflgbndhahcdnaaGreatDoor
open Go Go.RowKit
/-- A reader of a bitmap by words, a block of its own: at byte j of (sb, so). -/
structure WR (w : World) (A sb so rs j L C nw tb ty cur : Nat) : Prop where
  sl : w.cell? ⟨A, 0, none⟩ = some (.slice (some ⟨sb, so + j, none⟩) L C)
  of : w.cell? ⟨A, 1, none⟩ = some (.int .i64 rs)
  nw : w.cell? ⟨A, 2, none⟩ = some (.int .i64 nw)
  tb : w.cell? ⟨A, 3, none⟩ = some (.int .i64 tb)
  ty : w.cell? ⟨A, 4, none⟩ = some (.int .i64 ty)
  cu : w.cell? ⟨A, 5, none⟩ = some (.int .u64 cur)
  fr : ∀ k, k < 6 → w.frozen? ⟨A, k, none⟩ = false
theorem WR.lt {w : World} {A sb so rs j L C nw tb ty cur : Nat} (h : WR w A sb so rs j L C nw tb ty cur) : A < w.heap.size := World.block_lt_of_cell? w _ h.sl
theorem WR.keep {w w' : World} {A sb so rs j L C nw tb ty cur : Nat} (h : WR w A sb so rs j L C nw tb ty cur) {S : Nat → Nat → Prop} (hc : Chg S w w') (hS : ∀ x, ¬ S A x) : WR w' A sb so rs j L C nw tb ty cur :=
  ⟨hc.keep h.sl (hS _), hc.keep h.of (hS _), hc.keep h.nw (hS _), hc.keep h.tb (hS _), hc.keep h.ty (hS _), hc.keep h.cu (hS _), fun k hk => (hc.frozen _ _ h.lt).trans (h.fr k hk)⟩
theorem WR.drew {w : World} {A sb so rs j L C nw tb ty cur : Nat} (h : WR w A sb so rs j L C nw tb ty cur) : WR w.drew A sb so rs j L C nw tb ty cur := h.keep (Chg.drew (Chg.refl Nix w)) (fun _ h => h)
theorem WR.cur' {w : World} {A sb so rs j L C nw tb ty cur : Nat} (h : WR w A sb so rs j L C nw tb ty cur) (v : Nat) : WR (w.setCell ⟨A, 5, none⟩ (.int .u64 v)) A sb so rs j L C nw tb ty v :=
  ⟨cell_ne _ h.sl (by omega), cell_ne _ h.of (by omega), cell_ne _ h.nw (by omega), cell_ne _ h.tb (by omega), cell_ne _ h.ty (by omega), World.cell?_setCell_same _ _ _ h.cu, fun k hk => by rw [World.frozen?_setCell]; exact h.fr k hk⟩
theorem WR.sl' {w : World} {A sb so rs j L C nw tb ty cur : Nat} (h : WR w A sb so rs j L C nw tb ty cur) (j' L' C' : Nat) : WR (w.setCell ⟨A, 0, none⟩ (.slice (some ⟨sb, so + j', none⟩) L' C')) A sb so rs j' L' C' nw tb ty cur :=
  ⟨World.cell?_setCell_same _ _ _ h.sl, cell_ne _ h.of (by omega), cell_ne _ h.nw (by omega), cell_ne _ h.tb (by omega), cell_ne _ h.ty (by omega), cell_ne _ h.cu (by omega), fun k hk => by rw [World.frozen?_setCell]; exact h.fr k hk⟩
theorem WR.tb' {w : World} {A sb so rs j L C nw tb ty cur : Nat} (h : WR w A sb so rs j L C nw tb ty cur) (v : Nat) : WR (w.setCell ⟨A, 3, none⟩ (.int .i64 v)) A sb so rs j L C nw v ty cur :=
  ⟨cell_ne _ h.sl (by omega), cell_ne _ h.of (by omega), cell_ne _ h.nw (by omega), World.cell?_setCell_same _ _ _ h.tb, cell_ne _ h.ty (by omega), cell_ne _ h.cu (by omega), fun k hk => by rw [World.frozen?_setCell]; exact h.fr k hk⟩
theorem WR.ty' {w : World} {A sb so rs j L C nw tb ty cur : Nat} (h : WR w A sb so rs j L C nw tb ty cur) (v : Nat) : WR (w.setCell ⟨A, 4, none⟩ (.int .i64 v)) A sb so rs j L C nw tb v cur :=
  ⟨cell_ne _ h.sl (by omega), cell_ne _ h.of (by omega), cell_ne _ h.nw (by omega), cell_ne _ h.tb (by omega), World.cell?_setCell_same _ _ _ h.ty, cell_ne _ h.cu (by omega), fun k hk => by rw [World.frozen?_setCell]; exact h.fr k hk⟩
set_option maxRecDepth 100000 in
set_option maxHeartbeats 1000000 in
theorem words_ok (A sb so rs j L C nw tb ty cur : Nat) (w : World) (h : WR w A sb so rs j L C nw tb ty cur) : Calls Tryz.prog 60 #[.pointer (some ⟨A, 0, none⟩)] w fun e w' => e = .returned (.int .i64 nw) ∧ w = w' := by
  have c2 := h.nw
  clear h
  go_enter Tryz.func60, Tryz.ntmps60
  go_wp2_with fail
  go_ret
  exact ⟨rfl, rfl⟩
set_option maxRecDepth 100000 in
set_option maxHeartbeats 1000000 in
theorem trailing_count (A sb so rs j L C nw tb ty cur : Nat) (w : World) (h : WR w A sb so rs j L C nw tb ty cur) : Calls Tryz.prog 63 #[.pointer (some ⟨A, 0, none⟩)] w fun e w' => e = .returned (.int .i64 ty) ∧ w = w' := by
  have c2 := h.ty
  clear h
  go_enter Tryz.func63, Tryz.ntmps63
  go_wp2_with fail
  go_ret
  exact ⟨rfl, rfl⟩
/-- What the word at hand holds: all of it where words are still to come, else its first byte. -/
structure Cur (σ : Nat → Bool) (p nw cur : Nat) : Prop where
  lt : cur < 2 ^ 64
  lo : ∀ t, t < 8 → cur.testBit t = σ (p + t)
  hi : 0 < nw → Num64 σ p cur
set_option maxRecDepth 100000 in
set_option maxHeartbeats 1000000 in
theorem newWR_ok (sb so n q rs len cap length : Nat) (σ : Nat → Bool) (w : World) (hB : Bmp w sb so n σ) (hr : rs < 8) (h1 : 1 ≤ length) (hl2 : length ≤ 1000000000) (hn : q + (rs + length + 7) / 8 ≤ n) (hnl : n ≤ len) (hlc : len ≤ cap) (hcap : cap ≤ 9223372036854775807) :
    Calls Tryz.prog 58 #[.slice (some ⟨sb, so, none⟩) len cap, .int .i64 (8 * q + rs : Nat), .int .i64 length] w fun e w' => e = .returned (.pointer (some ⟨w.heap.size, 0, none⟩)) ∧ Chg Nix w w' ∧ w.heap.size < w'.heap.size ∧ ∃ cur, WR w' w.heap.size sb so rs q ((rs + length + 7) / 8) (cap - q) (length / 64 - 1) (length - (length / 64 - 1) * 64) ((length - (length / 64 - 1) * 64 + 7) / 8) cur ∧ Cur σ (8 * q) (length / 64 - 1) cur := by
  obtain ⟨o, ho⟩ : ∃ o, o = 8 * q + rs := ⟨_, rfl⟩
  rw [← ho]
  have e1 : (o : Int) / 8 = q := by omega
  have e2 : (o : Int) % 8 = rs := by omega
  obtain ⟨L, hL⟩ : ∃ L, L = (rs + length + 7) / 8 := ⟨_, rfl⟩
  have hb1 := fun X => bytesFor_ok (rs + length) X (by omega)
  rw [← hL] at hb1 hn ⊢
  have hL1 : 1 ≤ L := by omega
  have hqt : ((q : Nat) : Int).toNat = q := by omega
  have hsb := hB.cell q (by omega)
  have hsl : sb < w.heap.size := by obtain ⟨x, hx, -⟩ := hsb; exact World.block_lt_of_cell? w _ hx
  have HB := Lib.hid hB; clear hB
  have Hb1 := Lib.hid hb1; clear hb1
  have HL := Lib.hid hL; clear hL
  have Ho := Lib.hid ho; clear ho
  have hrl : (rs : Int) + length = (rs + length : Nat) := by push_cast; rfl
  have Hrl := Lib.hid hrl; clear hrl
  have hsub : q + L - q = L := by omega
  have hqL : ((q : Int) + L).toNat = q + L := by omega
  go_enter Tryz.func58, Tryz.ntmps58
  go_wp2_with fail
  rw [Hrl.out]
  refine (Hb1.out _).mono ?_
  rintro e w1 ⟨rfl, rfl⟩
  go_upto_if 33 with fail
  go_cut [] (fun wx => WR wx w1.heap.size sb so rs q L (cap - q) (length / 64 - 1) 0 0 0 ∧ Chg Nix w1 wx ∧ w1.heap.size < wx.heap.size)
  case first =>
    by_cases h64 : 64 ≤ length
    · have hn0 : ¬ (length : Int) / 64 - 1 < 0 := by omega
      have hnw : (length : Int) / 64 - 1 = (length / 64 - 1 : Nat) := by omega
      have Hnw := Lib.hid hnw; clear hnw
      go_wp2_with fail
      go_meet
      rw [Hnw.out]
      exact ⟨⟨by simp, by simp, by simp, by simp, by simp, by simp, fun k _ => by simp⟩, Chg.new _ _, by simp⟩
    · have hn0 : (length : Int) / 64 - 1 < 0 := by omega
      have hnw : length / 64 - 1 = 0 := by omega
      have Hnw := Lib.hid hnw; clear hnw
      go_wp2_with fail
      go_meet
      rw [Hnw.out]
      exact ⟨⟨by simp, by simp, by simp, by simp, by simp, by simp, fun k _ => by simp⟩, Chg.new _ _, by simp⟩
  case rest =>
  obtain ⟨hW, hc, hlt⟩ := hcut
  obtain ⟨A, hA⟩ : ∃ A, A = w1.heap.size := ⟨_, rfl⟩
  rw [← hA] at hW hlt hsl ⊢
  obtain ⟨nw, hnw⟩ : ∃ nw, nw = length / 64 - 1 := ⟨_, rfl⟩
  rw [← hnw] at hW
  obtain ⟨tb, htb⟩ : ∃ tb, tb = length - nw * 64 := ⟨_, rfl⟩
  have htbi : (length : Int) - nw * 8 * 8 = tb := by omega
  have hty := fun X => bytesFor_ok tb X (by omega)
  have Hty := Lib.hid hty; clear hty
  have HA := Lib.hid hA; clear hA
  have Hnw := Lib.hid hnw; clear hnw
  have Htb := Lib.hid htb; clear htb
  have hnw8 : (nw : Int) ≤ 1000000000 := by have := Hnw.out; omega
  have c2 := hW.nw
  have c3 := hW.tb
  have f3 := hW.fr 3 (by omega)
  have hW2 := hW.tb' tb
  have hc2 : Chg Nix w1 (wc.setCell ⟨A, 3, none⟩ (.int .i64 tb)) := (hc.mono (S' := fun k _ => k = A) (fun _ _ _ h => h.elim)).setCell A 3 (fun _ => rfl) _ |>.mono (fun k x hk hh => by have := HA.out; omega)
  have HW := Lib.hid hW; clear hW
  have HW2 := Lib.hid hW2; clear hW2
  have Hc2 := Lib.hid hc2; clear hc2 hc
  go_wp2_with fail
  refine (Hty.out _).mono ?_
  rintro e w3 ⟨rfl, rfl⟩
  generalize wc.setCell ⟨A, 3, none⟩ (.int .i64 tb) = w3 at HW2 Hc2 ⊢
  clear c2 c3 f3 HW
  have c3 := HW2.out.tb
  have c4 := HW2.out.ty
  have f4 := HW2.out.fr 4 (by omega)
  have hW3 := HW2.out.ty' ((tb + 7) / 8)
  have hc3 : Chg Nix w1 (w3.setCell ⟨A, 4, none⟩ (.int .i64 ((tb + 7) / 8 : Nat))) := (Hc2.out.mono (S' := fun k _ => k = A) (fun _ _ _ h => h.elim)).setCell A 4 (fun _ => rfl) _ |>.mono (fun k x hk hh => by have := HA.out; omega)
  obtain ⟨ty, hty⟩ : ∃ ty, ty = (tb + 7) / 8 := ⟨_, rfl⟩
  rw [← hty] at hW3 hc3 ⊢
  have HTy := Lib.hid hty; clear hty
  have c2 := HW2.out.nw
  have HW3 := Lib.hid hW3; clear hW3
  have Hc3 := Lib.hid hc3; clear hc3 HW2 Hc2
  go_upto_if 60 with fail
  generalize w3.setCell ⟨A, 4, none⟩ (.int .i64 ty) = w4 at HW3 Hc3 ⊢
  clear c2 c3 c4 f4
  have c0 := HW3.out.sl
  have c5 := HW3.out.cu
  have f5 := HW3.out.fr 5 (by omega)
  have HB4 := Lib.hid (HB.out.keep Hc3.out (fun _ _ h => h))
  go_cut [] (fun wx => Chg Nix w1 wx ∧ ∃ cur, WR wx A sb so rs q L (cap - q) nw tb ty cur ∧ Cur σ (8 * q) nw cur)
  case first =>
    by_cases hnz : 0 < nw
    · have hnz' : (0 : Int) < nw := by omega
      have hcall := leBits_ok sb so n q L (cap - q) σ w4.drew HB4.out.drew (by have := HL.out; have := Hnw.out; omega) (by have := HL.out; have := Hnw.out; omega)
      have Hcall := Lib.hid hcall; clear hcall
      go_wp2_with fail
      refine wp_region_txt [72] (by kernel_rfl) (by kernel_rfl) ?_
      repeat (first | (refine wpTxt_pure rfl rfl (fun K hK => ?_); go_simp; refine hK _ ?_; clear hK K) | (refine wpTxt_still rfl rfl (fun K hK => ?_); go_simp; refine hK _ ?_; clear hK K))
      refine wpTxt_effect rfl rfl (fun K hK => ?_); go_simp
      refine Hcall.out.mono ?_
      rintro e w5 ⟨V, rfl, hV, h5⟩
      have hW5 := HW3.out.keep h5.undrew (fun _ h => h)
      have c5' := hW5.cu
      have f5' := hW5.fr 5 (by omega)
      have HW6 := Lib.hid (hW5.cur' V)
      have hc6 : Chg Nix w1 (w5.setCell ⟨A, 5, none⟩ (.int .u64 V)) := ((Hc3.out.trans h5.undrew).mono (S' := fun k _ => k = A) (fun _ _ _ h => h.elim)).setCell A 5 (fun _ => rfl) _ |>.mono (fun k x hk hh => by have := HA.out; omega)
      have Hc6 := Lib.hid hc6
      have HV := Lib.hid hV
      clear h5 hW5 hc6 hV
      (refine hK _ _ ?_; clear hK K)
      repeat (first | (refine wpTxt_pure rfl rfl (fun K hK => ?_); go_simp; refine hK _ ?_; clear hK K) | (refine wpTxt_still rfl rfl (fun K hK => ?_); go_simp; refine hK _ ?_; clear hK K))
      refine wpTxt_still rfl rfl (fun K hK => ?_)
      go_simp
      refine ⟨_, toLE_ok V _, ?_⟩
      (refine hK _ ?_; clear hK K)
      repeat (first | (refine wpTxt_pure rfl rfl (fun K hK => ?_); go_simp; refine hK _ ?_; clear hK K) | (refine wpTxt_still rfl rfl (fun K hK => ?_); go_simp; refine hK _ ?_; clear hK K))
      (refine wpTxt_effect rfl rfl (fun K hK => ?_); go_simp; refine hK _ _ ?_; clear hK K)
      refine wpTxt_nil ?_
      go_wp2_with fail
      go_meet
      exact ⟨Hc6.out, V, HW6.out, HV.out.lt, fun t ht => HV.out.tb t (by omega), fun _ => HV.out⟩
    · have hnz' : ¬ (0 : Int) < nw := by omega
      obtain ⟨x, hx, hx8, hxt⟩ := HB4.out.cell q (by omega)
      have hl0 : 0 < length := by omega
      have hL0 : 0 < L := by omega
      have hcall := setLSB_ok A 5 0 x w4.drew (by decide) hx8 c5 f5
      have Hcall := Lib.hid hcall; clear hcall
      have HW6 := Lib.hid (HW3.out.cur' (lsb 0 x))
      have hc6 : Chg Nix w1 (w4.setCell ⟨A, 5, none⟩ (.int .u64 (lsb 0 x : Nat))) := (Hc3.out.mono (S' := fun k _ => k = A) (fun _ _ _ h => h.elim)).setCell A 5 (fun _ => rfl) _ |>.mono (fun k x hk hh => by have := HA.out; omega)
      have Hc6 := Lib.hid hc6
      have Hx := Lib.hid hxt
      clear hc6 hxt
      go_wp2_with fail
      (refine wp_region_txt [] (by kernel_rfl) (by kernel_rfl) ?_; repeat (first | (refine wpTxt_pure rfl rfl (fun K hK => ?_); go_simp; refine hK _ ?_; clear hK K) | (refine wpTxt_still rfl rfl (fun K hK => ?_); go_simp; refine hK _ ?_; clear hK K)))
      refine wpTxt_effect rfl rfl (fun K hK => ?_); go_simp
      refine Hcall.out.mono ?_
      rintro e w5 ⟨rfl, rfl⟩
      (refine hK _ _ ?_; clear hK K)
      repeat (first | (refine wpTxt_pure rfl rfl (fun K hK => ?_); go_simp; refine hK _ ?_; clear hK K) | (refine wpTxt_still rfl rfl (fun K hK => ?_); go_simp; refine hK _ ?_; clear hK K))
      refine wpTxt_nil ?_
      go_wp2_with fail
      go_meet
      exact ⟨Hc6.out.drew, lsb 0 x, HW6.out.drew, lsb_lt 0 x (by decide) hx8, fun t ht => by rw [lsb_tb _ _ _ hx8 ht, Hx.out t ht], fun h => absurd h hnz⟩
  case rest =>
  obtain ⟨h1, cur, h2, h3⟩ := hcut
  have H1 := Lib.hid h1; clear h1
  have H2 := Lib.hid h2; clear h2
  have H3 := Lib.hid h3; clear h3
  go_wp2_with fail
  go_ret
  rw [← HA.out, ← Hnw.out, ← Htb.out, ← HTy.out]
  exact ⟨rfl, H1.out, H2.out.lt, cur, H2.out, H3.out⟩
end Go.Proofs.YtflgbndhahcdnaaGreatDoor
