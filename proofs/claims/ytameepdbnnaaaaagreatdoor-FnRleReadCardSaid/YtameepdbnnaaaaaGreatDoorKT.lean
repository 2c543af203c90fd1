/- Part 20 of the proof: the texts PF, PG, PH, PJ, PK, PI, PO, joined. What each proves stands ahead of it. -/
import Derived.Test.YtameepdbnnaaaaaGreatDoorKS
import Derived.Test.YtameepdbnnaaaaaGreatDoorPFnRleReadx6
import Derived.Test.YtameepdbnnaaaaaGreatDoorKR
import Derived.OpenShut
import Derived.ChangeSlices
set_option linter.unusedVariables false
set_option linter.unusedSimpArgs false
/- The plain law: runs as they are written stand as runs. -/
namespace Go.Proofs.YtameepdbnnaaaaaGreatDoor
open Go Go.RowKit Go.Proofs.YtameepdbnnaaaaaGreatDoor.PFnRleRead Go.Proofs.YtameepdbnnaaaaaGreatDoorW.PrintWords Go.Proofs.YtameepdbnnaaaaaGreatDoorW.PrintMore
theorem packed_bit {vs bs : List Nat} {W M : Nat} {D : Nat → Nat} {q : Nat} (hW : 1 ≤ W) (h : Packed vs bs W M (8 * M)) (hT : vs.length * W = 8 * M) (hs : StandB D q bs) (j v t : Nat) (hj : vs[j]? = some v) (ht : t < W) : bitB D (8 * q + j * W + t) = v / 2 ^ t % 2 := by
  have hjl : j < vs.length := (List.getElem?_eq_some_iff.1 hj).1
  have hp : j * W + t < 8 * M := by
    rw [← hT]
    calc j * W + t < j * W + W := by omega
      _ = (j + 1) * W := by rw [Nat.succ_mul]
      _ ≤ vs.length * W := Nat.mul_le_mul_right _ hjl
  obtain ⟨p, hpe⟩ : ∃ p, p = j * W + t := ⟨_, rfl⟩
  rw [← hpe] at hp
  rw [show 8 * q + j * W + t = 8 * q + p by omega]
  have hb := h.bit p hp
  rw [decide_eq_true hp, Bool.true_and] at hb
  have e1 : p / W = j := by rw [hpe, Nat.mul_comm, Nat.mul_add_div (by omega), Nat.div_eq_of_lt ht, Nat.add_zero]
  have e2 : p % W = t := by rw [hpe, Nat.mul_comm, Nat.mul_add_mod, Nat.mod_eq_of_lt ht]
  unfold inBit at hb
  have hvj : vs.getD j 0 = v := by rw [List.getD_eq_getElem?_getD, hj]; rfl
  rw [e1, e2, hvj] at hb
  have hbl : p / 8 < bs.length := by rw [h.len]; omega
  have hD : D (q + p / 8) = bs.getD (p / 8) 0 := by
    rw [List.getD_eq_getElem?_getD, List.getElem?_eq_getElem hbl]
    exact hs _ _ (List.getElem?_eq_getElem hbl)
  unfold bitB
  rw [show (8 * q + p) / 8 = q + p / 8 by omega, show (8 * q + p) % 8 = p % 8 by omega, hD]
  rw [Nat.testBit_eq_decide_div_mod_eq, Nat.testBit_eq_decide_div_mod_eq] at hb
  have hb2 := decide_eq_decide.1 hb
  omega
theorem put_l2 (W : Nat) (hW2 : W ≤ 64) (l : List S36) (i : Nat) (hi : i ≤ 1000000) (r : S36) (v : Nat) (hv : r.f2 = [(v : Int)]) (res : List Int) : ∀ (m j : Nat) (done : List Nat), j + m = (W + 7) / 8 → done.length ≤ 1000000 + j →
    Ev (fun k => spec_PutRuns.l0 k (W : Int) (ints (done ++ leB (v / 256 ^ j) m)) l (l.length : Int) (i + 1 : Nat)) res →
    Ev (fun k => spec_PutRuns.l2 k (W : Int) (ints done) (j : Int) l (l.length : Int) (i : Int) r.f0 r.f1 r.f2) res := by
  have eW : Int.tdiv (RowKit.wrap64 ((W : Int) + 7)) 8 = (((W + 7) / 8 : Nat) : Int) := by
    rw [show (W : Int) + 7 = (W + 7 : Nat) by push_cast; rfl, w64 _ (by omega)]; rfl
  intro m
  induction m with
  | zero =>
    intro j done h hd hg
    rw [leB, List.append_nil] at hg
    refine .step (fun k => ?_) hg
    rw [spec_PutRuns.l2, eW, w64 _ (by omega), if_neg (by omega), show (i : Int) + 1 = (i + 1 : Nat) by push_cast; rfl, w64 (i + 1) (by omega)]
  | succ m ih =>
    intro j done h hd hg
    have e : leB (v / 256 ^ j) (m + 1) = (v / 256 ^ j % 256) :: leB (v / 256 ^ (j + 1)) m := by
      rw [leB, Nat.pow_succ, ← Nat.div_div_eq_div_mul]
    rw [e] at hg
    refine .step (fun k => ?_) (ih (j + 1) (done ++ [v / 256 ^ j % 256]) (by omega) (by rw [List.length_append, List.length_singleton]; omega) (by rw [List.append_assoc]; exact hg))
    have hsh : (shr .u64 (v : Int) ((8 * j : Nat) : Int)) % 256 = ((v / 256 ^ j % 256 : Nat) : Int) := by
      unfold shr
      rw [Int.toNat_natCast, show min (8 * j) IntKind.u64.bits = 8 * j by show min (8 * j) 64 = 8 * j; omega, show ((2 : Int) ^ (8 * j)) = ((2 ^ (8 * j) : Nat) : Int) by push_cast; rfl, ← Int.natCast_ediv, show (2 : Nat) ^ (8 * j) = 256 ^ j by rw [Nat.pow_mul]]
      rfl
    rw [spec_PutRuns.l2, eW, w64 _ (by omega), if_pos (by omega), hv, if_pos (by simp), show (8 : Int) * j = (8 * j : Nat) by push_cast; rfl, w64 (8 * j) (by omega), if_pos (Int.natCast_nonneg _), if_pos (by rw [ints_len]; omega), show rd [(v : Int)] 0 = v from rfl, hsh, show (j : Int) + 1 = (j + 1 : Nat) by push_cast; rfl, w64 (j + 1) (by omega), ints_app]
    rfl
theorem put_l1 (W c : Nat) (hW1 : 1 ≤ W) (hW2 : W ≤ 64) (l : List S36) (i : Nat) (hi : i ≤ 1000000) (r : S36) (hc : r.f1 = (c : Int)) (hcb : c ≤ 1000) (done : List Nat) (hd : done.length ≤ 10000000) (res : List Int) (vs bs : List Nat) (hp : Ev (fun k => spec_PackBits.f k (ints vs) (W : Int)) (ints bs)) (hbs : bs.length ≤ 10000000) (hvs : vs.length = 8 * c)
    (hg : Ev (fun k => spec_PutRuns.l0 k (W : Int) (ints (done ++ bs)) l (l.length : Int) (i + 1 : Nat)) res) : ∀ (m : Nat) (x8 : List Nat), x8 ++ List.replicate m 0 = vs →
    Ev (fun k => spec_PutRuns.l1 k (W : Int) (ints done) (ints x8) l (l.length : Int) (i : Int) r.f0 r.f1 r.f2) res := by
  intro m
  induction m with
  | zero =>
    intro x8 h
    rw [List.replicate_zero, List.append_nil] at h
    subst h
    refine .step (fun k => ?_) (.bind (G := fun k t => if (ints done).length + t.length < 140737488355328 then spec_PutRuns.l0 k (W : Int) (ints done ++ t) l (l.length : Int) (RowKit.wrap64 ((i : Int) + 1)) else none) hp (.congr (fun k => ?_) hg))
    · rw [spec_PutRuns.l1, hc, show (8 : Int) * c = (8 * c : Nat) by push_cast; rfl, w64 _ (by omega), if_neg (by rw [ints_len]; omega)]
    · rw [if_pos (by rw [ints_len, ints_len]; omega), ints_app, show (i : Int) + 1 = (i + 1 : Nat) by push_cast; rfl, w64 (i + 1) (by omega)]
  | succ m ih =>
    intro x8 h
    have hl : x8.length + (m + 1) = 8 * c := by rw [← hvs, ← h, List.length_append, List.length_replicate]
    refine .step (fun k => ?_) (ih (x8 ++ [0]) (by rw [List.append_assoc]; exact h))
    rw [spec_PutRuns.l1, hc, show (8 : Int) * c = (8 * c : Nat) by push_cast; rfl, w64 _ (by omega), if_pos (by rw [ints_len]; omega), if_pos (by rw [ints_len]; omega), ints_app]
    rfl
end Go.Proofs.YtameepdbnnaaaaaGreatDoor
/- The plain law: runs as they are written stand as runs: all of them. -/
namespace Go.Proofs.YtameepdbnnaaaaaGreatDoor
open Go Go.RowKit Go.Proofs.YtameepdbnnaaaaaGreatDoor.PFnRleRead Go.Proofs.YtameepdbnnaaaaaGreatDoorW.PrintWords Go.Proofs.YtameepdbnnaaaaaGreatDoorW.PrintMore
theorem or_one (c : Nat) : (2 * c) ||| 1 = 2 * c + 1 := by
  have := Nat.two_pow_add_eq_or_of_lt (i := 1) (b := 1) (by decide) c
  rw [Nat.pow_one] at this
  exact this.symm
theorem pow_bytes (W v : Nat) (h : v < 2 ^ W) : v < 256 ^ ((W + 7) / 8) := by
  refine Nat.lt_of_lt_of_le h ?_
  rw [show (256 : Nat) = 2 ^ 8 from rfl, ← Nat.pow_mul]
  exact Nat.pow_le_pow_right (by decide) (by omega)
theorem leB_lt : ∀ (n v : Nat), ∀ x ∈ leB v n, x < 256
  | 0, v, x, hx => by cases hx
  | n + 1, v, x, hx => by
    rw [leB] at hx
    rcases List.mem_cons.1 hx with rfl | hx
    · exact Nat.mod_lt _ (by decide)
    · exact leB_lt n _ x hx
theorem vlq_short (u : Nat) (hu : u ≤ 1000) : (vlq u).length ≤ 2 := (vlq_len 1 u (by omega)).2
theorem put_l0 (W : Nat) (hW1 : 1 ≤ W) (hW2 : W ≤ 64) (l : List S36) (hL : l.length ≤ 40) (hI : ∀ r ∈ l, IsRun r) (hF : ∀ r ∈ l, FitR W r) : ∀ (suf pre : List S36) (done : List Nat), pre ++ suf = l → done.length ≤ 2000 * pre.length →
    ∃ bs : List Nat, Ev (fun k => spec_PutRuns.l0 k (W : Int) (ints done) l (l.length : Int) (pre.length : Int)) (ints (done ++ bs)) ∧ (∀ x ∈ bs, x < 256) ∧ bs.length ≤ 2000 * suf.length ∧ (suf ≠ [] → bs ≠ []) ∧ ∀ D L q, StandB D q bs → q + bs.length ≤ L → Runs D L W q (allOf suf) := by
  intro suf
  induction suf with
  | nil =>
    intro pre done h hd
    rw [List.append_nil] at h
    subst h
    exact ⟨[], .now fun k => by rw [spec_PutRuns.l0, if_neg (by omega), List.append_nil], fun x hx => (by cases hx), Nat.zero_le _, fun h => absurd rfl h, fun D L q _ _ => .nil q⟩
  | cons r suf ih =>
    intro pre done h hd
    have hl : pre.length + suf.length + 1 = l.length := by rw [← h, List.length_append, List.length_cons]; omega
    have hrd : rd_T36 l (pre.length : Int) = r := by rw [← h]; exact rdT_app pre suf r
    have hI1 := hI r (by rw [← h]; simp)
    have hF1 := hF r (by rw [← h]; simp)
    have hc1 := hF1.c1
    obtain ⟨c, hc⟩ : ∃ c : Nat, r.f1 = c := ⟨r.f1.toNat, by omega⟩
    have hct : r.f1.toNat = c := by omega
    have hw : ∀ x : Nat, x ≤ 1000 → IntKind.u64.wrap (x : Int) = x := fun x hx => wrap64 _ (by omega) (by omega)
    have hstart : ∀ k, spec_PutRuns.l0 (k + 1) (W : Int) (ints done) l (l.length : Int) (pre.length : Int) = _ := fun k => by
      rw [spec_PutRuns.l0, if_pos (show (pre.length : Int) < l.length by omega), if_pos (show (0 : Int) ≤ pre.length by omega), if_pos (show (pre.length : Int) < l.length by omega), hrd]
    by_cases h0 : r.f0 = true
    · have hp := hF1.p h0
      have hnum : numsOf r = vals r ++ List.replicate (8 * c - (vals r).length) 0 := by unfold numsOf; rw [if_pos h0, hct]
      have hnl : (numsOf r).length = 8 * c := by rw [hnum, List.length_append, List.length_replicate, vals_len]; omega
      have hnv : ∀ v ∈ numsOf r, v < 2 ^ W := fun v hv => by
        rw [hnum] at hv
        rcases List.mem_append.1 hv with hv | hv
        · exact hF1.v v hv
        · rw [List.eq_of_mem_replicate hv]; exact Nat.two_pow_pos _
      have h64 : ∀ v ∈ numsOf r, v < 2 ^ 64 := fun v hv => Nat.lt_of_lt_of_le (hnv v hv) (Nat.pow_le_pow_right (by decide) hW2)
      obtain ⟨pb, hpb, hpk⟩ := packBits_ev (numsOf r) W c hW1 hW2 h64 hnl (by omega)
      have hcW : c * W ≤ 1280 := Nat.le_trans (Nat.mul_le_mul (show c ≤ 20 by omega) hW2) (by decide)
      have hvl := vlq_short (2 * c + 1) (by omega)
      obtain ⟨bs, hb1, hb2, hb3, -, hb4⟩ := ih (pre ++ [r]) (done ++ vlq (2 * c + 1) ++ pb) (by rw [List.append_assoc]; exact h) (by
        simp only [List.length_append, List.length_singleton, hpk.len]; omega)
      rw [List.length_append, List.length_singleton] at hb1
      have h1 := put_l1 W c hW1 hW2 l pre.length (by omega) r hc (by omega) (done ++ vlq (2 * c + 1)) (by rw [List.length_append]; omega) _ (numsOf r) pb hpb (by rw [hpk.len]; omega) hnl hb1 (8 * c - (vals r).length) (vals r) hnum.symm
      refine ⟨vlq (2 * c + 1) ++ (pb ++ bs), ?_, ?_, ?_, ?_, ?_⟩
      · rw [show done ++ (vlq (2 * c + 1) ++ (pb ++ bs)) = done ++ vlq (2 * c + 1) ++ pb ++ bs by simp only [List.append_assoc]]
        have hX : Go.bits .or .u64 (IntKind.u64.wrap (IntKind.u64.wrap r.f1 * 2)) 1 = ((2 * c + 1 : Nat) : Int) := by
          rw [hc, hw c (by omega), show (c : Int) * 2 = (2 * c : Nat) by push_cast; omega, hw _ (by omega), show (1 : Int) = ((1 : Nat) : Int) from rfl, u64_or_nat _ _ (by omega) (by decide), or_one]
        refine .step (fun k => (hstart k).trans (if_pos h0)) ?_
        rw [hX]
        refine .bind (putVlq_ev (2 * c + 1) (by omega)) (.congr (fun k => ?_) h1)
        rw [if_pos (by rw [ints_len, ints_len]; omega)]
        show (if ([] : List Int).length + r.f2.length < 17592186044416 then _ else _) = _
        rw [if_pos (by simp only [List.length_nil]; omega), ← ints_app, List.nil_append, ← hI1.ints]
      · intro x hx
        rcases List.mem_append.1 hx with hx | hx
        · exact vlq_byte 8 _ (by omega) x hx
        · rcases List.mem_append.1 hx with hx | hx
          · exact hpk.lt x hx
          · exact hb2 x hx
      · simp only [List.length_append, List.length_cons, hpk.len]; omega
      · intro _ hh
        have := vlq_pos (2 * c + 1)
        rw [(List.append_eq_nil_iff.1 hh).1] at this
        exact absurd this (by decide)
      · intro D L q hs hq
        simp only [List.length_append, hpk.len] at hq
        have hs2 := hs.app.2.app
        have hb5 := hb4 D L (q + (vlq (2 * c + 1)).length + c * W) (by have := hs2.2; rwa [hpk.len] at this) (by omega)
        exact Runs.put_lit (by omega) (by omega) hnl hnv hs.app.1 (fun j v t hj ht => packed_bit hW1 hpk (by rw [hnl, Nat.mul_assoc]) hs2.1 j v t hj ht) (by omega) hb5
    · have h0' : r.f0 = false := by simpa using h0
      have hq := hF1.q h0'
      obtain ⟨v, hv⟩ : ∃ v, vals r = [v] := List.length_eq_one_iff.1 (by rw [vals_len]; exact hq.2)
      have hvW : v < 2 ^ W := hF1.v v (by rw [hv]; simp)
      have hnum : numsOf r = List.replicate c v := by unfold numsOf; rw [if_neg h0, hct, hv]; rfl
      have hvl := vlq_short (2 * c) (by omega)
      obtain ⟨bs, hb1, hb2, hb3, -, hb4⟩ := ih (pre ++ [r]) (done ++ vlq (2 * c) ++ leB v ((W + 7) / 8)) (by rw [List.append_assoc]; exact h) (by
        simp only [List.length_append, List.length_singleton, leB_length]; omega)
      rw [List.length_append, List.length_singleton] at hb1
      have h2 := put_l2 W hW2 l pre.length (by omega) r v (by rw [hI1.ints, hv]; rfl) _ ((W + 7) / 8) 0 (done ++ vlq (2 * c)) (by omega) (by rw [List.length_append]; omega) (by rw [Nat.pow_zero, Nat.div_one]; exact hb1)
      refine ⟨vlq (2 * c) ++ (leB v ((W + 7) / 8) ++ bs), ?_, ?_, ?_, ?_, ?_⟩
      · rw [show done ++ (vlq (2 * c) ++ (leB v ((W + 7) / 8) ++ bs)) = done ++ vlq (2 * c) ++ leB v ((W + 7) / 8) ++ bs by simp only [List.append_assoc]]
        have hX : IntKind.u64.wrap (IntKind.u64.wrap r.f1 * 2) = ((2 * c : Nat) : Int) := by
          rw [hc, hw c (by omega), show (c : Int) * 2 = (2 * c : Nat) by push_cast; omega, hw _ (by omega)]
        refine .step (fun k => (hstart k).trans (if_neg h0)) ?_
        rw [hX]
        refine .bind (putVlq_ev (2 * c) (by omega)) (.congr (fun k => ?_) h2)
        rw [if_pos (by rw [ints_len, ints_len]; omega), ← ints_app]
        rfl
      · intro x hx
        rcases List.mem_append.1 hx with hx | hx
        · exact vlq_byte 8 _ (by omega) x hx
        · rcases List.mem_append.1 hx with hx | hx
          · exact leB_lt _ _ x hx
          · exact hb2 x hx
      · simp only [List.length_append, List.length_cons, leB_length]; omega
      · intro _ hh
        have := vlq_pos (2 * c)
        rw [(List.append_eq_nil_iff.1 hh).1] at this
        exact absurd this (by decide)
      · intro D L q hs hq
        simp only [List.length_append, leB_length] at hq
        rw [← List.append_assoc] at hs
        have hs2 := hs.app
        rw [List.length_append, leB_length, ← Nat.add_assoc] at hs2
        have hb5 := hb4 D L (q + (vlq (2 * c)).length + (W + 7) / 8) hs2.2 (by omega)
        show Runs D L W q (numsOf r ++ allOf suf)
        rw [hnum]
        exact Runs.put_rep (by omega) (by omega) (pow_bytes W v hvW) hs2.1 (by omega) hb5
theorem putRuns_ev (W : Nat) (hW1 : 1 ≤ W) (hW2 : W ≤ 64) (l : List S36) (hL : l.length ≤ 40) (hI : ∀ r ∈ l, IsRun r) (hF : ∀ r ∈ l, FitR W r) :
    ∃ bs : List Nat, Ev (fun k => spec_PutRuns.f k l (W : Int)) (ints bs) ∧ (∀ x ∈ bs, x < 256) ∧ bs.length ≤ 80000 ∧ (l ≠ [] → bs ≠ []) ∧ ∀ D L, StandB D 0 bs → bs.length ≤ L → Runs D L W 0 (allOf l) := by
  obtain ⟨bs, h1, h2, h3, h4, h5⟩ := put_l0 W hW1 hW2 l hL hI hF l [] [] rfl (Nat.zero_le _)
  exact ⟨bs, h1, h2, by omega, h4, fun D L hs hl => h5 D L 0 hs (by omega)⟩
/-- The numbers fit in the width. -/
theorem allOf_lt (W : Nat) (l : List S36) (hF : ∀ r ∈ l, FitR W r) : ∀ v ∈ allOf l, v < 2 ^ W := by
  intro v hv
  unfold allOf at hv
  obtain ⟨r, hr, hv⟩ := List.mem_flatMap.1 hv
  have hF1 := hF r hr
  unfold numsOf at hv
  split at hv
  · rcases List.mem_append.1 hv with hv | hv
    · exact hF1.v v hv
    · rw [List.eq_of_mem_replicate hv]; exact Nat.two_pow_pos _
  · rw [List.eq_of_mem_replicate hv]
    cases hvr : vals r with
    | nil => exact Nat.two_pow_pos _
    | cons x xs => exact hF1.v x (by rw [hvr]; simp)
theorem allOf_len (W : Nat) : ∀ l : List S36, (∀ r ∈ l, FitR W r) → (allOf l).length ≤ 300 * l.length
  | [], _ => Nat.zero_le _
  | r :: l, hF => by
    have h1 := numsOf_len (hF r (by simp))
    have h2 := allOf_len W l (fun x hx => hF x (by simp [hx]))
    show (numsOf r ++ allOf l).length ≤ _
    rw [List.length_append, List.length_cons]; omega
end Go.Proofs.YtameepdbnnaaaaaGreatDoor
/- Rows of the print and rows of mine. -/
namespace Go.Proofs.YtameepdbnnaaaaaGreatDoor
open Go Go.RowKit Go.Proofs.YtameepdbnnaaaaaGreatDoor.PFnRleRead Go.Proofs.YtameepdbnnaaaaaGreatDoorW.PrintWords Go.Proofs.YtameepdbnnaaaaaGreatDoorW.PrintMore
theorem Chg.ofBelow {w w' : World} (h : Below w.heap.size w w') : Chg Nix w w' :=
  ⟨h.os, h.tape, h.output, h.size, fun k hk _ => h.block k hk, fun k o hk _ => by unfold World.cell?; rw [h.block k hk], fun k o hk => by unfold World.frozen?; rw [h.block k hk]⟩
theorem Chg.toBelow {w w' : World} (h : Chg Nix w w') : Below w.heap.size w w' := h.below (Nat.le_refl _) (fun _ _ _ h => h)
theorem spot_none {w : World} {ad : Addr} {v : Value} (h : w.cell? ad = some v) : ad = ⟨ad.block, ad.off, none⟩ := by
  obtain ⟨g, o, s⟩ := ad
  cases s with
  | none => rfl
  | some x =>
    unfold World.cell? at h
    split at h
    · simp at h
    · cases h
theorem C_addr {k : IntKind} {w : World} {A : Option Addr} {xs : List Int} (h : Kd.C (Kd.int k) w A xs.length xs) (j : Nat) (hj : j < xs.length) : ∃ g o, A = some ⟨g, o, none⟩ ∧ w.cell? ⟨g, o + j, none⟩ = some (.int k xs[j]) := by
  obtain ⟨ad, e, hc⟩ := h.2.2 (by omega)
  have hat : ∀ i (hi : i < xs.length), w.cell? (ad.add i) = some (.int k xs[i]) := fun i hi => by
    obtain ⟨c, hl, hr, hcell⟩ := hc i xs[i] (List.getElem?_eq_getElem hi)
    have hr' : c = [.int k xs[i]] := hr
    subst hr'
    have := hcell 0 _ rfl
    rw [show (Kd.int k).sz = 1 from rfl, Nat.mul_one, Nat.add_zero] at this
    exact this
  have h0 := hat 0 (by omega)
  have hz : ad.add 0 = ad := rfl
  rw [hz] at h0
  have hs := spot_none h0
  refine ⟨ad.block, ad.off, by rw [e, ← hs], ?_⟩
  have := hat j hj
  rw [hs] at this
  rwa [addr_add] at this
theorem reads2_C {w : World} {v : Value} {vs : List Nat} (h : Reads2 w v (u64s vs)) (hb : vs.length ≤ 1000000000) : ∃ p c, v = .slice p (ints vs).length c ∧ (ints vs).length ≤ c ∧ Kd.C (Kd.int .u64) w p (ints vs).length (ints vs) := by
  obtain ⟨p, c, rfl, hc, hp⟩ := h
  rw [u64s_len] at hc
  have hl : (ints vs).length = vs.length := ints_len vs
  refine ⟨p, c, by rw [u64s_len, hl], by omega, rfl, by omega, fun hn => ?_⟩
  rcases hp with hp | ⟨g, o, rfl, hcell⟩
  · have := congrArg List.length hp
    rw [u64s_len, List.length_nil] at this
    omega
  · refine ⟨_, rfl, fun j q hq => ⟨[.int .u64 q], rfl, rfl, fun i u hu => ?_⟩⟩
    cases i with
    | succ i => simp at hu
    | zero =>
      have hu' : u = .int .u64 q := by simpa using hu.symm
      subst hu'
      rw [show (Kd.int .u64).sz = 1 from rfl, Nat.mul_one, Nat.add_zero, addr_add]
      refine hcell j _ ?_
      unfold ints at hq
      unfold u64s
      rw [List.getElem?_map] at hq ⊢
      obtain ⟨x, hx, rfl⟩ := Option.map_eq_some_iff.1 hq
      rw [hx]; rfl
/-- Bytes of the print as data of mine. -/
theorem C_data {w : World} {A : Option Addr} {bs : List Nat} (h : Kd.C (Kd.int .u8) w A (ints bs).length (ints bs)) (hlt : ∀ x ∈ bs, x < 256) (hne : bs ≠ []) : ∃ g o, A = some ⟨g, o, none⟩ ∧ g < w.heap.size ∧ Data w g o bs.length (fun j => bs.getD j 0) ∧ StandB (fun j => bs.getD j 0) 0 bs := by
  have hl : (ints bs).length = bs.length := ints_len bs
  have h0 : 0 < bs.length := List.length_pos_iff.2 hne
  obtain ⟨g, o, rfl, hc0⟩ := C_addr h 0 (by omega)
  refine ⟨g, o, rfl, World.block_lt_of_cell? w _ hc0, ⟨fun j hj => ?_, fun j => getD_lt hlt j, fun j hj => ?_⟩, fun j v hv => ?_⟩
  · obtain ⟨g', o', e, hcj⟩ := C_addr h j (by omega)
    injection e with e
    injection e with e1 e2
    subst e1; subst e2
    rw [hcj]
    have : (ints bs)[j]'(by omega) = ((bs.getD j 0 : Nat) : Int) := by
      unfold ints
      rw [List.getElem_map, List.getD_eq_getElem?_getD, List.getElem?_eq_getElem hj]; rfl
    rw [this]
  · show bs.getD j 0 = 0
    rw [List.getD_eq_getElem?_getD, List.getElem?_eq_none (by omega)]; rfl
  · show bs.getD (0 + j) 0 = v
    rw [Nat.zero_add, List.getD_eq_getElem?_getD, hv]; rfl
end Go.Proofs.YtameepdbnnaaaaaGreatDoor
/- The law's awake part: three ones out of a run. -/
namespace Go.Proofs.YtameepdbnnaaaaaGreatDoor
open Go Go.RowKit Go.Proofs.YtameepdbnnaaaaaGreatDoor.PFnRleRead Go.Proofs.YtameepdbnnaaaaaGreatDoorW.PrintWords Go.Proofs.YtameepdbnnaaaaaGreatDoorW.PrintMore
theorem awake_runs : Runs (fun j => [6, 1].getD j 0) 2 1 0 [1, 1, 1] := by
  refine Runs.put_rep (n := 3) (v := 1) (vs := []) (by decide) (by decide) (by decide) ?_ ?_ (.nil _)
  · rw [vlq_lo 6 (by decide)]
    intro j v hv
    have : [6] ++ leB 1 ((1 + 7) / 8) = [6, 1] := rfl
    rw [this] at hv
    show [6, 1].getD (0 + j) 0 = v
    rw [Nat.zero_add, List.getD_eq_getElem?_getD, hv]; rfl
  · rw [vlq_lo 6 (by decide)]; decide
theorem awake_ok (ee eu : Addr) (w : World) (hE : Eofs w ee eu) (hT : Tabs w) (hg : 8 < w.heap.size) :
    Calls Tryz.prog 5 #[.slice (some ⟨w.heap.size, 0, none⟩) 2 2, .int .i64 1, .int .i64 0, .slice (some ⟨w.heap.size + 1, 0, none⟩) 1 1] ((w.alloc (.cells #[.int .u8 6, .int .u8 1] 5)).alloc (.cells #[.int .i64 3] 3)) fun e w' =>
      ∃ v, e = .returned (.tuple #[v, .bool true]) ∧ Reads2 w' v (u64s [1, 1, 1]) ∧ Chg Nix w w' := by
  have hc : Chg Nix w ((w.alloc (.cells #[.int .u8 6, .int .u8 1] 5)).alloc (.cells #[.int .i64 3] 3)) := (Chg.new _ _).alloc _
  have hw : (w.alloc (.cells #[.int .u8 6, .int .u8 1] 5)).heap.size = w.heap.size + 1 := by simp
  have h := rleRead_ok w.heap.size 0 2 2 ee eu 0 1 1 (some ⟨w.heap.size + 1, 0, none⟩) [3] (fun j => [6, 1].getD j 0) [1, 1, 1] ((w.alloc (.cells #[.int .u8 6, .int .u8 1] 5)).alloc (.cells #[.int .i64 3] 3))
    ⟨fun j hj => (by
      refine (Chg.new _ _).keep (new_cell rfl ?_) (fun h => h)
      rw [Nat.zero_add]
      have : j = 0 ∨ j = 1 := by omega
      rcases this with rfl | rfl <;> rfl), fun j => getD_lt (by decide) j, fun j hj => (by
      rw [List.getD_eq_getElem?_getD, List.getElem?_eq_none (by simpa using hj)]; rfl)⟩
    (hE.keep hc (fun h => h) (fun h => h)) (hT.keep hc (fun _ _ h => h.elim)) (by decide) (by decide) (by decide) (by simp; omega) (by simp; omega)
    (fun j hj => ⟨w.heap.size + 1, 0, rfl, by
      have : j = 0 := by simpa using hj
      subst this
      exact new_cell (by simp) rfl⟩) (by decide) (by decide) (by decide) (.inl rfl) awake_runs ⟨by decide, by decide, trivial⟩ (by decide)
  refine h.mono ?_
  rintro e w' ⟨v, rfl, hr, hc'⟩
  exact ⟨v, rfl, hr, hc.trans hc'⟩
end Go.Proofs.YtameepdbnnaaaaaGreatDoor
/- What is written is read. -/
namespace Go.Proofs.YtameepdbnnaaaaaGreatDoor
open Go Go.RowKit Go.Proofs.YtameepdbnnaaaaaGreatDoor.PFnRleRead Go.Proofs.YtameepdbnnaaaaaGreatDoorW.PrintWords Go.Proofs.YtameepdbnnaaaaaGreatDoorW.PrintMore
theorem R_cap {α : Type} {d : Kd α} {e : Nat} {w : World} {base : Nat} {ok : Nat → Prop} {A : Option Addr} {n c : Nat} {xs : List α} (h : Kd.R d e w base ok (.slice A n c) xs) : c ≤ 9223372036854775807 := by
  obtain ⟨inner, ho⟩ := Kd.R_own h
  rcases ho.2 with ⟨hv, -⟩ | ⟨g, cap, cur, hv, -, -, -, hm, -⟩
  · injection hv with _ _ hv
    omega
  · injection hv with _ _ hv
    unfold maxLen at hm
    omega
theorem fits_nil : ∀ ns : List Int, Fits ns [] → (∀ n ∈ ns, n = 0) ∧ takes ns [] = []
  | [], _ => ⟨fun n hn => (by cases hn), rfl⟩
  | n :: ns, h => by
    obtain ⟨h1, -, h3⟩ := h
    obtain ⟨g1, g2⟩ := fits_nil ns (by simpa using h3)
    have hn : n = 0 := by simp at h1; omega
    refine ⟨fun m hm => ?_, ?_⟩
    · rcases List.mem_cons.1 hm with rfl | hm
      · exact hn
      · exact g1 m hm
    · rw [takes]; simp [g2]
theorem read_any (how W bc : Nat) (ee eu : Addr) (c6 : Nat) (A6 bp : Option Addr) (ns : List Int) (bs : List Nat) (l : List S36) (w : World) (hE : Eofs w ee eu) (hT : Tabs w) (hg : 8 < w.heap.size)
    (hK : Kd.C (Kd.int .u8) w A6 (ints bs).length (ints bs)) (hc6 : (ints bs).length ≤ c6) (hc6b : c6 ≤ 9223372036854775807) (hb : ∀ x ∈ bs, x < 256) (hbl : bs.length ≤ 80000) (hne : l ≠ [] → bs ≠ []) (hruns : ∀ D L, StandB D 0 bs → bs.length ≤ L → Runs D L W 0 (allOf l))
    (hns : Kd.C (Kd.int .i64) w bp ns.length ns) (hnc : ns.length ≤ 1000000) (hW1 : 1 ≤ W) (hW2 : W ≤ 64) (hh : HowOk how W (allOf l)) (hf : Fits ns (allOf l)) (htot : (allOf l).length ≤ 10000000) :
    Calls Tryz.prog 5 #[.slice A6 (ints bs).length c6, .int .i64 W, .int .i64 how, .slice bp ns.length bc] w fun e w' =>
      ∃ v, e = .returned (.tuple #[v, .bool true]) ∧ Reads2 w' v (u64s (takes ns (allOf l))) ∧ Chg Nix w w' := by
  have hN : ∀ j (hj : j < ns.length), ∃ g o, bp = some ⟨g, o, none⟩ ∧ w.cell? ⟨g, o + j, none⟩ = some (.int .i64 ns[j]) := fun j hj => C_addr hns j hj
  by_cases h0 : bs = []
  · have hl : l = [] := Decidable.by_contra fun h => hne h h0
    subst h0 hl
    obtain ⟨g1, g2⟩ := fits_nil ns hf
    have h3 := rleRead_nil how W bc c6 A6 bp ns w hN hnc (by
      rcases hh with h | ⟨h, -⟩ | ⟨h, h1, -⟩ | h
      · exact .inl h
      · exact .inr (.inl h)
      · exact .inr (.inr (.inl ⟨h, h1⟩))
      · exact .inr (.inr (.inr h))) g1
    have e : takes ns (allOf []) = [] := g2
    rw [e]
    exact h3
  · obtain ⟨g, o, rfl, hgl, hD, hS⟩ := C_data hK hb h0
    rw [ints_len] at hc6 ⊢
    exact rleRead_ok g o bs.length c6 ee eu how W bc bp ns (fun j => bs.getD j 0) (allOf l) w hD hE hT hc6 hc6b (by omega) hg hgl hN hnc hW1 hW2 hh (hruns _ _ hS (Nat.le_refl _)) hf htot
end Go.Proofs.YtameepdbnnaaaaaGreatDoor
/- The law's walk. -/
namespace Go.Proofs.YtameepdbnnaaaaaGreatDoor
open Go Go.RowKit Go.Proofs.YtameepdbnnaaaaaGreatDoor.PFnRleRead Go.Proofs.YtameepdbnnaaaaaGreatDoorW.PrintWords Go.Proofs.YtameepdbnnaaaaaGreatDoorW.PrintMore
theorem same_ok (p q : Option Addr) (c d : Nat) (ys : List Int) (w : World) (hc : ys.length ≤ c) (hd : ys.length ≤ d) (hb : ys.length ≤ 1000000000) (h : Kd.C (Kd.int .u64) w p ys.length ys) (h2 : Kd.C (Kd.int .u64) w q ys.length ys) :
    Calls Tryz.prog 6 #[.slice p ys.length c, .slice q ys.length d] w fun e w' => e = .returned (.bool true) ∧ Chg Nix w w' := by
  obtain ⟨k, hk⟩ := (same_ev ys hb).get
  refine Calls.mono (laws_sameNumbers.calls k p c ys q d ys true w h hc h2 hd hk) ?_
  rintro e w' ⟨rfl, hd⟩
  exact ⟨rfl, Chg.ofBelow hd.below⟩
theorem takes_len : ∀ (ns : List Int) (vs : List Nat), (takes ns vs).length ≤ vs.length
  | [], vs => Nat.zero_le _
  | n :: ns, vs => by
    have := takes_len ns (vs.drop n.natAbs)
    rw [List.length_drop] at this
    rw [takes, List.length_append]
    split
    · rw [List.length_nil]; omega
    · rw [List.length_take]; omega
theorem ones_C (w : World) : Kd.C (Kd.int .u64) (w.alloc (.cells #[.int .u64 1, .int .u64 1, .int .u64 1] 30)) (some ⟨w.heap.size, 0, none⟩) (ints [1, 1, 1]).length (ints [1, 1, 1]) := by
  refine ⟨rfl, by decide, fun _ => ⟨_, rfl, fun j p hp => ⟨[.int .u64 p], rfl, rfl, fun i u hu => ?_⟩⟩⟩
  cases i with
  | succ i => simp at hu
  | zero =>
    have hu' : u = .int .u64 p := by simpa using hu.symm
    subst hu'
    rw [show (Kd.int .u64).sz = 1 from rfl, Nat.mul_one, Nat.add_zero, addr_add, Nat.zero_add]
    refine new_cell rfl ?_
    match j, hp with
    | 0, hp => have : p = 1 := by simpa [ints] using hp.symm
               subst this; rfl
    | 1, hp => have : p = 1 := by simpa [ints] using hp.symm
               subst this; rfl
    | 2, hp => have : p = 1 := by simpa [ints] using hp.symm
               subst this; rfl
    | j + 3, hp => simp [ints] at hp
theorem ones_ok (p : Option Addr) (c : Nat) (w : World) (hc : (ints [1, 1, 1]).length ≤ c) (h : Kd.C (Kd.int .u64) w p (ints [1, 1, 1]).length (ints [1, 1, 1])) :
    Calls Tryz.prog 6 #[.slice p (ints [1, 1, 1]).length c, .slice (some ⟨w.heap.size, 0, none⟩) 3 3] (w.alloc (.cells #[.int .u64 1, .int .u64 1, .int .u64 1] 30)) fun e w' => e = .returned (.bool true) ∧ Chg Nix w w' := by
  obtain ⟨k, hk⟩ := (same_ev (ints [1, 1, 1]) (by decide)).get
  have h2 := laws_sameNumbers.calls k p c (ints [1, 1, 1]) (some ⟨w.heap.size, 0, none⟩) 3 (ints [1, 1, 1]) true (w.alloc (.cells #[.int .u64 1, .int .u64 1, .int .u64 1] 30)) (Kd.C_below h (Chg.new w _).toBelow) hc (ones_C w) (by decide) hk
  refine Calls.mono h2 ?_
  rintro e w' ⟨rfl, hd⟩
  exact ⟨rfl, (Chg.new _ _).trans (Chg.ofBelow hd.below)⟩
set_option maxRecDepth 100000 in
set_option maxHeartbeats 1000000 in
theorem law_ok (l : List S36) (A0 : Option Addr) (c0 : Nat) (a1 a2 : Int) (ns : List Int) (A3 : Option Addr) (c3 : Nat) (ee eu : Addr) (w : World) (hr0 : Kd.C k36 w A0 l.length l) (hc0 : l.length ≤ c0) (hI : ∀ r ∈ l, IsRun r) (hr3 : Kd.C (Kd.int .i64) w A3 ns.length ns) (hc3 : ns.length ≤ c3) (hN : ∀ n ∈ ns, -9223372036854775808 ≤ n ∧ n ≤ 9223372036854775807) (hE : Eofs w ee eu) (hT : Tabs w) (hg : 8 < w.heap.size) :
    Calls Tryz.prog 3 #[.slice A0 l.length c0, .int .i64 a1, .int .i64 a2, .slice A3 ns.length c3] w fun e w' => e = .returned (.bool true) ∧ Chg Nix w w' := by
  obtain ⟨b, hb⟩ := fits_ev l
  obtain ⟨k, hk⟩ := hb.get
  have Hcall1 := Lib.hid (laws_zzFits5.calls k A0 c0 l b w hr0 hc0 hk)
  clear hb hk
  have H0 := Lib.hid hr0
  have H3 := Lib.hid hr3
  have HI := Lib.hid hI
  have HN := Lib.hid hN
  have HE := Lib.hid hE
  have HT := Lib.hid hT
  clear hr0 hr3 hI hN hE hT
  go_enter Tryz.func3, Tryz.ntmps3
  go_wp2_with fail
  refine Hcall1.out.mono ?_
  rintro e w1 ⟨rfl, hB1⟩
  have HC1 := Lib.hid (Chg.ofBelow hB1)
  clear hB1 Hcall1
  cases b with
  | false =>
    go_wp2_with fail
    go_ret
    exact ⟨rfl, HC1.out⟩
  | true =>
    by_cases hbig : (2147483647 : Int) < ns.length
    · go_wp2_with fail
      go_ret
      exact ⟨rfl, HC1.out⟩
    · have Hcall2 := Lib.hid (awake_ok ee eu w1 (HE.out.keep HC1.out (fun h => h) (fun h => h)) (HT.out.keep HC1.out (fun _ _ h => h.elim)) (Nat.lt_of_lt_of_le hg HC1.out.size))
      go_wp2_with fail
      refine Hcall2.out.mono ?_
      rintro e w2 ⟨v, rfl, hr2, hC2⟩
      obtain ⟨p2, c2, rfl, hc2, hK2⟩ := reads2_C hr2 (by decide)
      have HC2 := Lib.hid (HC1.out.trans hC2)
      have HK2 := Lib.hid hK2
      clear hr2 hC2 hK2 Hcall2 HC1
      have Hcall3 := Lib.hid (ones_ok p2 c2 w2 hc2 HK2.out)
      go_wp2_with fail
      refine Hcall3.out.mono ?_
      rintro e w3 ⟨rfl, hC3⟩
      have HC3 := Lib.hid (HC2.out.trans hC3)
      clear hC3 Hcall3 HC2 HK2 hc2
      obtain ⟨⟨all, fit⟩, hev, hfit⟩ := runsFit_ev l a1 HI.out
      obtain ⟨k, hk⟩ := hev.get
      have Hcall4 := Lib.hid (spec_RunsFit.calls k A0 c0 l a1 all fit w3 (Kd.C_below H0.out HC3.out.toBelow) hc0 hk)
      have Hfit := Lib.hid hfit
      clear hev hk hfit
      go_wp2_with fail
      refine Hcall4.out.mono ?_
      rintro e w4 ⟨v4, rfl, hR4, hB4⟩
      obtain ⟨A4, c4, rfl, hc4, hK4⟩ := Kd.R_reads hR4
      have HC4 := Lib.hid (HC3.out.trans (Chg.ofBelow hB4))
      have HK4 := Lib.hid hK4
      clear hR4 hB4 hK4 HC3 Hcall4
      cases fit with
      | false =>
        go_wp2_with fail
        go_ret
        exact ⟨rfl, HC4.out⟩
      | true =>
        obtain ⟨W, rfl, hW1, hW2, hL, hF, hall⟩ := Hfit.out rfl
        have hall' : all = ints (allOf l) := hall
        subst hall'
        by_cases h1 : a2 < 0
        · go_wp2_with fail
          go_ret
          exact ⟨rfl, HC4.out⟩
        · by_cases h2 : 3 < a2
          · go_wp2_with fail
            go_ret
            exact ⟨rfl, HC4.out⟩
          · have hlen := allOf_len W l hF
            have hlt := allOf_lt W l hF
            have hl1 : (allOf l).length ≤ 12000 := by omega
            have Hlt := Lib.hid hlt
            have HF := Lib.hid hF
            have hways : a2 = 0 ∨ a2 = 1 ∨ a2 = 2 ∨ a2 = 3 := by omega
            obtain ⟨⟨want, is⟩, hev, hb⟩ := batched_ev (allOf l) ns HN.out (by omega)
            obtain ⟨k, hk⟩ := hev.get
            have Hcall5 := Lib.hid (spec_Batched.calls k A4 c4 (ints (allOf l)) A3 c3 ns want is w4 HK4.out hc4 (Kd.C_below H3.out HC4.out.toBelow) hc3 hk)
            have Hb := Lib.hid hb
            clear hev hk hb hlen hlt hF
            have hgood : (∃ how : Nat, a2 = how ∧ HowOk how W (allOf l)) ∨ (a2 = 1 ∧ (15 : Int) < W) ∨ (a2 = 2 ∧ ¬ (W : Int) = 1) := by
              rcases hways with rfl | rfl | rfl | rfl
              · exact .inl ⟨0, rfl, .inl rfl⟩
              · by_cases h15 : (15 : Int) < W
                · exact .inr (.inl ⟨rfl, h15⟩)
                · exact .inl ⟨1, rfl, .inr (.inl ⟨rfl, by omega, fun v hv => Nat.lt_of_lt_of_le (Hlt.out v hv) (show 2 ^ W ≤ 2 ^ 15 from Nat.pow_le_pow_right (by decide) (by omega))⟩)⟩
              · by_cases h15 : (W : Int) = 1
                · have hW : W = 1 := by omega
                  exact .inl ⟨2, rfl, .inr (.inr (.inl ⟨rfl, hW, fun v hv => by have := Hlt.out v hv; rw [hW] at this; exact this⟩))⟩
                · exact .inr (.inr ⟨rfl, h15⟩)
              · exact .inl ⟨3, rfl, .inr (.inr (.inr rfl))⟩
            rcases hgood with ⟨how, rfl, hh⟩ | ⟨rfl, h15⟩ | ⟨rfl, h15⟩
            · have hhow : how = 0 ∨ (how = 1 ∧ ¬ (15 : Int) < W) ∨ (how = 2 ∧ W = 1) ∨ how = 3 := by
                rcases hh with h | ⟨h, h2, -⟩ | ⟨h, h2, -⟩ | h
                · exact .inl h
                · exact .inr (.inl ⟨h, by omega⟩)
                · exact .inr (.inr (.inl ⟨h, h2⟩))
                · exact .inr (.inr (.inr h))
              have Hh := Lib.hid hh
              clear hh h1 h2 hways
              rcases hhow with rfl | ⟨rfl, h15⟩ | ⟨rfl, rfl⟩ | rfl
              all_goals
                go_wp2_with fail
                refine Hcall5.out.mono ?_
                rintro e w5 ⟨v5, rfl, hR5, hB5⟩
                obtain ⟨A5, c5, rfl, hc5, hK5⟩ := Kd.R_reads hR5
                have HC5 := Lib.hid (HC4.out.trans (Chg.ofBelow hB5))
                have HK5 := Lib.hid hK5
                clear hR5 hB5 hK5 Hcall5
                cases is with
                | false =>
                  go_wp2_with fail
                  go_ret
                  exact ⟨rfl, HC5.out⟩
                | true =>
                  obtain ⟨h50, hfits, hwant⟩ := Hb.out rfl
                  have Hlen := Lib.hid (show ns.length ≤ 1000000 by omega)
                  clear h50
                  have hwant' : want = ints (takes ns (allOf l)) := hwant
                  subst hwant'
                  obtain ⟨bs, hev, hbs, hbl, hne, hruns⟩ := putRuns_ev _ hW1 hW2 l hL HI.out HF.out
                  obtain ⟨k, hk⟩ := hev.get
                  have Hcall6 := Lib.hid (spec_PutRuns.calls k A0 c0 l _ (ints bs) w5 (Kd.C_below H0.out HC5.out.toBelow) hc0 hk)
                  have Hfits := Lib.hid hfits
                  clear hev hk hfits hwant
                  go_wp2_with fail
                  refine Hcall6.out.mono ?_
                  rintro e w6 ⟨v6, rfl, hR6, hB6⟩
                  obtain ⟨A6, c6, rfl, hc6, hK6⟩ := Kd.R_reads hR6
                  have hcap := R_cap hR6
                  have HC6 := Lib.hid (HC5.out.trans (Chg.ofBelow hB6))
                  have HK5' := Lib.hid (Kd.C_below HK5.out hB6)
                  have hcall7 := read_any _ _ c3 ee eu c6 A6 A3 ns bs l w6 (HE.out.keep HC6.out (fun h => h) (fun h => h)) (HT.out.keep HC6.out (fun _ _ h => h.elim)) (Nat.lt_of_lt_of_le hg HC6.out.size) hK6 hc6 hcap hbs hbl hne hruns (Kd.C_below H3.out HC6.out.toBelow) (by have := Hlen.out; omega) hW1 hW2 Hh.out Hfits.out (by omega)
                  have Hcall7 := Lib.hid hcall7
                  clear hcall7 hR6 hK6 hB6 hcap Hcall6 hruns hne hbs
                  go_wp2_with fail
                  refine Hcall7.out.mono ?_
                  rintro e w7 ⟨v7, rfl, hr7, hC7⟩
                  have htl := takes_len ns (allOf l)
                  obtain ⟨p7, c7, rfl, hc7, hK7⟩ := reads2_C hr7 (by omega)
                  have HC7 := Lib.hid (HC6.out.trans hC7)
                  have Hcall8 := Lib.hid (same_ok p7 A5 c7 c5 (ints (takes ns (allOf l))) w7 hc7 hc5 (by rw [ints_len]; omega) hK7 (Kd.C_below HK5'.out hC7.toBelow))
                  clear hr7 hC7 hK7 htl Hcall7
                  go_wp2_with fail
                  refine Hcall8.out.mono ?_
                  rintro e w8 ⟨rfl, hC8⟩
                  have HC8 := Lib.hid (HC7.out.trans hC8)
                  clear hC8
                  go_wp2_with fail
                  go_ret
                  exact ⟨rfl, HC8.out⟩
            · go_wp2_with fail
              go_ret
              exact ⟨rfl, HC4.out⟩
            · have h15' : ((W : Int) != 1) = true := by simpa using h15
              go_wp2_with fail
              go_ret
              exact ⟨rfl, HC4.out⟩
end Go.Proofs.YtameepdbnnaaaaaGreatDoor
/- The argument of runs, opened. -/
namespace Go.Proofs.YtameepdbnnaaaaaGreatDoor
open Go Go.RowKit Go.ChangeShapes Go.WideShapes Go.ChangeAt Go.Proofs.YtameepdbnnaaaaaGreatDoor.PFnRleRead Go.Proofs.YtameepdbnnaaaaaGreatDoorW.PrintWords Go.Proofs.YtameepdbnnaaaaaGreatDoorW.PrintMore
theorem add_add' (a : Addr) (m i : Nat) : (a.add m).add i = a.add (m + i) := by
  unfold Addr.add
  by_cases hm : m = 0
  · subst hm; simp
  · by_cases hi : i = 0
    · subst hi; simp
    · simp [hm, hi, Nat.add_assoc]
theorem len3 {α : Type} (l : List α) (h : l.length = 3) : ∃ a b c, l = [a, b, c] := by
  match l, h with
  | [a, b, c], _ => exact ⟨a, b, c, rfl⟩
theorem choose_list {α : Type} {Q : Nat → α → Prop} : ∀ n, (∀ i, i < n → ∃ x, Q i x) → ∃ l : List α, l.length = n ∧ ∀ (i : Nat) (x : α), l[i]? = some x → Q i x
  | 0, _ => ⟨[], rfl, fun i x h => by simp at h⟩
  | n + 1, h => by
    obtain ⟨l, hl, hq⟩ := choose_list n (fun i hi => h i (by omega))
    obtain ⟨x, hx⟩ := h n (by omega)
    refine ⟨l ++ [x], by rw [List.length_append, hl]; rfl, fun i y hy => ?_⟩
    by_cases hi : i < n
    · rw [List.getElem?_append_left (by omega)] at hy
      exact hq i y hy
    · have hin : i < n + 1 := by
        have := (List.getElem?_eq_some_iff.1 hy).1
        rw [List.length_append, hl] at this
        exact this
      have : i = n := by omega
      subst this
      rw [List.getElem?_append_right (by omega), hl, Nat.sub_self] at hy
      have : x = y := by simpa using hy
      subst this; exact hx
section
variable {H : Type} {enc : TypeId × Value → H} {w : World} {base : Nat} {sp : Nat → Bool} {held : Bool}
/-- A row of numbers, as the print reads it. -/
theorem open_C {t e : TypeId} {k : IntKind} {fuel : Nat} {cs : List Value} {x : DataW H × List MemPlace} (ht : Tryz.prog.underlying t = some (.slice e)) (he : Tryz.prog.underlying e = some (.int k)) (hc : Tryz.prog.cellsOf e = 1)
    (h : DataW.trod enc Tryz.prog w base sp held fuel t cs = some x) : ∃ A c, ∃ xs : List Int, cs = [.slice A xs.length c] ∧ xs.length ≤ c ∧ Kd.C (Kd.int k) w A xs.length xs ∧ ∀ n ∈ xs, (Lit.int k n).wf = true := by
  rcases open_ints ht he hc h with ⟨rfl, -⟩ | ⟨a, len, cap, zs, rfl, -, hl, hm, hz, -, hcell, hwz⟩
  · exact ⟨none, 0, [], rfl, Nat.le_refl _, Kd.C_nil _ _, fun n hn => by cases hn⟩
  · have hlz : len ≤ zs.length := by rw [hz]; split <;> omega
    have hlt : (zs.take len).length = len := by rw [List.length_take]; omega
    refine ⟨some a, cap, zs.take len, by rw [hlt], by omega, ⟨rfl, by rw [hlt]; unfold maxLen at hm; omega, fun _ => ⟨a, rfl, fun j p hp => ⟨[.int k p], rfl, rfl, fun i u hu => ?_⟩⟩⟩, fun n hn => hwz n (List.mem_of_mem_take hn)⟩
    have hj : j < len := by rw [← hlt]; exact (List.getElem?_eq_some_iff.1 hp).1
    rw [List.getElem?_take_of_lt hj] at hp
    cases i with
    | succ i => simp at hu
    | zero =>
      have hu' : u = .int k p := by simpa using hu.symm
      subst hu'
      rw [show (Kd.int k).sz = 1 from rfl, Nat.mul_one, Nat.add_zero]
      have := hcell j (by omega)
      rw [List.getD_eq_getElem?_getD, hp] at this
      exact this
theorem wf_u64 {n : Int} (h : (Lit.int .u64 n).wf = true) : 0 ≤ n ∧ n < 18446744073709551616 := by
  simp [Lit.wf, IntKind.min, IntKind.max, IntKind.signed, IntKind.bits] at h
  omega
theorem wf_i64 {n : Int} (h : (Lit.int .i64 n).wf = true) : -9223372036854775808 ≤ n ∧ n ≤ 9223372036854775807 := by
  simp [Lit.wf, IntKind.min, IntKind.max, IntKind.signed, IntKind.bits] at h
  omega
theorem open_run {fuel : Nat} {cs : List Value} {x : DataW H × List MemPlace} (h : DataW.trod enc Tryz.prog w base sp held fuel 36 cs = some x) : ∃ r : S36, IsRun r ∧ k36.K w r cs := by
  obtain ⟨xs, n, -, -, hl, hxl, hf⟩ := DataW.trod_struct Tryz.underlying36 h
  have hl3 : cs.length = 3 := hl.trans (by kernel_rfl)
  have hx3 : xs.length = 3 := hxl
  obtain ⟨c0, c1, c2, rfl⟩ := len3 cs hl3
  have h0 := hf 0 _ rfl
  have h1 := hf 1 _ rfl
  have h2 := hf 2 _ rfl
  rw [List.getElem?_eq_getElem (by omega)] at h0 h1 h2
  obtain ⟨b, e0, -⟩ := DataW.trod_bool Tryz.underlying4 h0
  obtain ⟨m, e1, -, w1⟩ := DataW.trod_int Tryz.underlying3 h1
  obtain ⟨A, c, ys, e2, hc, hC, hw⟩ := open_C Tryz.underlying25 Tryz.underlying30 (by kernel_rfl) h2
  have s4 : Tryz.prog.cellsOf 4 = 1 := by kernel_rfl
  have s3 : Tryz.prog.cellsOf 3 = 1 := by kernel_rfl
  have s25 : Tryz.prog.cellsOf 25 = 1 := by kernel_rfl
  change ([c0, c1, c2].drop 0).take (Tryz.prog.cellsOf 4) = _ at e0
  change ([c0, c1, c2].drop 1).take (Tryz.prog.cellsOf 3) = _ at e1
  change ([c0, c1, c2].drop 2).take (Tryz.prog.cellsOf 25) = _ at e2
  rw [s4] at e0
  rw [s3] at e1
  rw [s25] at e2
  have f0 : c0 = .bool b := by simpa using e0
  have f1 : c1 = .int .i64 m := by simpa using e1
  have f2 : c2 = .slice A ys.length c := by simpa using e2
  subst f0 f1 f2
  exact ⟨⟨b, m, ys⟩, ⟨fun v hv => wf_u64 (hw v hv), wf_i64 w1⟩, k36_mk w ⟨b, m, ys⟩ hc hC⟩
theorem open_runs {fuel : Nat} {cs : List Value} {x : DataW H × List MemPlace} (h : DataW.trod enc Tryz.prog w base sp held fuel 22 cs = some x) : ∃ A c, ∃ l : List S36, cs = [.slice A l.length c] ∧ l.length ≤ c ∧ Kd.C k36 w A l.length l ∧ ∀ r ∈ l, IsRun r := by
  rcases DataW.trod_slice Tryz.underlying22 h with ⟨rfl, -⟩ | ⟨a, len, cap, elems, rest, n, -, rfl, -, -, hl, hm, hlen, hel, -, -⟩
  · exact ⟨none, 0, [], rfl, Nat.le_refl _, Kd.C_nil _ _, fun n hn => by cases hn⟩
  · have hsz : Tryz.prog.cellsOf 36 = 3 := by kernel_rfl
    have each : ∀ i, i < len → ∃ r : S36, IsRun r ∧ ∃ c : List Value, c.length = 3 ∧ k36.K w r c ∧ ∀ j u, c[j]? = some u → w.cell? (a.add (i * 3 + j)) = some u := by
      intro i hi
      have h1 := hel i hi
      rw [List.getElem?_eq_getElem (by omega), hsz, Option.bind_eq_some_iff] at h1
      obtain ⟨c, hc, hr⟩ := h1
      obtain ⟨r, hr1, hr2⟩ := open_run hr
      obtain ⟨-, hcl, hcc⟩ := World.cells?_some hc
      refine ⟨r, hr1, c, hcl, hr2, fun j u hu => ?_⟩
      have hj : j < 3 := by rw [← hcl]; exact (List.getElem?_eq_some_iff.1 hu).1
      have := hcc j hj
      rw [add_add', hu] at this
      exact this
    obtain ⟨l, hll, hq⟩ := choose_list len each
    refine ⟨some a, cap, l, by rw [hll], by omega, ⟨rfl, by rw [hll]; unfold maxLen at hm; omega, fun _ => ⟨a, rfl, fun j p hp => ?_⟩⟩, fun r hr => ?_⟩
    · obtain ⟨-, c, hc1, hc2, hc3⟩ := hq j p hp
      exact ⟨c, hc1, hc2, hc3⟩
    · obtain ⟨i, hi⟩ := List.getElem?_of_mem hr
      exact (hq i r hi).1
end
end Go.Proofs.YtameepdbnnaaaaaGreatDoor
