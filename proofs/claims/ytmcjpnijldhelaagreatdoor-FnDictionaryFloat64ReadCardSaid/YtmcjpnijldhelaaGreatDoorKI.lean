/- Part 9 of the proof: the texts PF, PG, PH, VA, VB, VC, joined. What each proves stands ahead of it. -/
import Derived.Test.YtmcjpnijldhelaaGreatDoorKH
import Derived.Test.YtmcjpnijldhelaaGreatDoorRX
import Derived.Test.YtmcjpnijldhelaaGreatDoorKG
import Derived.Below
import Derived.Shelf.Abstract
import Derived.Laws.AppendOwn
import Derived.Great.BuildSlice
set_option linter.unusedVariables false
set_option linter.unusedSimpArgs false
/- The plain law: runs as they are written stand as runs. -/
namespace Go.Proofs.YtmcjpnijldhelaaGreatDoor
open Go Go.RowKit Go.Proofs.YtmcjpnijldhelaaGreatDoor.PFnDictionaryFloat64Read Go.Proofs.YtmcjpnijldhelaaGreatDoorW.PrintWords Go.Proofs.YtmcjpnijldhelaaGreatDoorW.PrintMore
theorem packed_bit {vs bs : List Nat} {W M : Nat} {D : Nat → Nat} {q : Nat} (hW : 1 ≤ W) (h : Packed vs bs W M (8 * M)) (hT : vs.length * W = 8 * M) (hs : StandB D q bs) (j v t : Nat) (hj : vs[j]? = some v) (ht : t < W) : bitB D (8 * q + j * W + t) = v / 2 ^ t % 2 := by
  have hjl : j < vs.length := (List.getElem?_eq_some_iff.1 hj).1
  have hp : j * W + t < 8 * M := by
    rw [← hT]
    calc j * W + t < j * W + W := by omega
      _ = (j + 1) * W := by rw [Nat.succ_mul]
      _ ≤ vs.length * W := Nat.mul_le_mul_right _ hjl
  obtain ⟨p, hpe⟩ : ∃ p, p = j * W + t := ⟨_, rfl⟩
  rw [← hpe] at hp
  rw [show 8 * q + j * W + t = 8 * q + p by omega]
  have hb := h.bit p hp
  rw [decide_eq_true hp, Bool.true_and] at hb
  have e1 : p / W = j := by rw [hpe, Nat.mul_comm, Nat.mul_add_div (by omega), Nat.div_eq_of_lt ht, Nat.add_zero]
  have e2 : p % W = t := by rw [hpe, Nat.mul_comm, Nat.mul_add_mod, Nat.mod_eq_of_lt ht]
  unfold inBit at hb
  have hvj : vs.getD j 0 = v := by rw [List.getD_eq_getElem?_getD, hj]; rfl
  rw [e1, e2, hvj] at hb
  have hbl : p / 8 < bs.length := by rw [h.len]; omega
  have hD : D (q + p / 8) = bs.getD (p / 8) 0 := by
    rw [List.getD_eq_getElem?_getD, List.getElem?_eq_getElem hbl]
    exact hs _ _ (List.getElem?_eq_getElem hbl)
  unfold bitB
  rw [show (8 * q + p) / 8 = q + p / 8 by omega, show (8 * q + p) % 8 = p % 8 by omega, hD]
  rw [Nat.testBit_eq_decide_div_mod_eq, Nat.testBit_eq_decide_div_mod_eq] at hb
  have hb2 := decide_eq_decide.1 hb
  omega
theorem put_l2 (W : Nat) (hW2 : W ≤ 64) (l : List S53) (i : Nat) (hi : i ≤ 1000000) (r : S53) (v : Nat) (hv : r.f2 = [(v : Int)]) (res : List Int) : ∀ (m j : Nat) (done : List Nat), j + m = (W + 7) / 8 → done.length ≤ 1000000 + j →
    Ev (fun k => spec_PutRuns.l0 k (W : Int) (ints (done ++ leB (v / 256 ^ j) m)) l (l.length : Int) (i + 1 : Nat)) res →
    Ev (fun k => spec_PutRuns.l2 k (W : Int) (ints done) (j : Int) l (l.length : Int) (i : Int) r.f0 r.f1 r.f2) res := by
  have eW : Int.tdiv (RowKit.wrap64 ((W : Int) + 7)) 8 = (((W + 7) / 8 : Nat) : Int) := by
    rw [show (W : Int) + 7 = (W + 7 : Nat) by push_cast; rfl, w64 _ (by omega)]; rfl
  intro m
  induction m with
  | zero =>
    intro j done h hd hg
    rw [leB, List.append_nil] at hg
    refine .step (fun k => ?_) hg
    rw [spec_PutRuns.l2, eW, w64 _ (by omega), if_neg (by omega), show (i : Int) + 1 = (i + 1 : Nat) by push_cast; rfl, w64 (i + 1) (by omega)]
  | succ m ih =>
    intro j done h hd hg
    have e : leB (v / 256 ^ j) (m + 1) = (v / 256 ^ j % 256) :: leB (v / 256 ^ (j + 1)) m := by
      rw [leB, Nat.pow_succ, ← Nat.div_div_eq_div_mul]
    rw [e] at hg
    refine .step (fun k => ?_) (ih (j + 1) (done ++ [v / 256 ^ j % 256]) (by omega) (by rw [List.length_append, List.length_singleton]; omega) (by rw [List.append_assoc]; exact hg))
    have hsh : (shr .u64 (v : Int) ((8 * j : Nat) : Int)) % 256 = ((v / 256 ^ j % 256 : Nat) : Int) := by
      unfold shr
      rw [Int.toNat_natCast, show min (8 * j) IntKind.u64.bits = 8 * j by show min (8 * j) 64 = 8 * j; omega, show ((2 : Int) ^ (8 * j)) = ((2 ^ (8 * j) : Nat) : Int) by push_cast; rfl, ← Int.natCast_ediv, show (2 : Nat) ^ (8 * j) = 256 ^ j by rw [Nat.pow_mul]]
      rfl
    rw [spec_PutRuns.l2, eW, w64 _ (by omega), if_pos (by omega), hv, if_pos (by simp), show (8 : Int) * j = (8 * j : Nat) by push_cast; rfl, w64 (8 * j) (by omega), if_pos (Int.natCast_nonneg _), if_pos (by rw [ints_len]; omega), show rd [(v : Int)] 0 = v from rfl, hsh, show (j : Int) + 1 = (j + 1 : Nat) by push_cast; rfl, w64 (j + 1) (by omega), ints_app]
    rfl
theorem put_l1 (W c : Nat) (hW1 : 1 ≤ W) (hW2 : W ≤ 64) (l : List S53) (i : Nat) (hi : i ≤ 1000000) (r : S53) (hc : r.f1 = (c : Int)) (hcb : c ≤ 1000) (done : List Nat) (hd : done.length ≤ 10000000) (res : List Int) (vs bs : List Nat) (hp : Ev (fun k => spec_PackBits.f k (ints vs) (W : Int)) (ints bs)) (hbs : bs.length ≤ 10000000) (hvs : vs.length = 8 * c)
    (hg : Ev (fun k => spec_PutRuns.l0 k (W : Int) (ints (done ++ bs)) l (l.length : Int) (i + 1 : Nat)) res) : ∀ (m : Nat) (x8 : List Nat), x8 ++ List.replicate m 0 = vs →
    Ev (fun k => spec_PutRuns.l1 k (W : Int) (ints done) (ints x8) l (l.length : Int) (i : Int) r.f0 r.f1 r.f2) res := by
  intro m
  induction m with
  | zero =>
    intro x8 h
    rw [List.replicate_zero, List.append_nil] at h
    subst h
    refine .step (fun k => ?_) (.bind (G := fun k t => if (ints done).length + t.length < 140737488355328 then spec_PutRuns.l0 k (W : Int) (ints done ++ t) l (l.length : Int) (RowKit.wrap64 ((i : Int) + 1)) else none) hp (.congr (fun k => ?_) hg))
    · rw [spec_PutRuns.l1, hc, show (8 : Int) * c = (8 * c : Nat) by push_cast; rfl, w64 _ (by omega), if_neg (by rw [ints_len]; omega)]
    · rw [if_pos (by rw [ints_len, ints_len]; omega), ints_app, show (i : Int) + 1 = (i + 1 : Nat) by push_cast; rfl, w64 (i + 1) (by omega)]
  | succ m ih =>
    intro x8 h
    have hl : x8.length + (m + 1) = 8 * c := by rw [← hvs, ← h, List.length_append, List.length_replicate]
    refine .step (fun k => ?_) (ih (x8 ++ [0]) (by rw [List.append_assoc]; exact h))
    rw [spec_PutRuns.l1, hc, show (8 : Int) * c = (8 * c : Nat) by push_cast; rfl, w64 _ (by omega), if_pos (by rw [ints_len]; omega), if_pos (by rw [ints_len]; omega), ints_app]
    rfl
end Go.Proofs.YtmcjpnijldhelaaGreatDoor
/- The plain law: runs as they are written stand as runs: all of them. -/
namespace Go.Proofs.YtmcjpnijldhelaaGreatDoor
open Go Go.RowKit Go.Proofs.YtmcjpnijldhelaaGreatDoor.PFnDictionaryFloat64Read Go.Proofs.YtmcjpnijldhelaaGreatDoorW.PrintWords Go.Proofs.YtmcjpnijldhelaaGreatDoorW.PrintMore
theorem or_one (c : Nat) : (2 * c) ||| 1 = 2 * c + 1 := by
  have := Nat.two_pow_add_eq_or_of_lt (i := 1) (b := 1) (by decide) c
  rw [Nat.pow_one] at this
  exact this.symm
theorem pow_bytes (W v : Nat) (h : v < 2 ^ W) : v < 256 ^ ((W + 7) / 8) := by
  refine Nat.lt_of_lt_of_le h ?_
  rw [show (256 : Nat) = 2 ^ 8 from rfl, ← Nat.pow_mul]
  exact Nat.pow_le_pow_right (by decide) (by omega)
theorem leB_lt : ∀ (n v : Nat), ∀ x ∈ leB v n, x < 256
  | 0, v, x, hx => by cases hx
  | n + 1, v, x, hx => by
    rw [leB] at hx
    rcases List.mem_cons.1 hx with rfl | hx
    · exact Nat.mod_lt _ (by decide)
    · exact leB_lt n _ x hx
theorem vlq_short (u : Nat) (hu : u ≤ 1000) : (vlq u).length ≤ 2 := (vlq_len 1 u (by omega)).2
theorem put_l0 (W : Nat) (hW1 : 1 ≤ W) (hW2 : W ≤ 64) (l : List S53) (hL : l.length ≤ 40) (hI : ∀ r ∈ l, IsRun r) (hF : ∀ r ∈ l, FitR W r) : ∀ (suf pre : List S53) (done : List Nat), pre ++ suf = l → done.length ≤ 2000 * pre.length →
    ∃ bs : List Nat, Ev (fun k => spec_PutRuns.l0 k (W : Int) (ints done) l (l.length : Int) (pre.length : Int)) (ints (done ++ bs)) ∧ (∀ x ∈ bs, x < 256) ∧ bs.length ≤ 2000 * suf.length ∧ (suf ≠ [] → bs ≠ []) ∧ ∀ D L q, StandB D q bs → q + bs.length ≤ L → Runs D L W q (allOf suf) := by
  intro suf
  induction suf with
  | nil =>
    intro pre done h hd
    rw [List.append_nil] at h
    subst h
    exact ⟨[], .now fun k => by rw [spec_PutRuns.l0, if_neg (by omega), List.append_nil], fun x hx => (by cases hx), Nat.zero_le _, fun h => absurd rfl h, fun D L q _ _ => .nil q⟩
  | cons r suf ih =>
    intro pre done h hd
    have hl : pre.length + suf.length + 1 = l.length := by rw [← h, List.length_append, List.length_cons]; omega
    have hrd : rd_T53 l (pre.length : Int) = r := by rw [← h]; exact rdT_app pre suf r
    have hI1 := hI r (by rw [← h]; simp)
    have hF1 := hF r (by rw [← h]; simp)
    have hc1 := hF1.c1
    obtain ⟨c, hc⟩ : ∃ c : Nat, r.f1 = c := ⟨r.f1.toNat, by omega⟩
    have hct : r.f1.toNat = c := by omega
    have hw : ∀ x : Nat, x ≤ 1000 → IntKind.u64.wrap (x : Int) = x := fun x hx => wrap64 _ (by omega) (by omega)
    have hstart : ∀ k, spec_PutRuns.l0 (k + 1) (W : Int) (ints done) l (l.length : Int) (pre.length : Int) = _ := fun k => by
      rw [spec_PutRuns.l0, if_pos (show (pre.length : Int) < l.length by omega), if_pos (show (0 : Int) ≤ pre.length by omega), if_pos (show (pre.length : Int) < l.length by omega), hrd]
    by_cases h0 : r.f0 = true
    · have hp := hF1.p h0
      have hnum : numsOf r = vals r ++ List.replicate (8 * c - (vals r).length) 0 := by unfold numsOf; rw [if_pos h0, hct]
      have hnl : (numsOf r).length = 8 * c := by rw [hnum, List.length_append, List.length_replicate, vals_len]; omega
      have hnv : ∀ v ∈ numsOf r, v < 2 ^ W := fun v hv => by
        rw [hnum] at hv
        rcases List.mem_append.1 hv with hv | hv
        · exact hF1.v v hv
        · rw [List.eq_of_mem_replicate hv]; exact Nat.two_pow_pos _
      have h64 : ∀ v ∈ numsOf r, v < 2 ^ 64 := fun v hv => Nat.lt_of_lt_of_le (hnv v hv) (Nat.pow_le_pow_right (by decide) hW2)
      obtain ⟨pb, hpb, hpk⟩ := packBits_ev (numsOf r) W c hW1 hW2 h64 hnl (by omega)
      have hcW : c * W ≤ 1280 := Nat.le_trans (Nat.mul_le_mul (show c ≤ 20 by omega) hW2) (by decide)
      have hvl := vlq_short (2 * c + 1) (by omega)
      obtain ⟨bs, hb1, hb2, hb3, -, hb4⟩ := ih (pre ++ [r]) (done ++ vlq (2 * c + 1) ++ pb) (by rw [List.append_assoc]; exact h) (by
        simp only [List.length_append, List.length_singleton, hpk.len]; omega)
      rw [List.length_append, List.length_singleton] at hb1
      have h1 := put_l1 W c hW1 hW2 l pre.length (by omega) r hc (by omega) (done ++ vlq (2 * c + 1)) (by rw [List.length_append]; omega) _ (numsOf r) pb hpb (by rw [hpk.len]; omega) hnl hb1 (8 * c - (vals r).length) (vals r) hnum.symm
      refine ⟨vlq (2 * c + 1) ++ (pb ++ bs), ?_, ?_, ?_, ?_, ?_⟩
      · rw [show done ++ (vlq (2 * c + 1) ++ (pb ++ bs)) = done ++ vlq (2 * c + 1) ++ pb ++ bs by simp only [List.append_assoc]]
        have hX : Go.bits .or .u64 (IntKind.u64.wrap (IntKind.u64.wrap r.f1 * 2)) 1 = ((2 * c + 1 : Nat) : Int) := by
          rw [hc, hw c (by omega), show (c : Int) * 2 = (2 * c : Nat) by push_cast; omega, hw _ (by omega), show (1 : Int) = ((1 : Nat) : Int) from rfl, u64_or_nat _ _ (by omega) (by decide), or_one]
        refine .step (fun k => (hstart k).trans (if_pos h0)) ?_
        rw [hX]
        refine .bind (putVlq_ev (2 * c + 1) (by omega)) (.congr (fun k => ?_) h1)
        rw [if_pos (by rw [ints_len, ints_len]; omega)]
        show (if ([] : List Int).length + r.f2.length < 17592186044416 then _ else _) = _
        rw [if_pos (by simp only [List.length_nil]; omega), ← ints_app, List.nil_append, ← hI1.ints]
      · intro x hx
        rcases List.mem_append.1 hx with hx | hx
        · exact vlq_byte 8 _ (by omega) x hx
        · rcases List.mem_append.1 hx with hx | hx
          · exact hpk.lt x hx
          · exact hb2 x hx
      · simp only [List.length_append, List.length_cons, hpk.len]; omega
      · intro _ hh
        have := vlq_pos (2 * c + 1)
        rw [(List.append_eq_nil_iff.1 hh).1] at this
        exact absurd this (by decide)
      · intro D L q hs hq
        simp only [List.length_append, hpk.len] at hq
        have hs2 := hs.app.2.app
        have hb5 := hb4 D L (q + (vlq (2 * c + 1)).length + c * W) (by have := hs2.2; rwa [hpk.len] at this) (by omega)
        exact Runs.put_lit (by omega) (by omega) hnl hnv hs.app.1 (fun j v t hj ht => packed_bit hW1 hpk (by rw [hnl, Nat.mul_assoc]) hs2.1 j v t hj ht) (by omega) hb5
    · have h0' : r.f0 = false := by simpa using h0
      have hq := hF1.q h0'
      obtain ⟨v, hv⟩ : ∃ v, vals r = [v] := List.length_eq_one_iff.1 (by rw [vals_len]; exact hq.2)
      have hvW : v < 2 ^ W := hF1.v v (by rw [hv]; simp)
      have hnum : numsOf r = List.replicate c v := by unfold numsOf; rw [if_neg h0, hct, hv]; rfl
      have hvl := vlq_short (2 * c) (by omega)
      obtain ⟨bs, hb1, hb2, hb3, -, hb4⟩ := ih (pre ++ [r]) (done ++ vlq (2 * c) ++ leB v ((W + 7) / 8)) (by rw [List.append_assoc]; exact h) (by
        simp only [List.length_append, List.length_singleton, leB_length]; omega)
      rw [List.length_append, List.length_singleton] at hb1
      have h2 := put_l2 W hW2 l pre.length (by omega) r v (by rw [hI1.ints, hv]; rfl) _ ((W + 7) / 8) 0 (done ++ vlq (2 * c)) (by omega) (by rw [List.length_append]; omega) (by rw [Nat.pow_zero, Nat.div_one]; exact hb1)
      refine ⟨vlq (2 * c) ++ (leB v ((W + 7) / 8) ++ bs), ?_, ?_, ?_, ?_, ?_⟩
      · rw [show done ++ (vlq (2 * c) ++ (leB v ((W + 7) / 8) ++ bs)) = done ++ vlq (2 * c) ++ leB v ((W + 7) / 8) ++ bs by simp only [List.append_assoc]]
        have hX : IntKind.u64.wrap (IntKind.u64.wrap r.f1 * 2) = ((2 * c : Nat) : Int) := by
          rw [hc, hw c (by omega), show (c : Int) * 2 = (2 * c : Nat) by push_cast; omega, hw _ (by omega)]
        refine .step (fun k => (hstart k).trans (if_neg h0)) ?_
        rw [hX]
        refine .bind (putVlq_ev (2 * c) (by omega)) (.congr (fun k => ?_) h2)
        rw [if_pos (by rw [ints_len, ints_len]; omega), ← ints_app]
        rfl
      · intro x hx
        rcases List.mem_append.1 hx with hx | hx
        · exact vlq_byte 8 _ (by omega) x hx
        · rcases List.mem_append.1 hx with hx | hx
          · exact leB_lt _ _ x hx
          · exact hb2 x hx
      · simp only [List.length_append, List.length_cons, leB_length]; omega
      · intro _ hh
        have := vlq_pos (2 * c)
        rw [(List.append_eq_nil_iff.1 hh).1] at this
        exact absurd this (by decide)
      · intro D L q hs hq
        simp only [List.length_append, leB_length] at hq
        rw [← List.append_assoc] at hs
        have hs2 := hs.app
        rw [List.length_append, leB_length, ← Nat.add_assoc] at hs2
        have hb5 := hb4 D L (q + (vlq (2 * c)).length + (W + 7) / 8) hs2.2 (by omega)
        show Runs D L W q (numsOf r ++ allOf suf)
        rw [hnum]
        exact Runs.put_rep (by omega) (by omega) (pow_bytes W v hvW) hs2.1 (by omega) hb5
theorem putRuns_ev (W : Nat) (hW1 : 1 ≤ W) (hW2 : W ≤ 64) (l : List S53) (hL : l.length ≤ 40) (hI : ∀ r ∈ l, IsRun r) (hF : ∀ r ∈ l, FitR W r) :
    ∃ bs : List Nat, Ev (fun k => spec_PutRuns.f k l (W : Int)) (ints bs) ∧ (∀ x ∈ bs, x < 256) ∧ bs.length ≤ 80000 ∧ (l ≠ [] → bs ≠ []) ∧ ∀ D L, StandB D 0 bs → bs.length ≤ L → Runs D L W 0 (allOf l) := by
  obtain ⟨bs, h1, h2, h3, h4, h5⟩ := put_l0 W hW1 hW2 l hL hI hF l [] [] rfl (Nat.zero_le _)
  exact ⟨bs, h1, h2, by omega, h4, fun D L hs hl => h5 D L 0 hs (by omega)⟩
theorem allOf_len (W : Nat) : ∀ l : List S53, (∀ r ∈ l, FitR W r) → (allOf l).length ≤ 300 * l.length
  | [], _ => Nat.zero_le _
  | r :: l, hF => by
    have h1 := numsOf_len (hF r (by simp))
    have h2 := allOf_len W l (fun x hx => hF x (by simp [hx]))
    show (numsOf r ++ allOf l).length ≤ _
    rw [List.length_append, List.length_cons]; omega
end Go.Proofs.YtmcjpnijldhelaaGreatDoor
/- Rows of the print and rows of mine. -/
namespace Go.Proofs.YtmcjpnijldhelaaGreatDoor
open Go Go.RowKit Go.Proofs.YtmcjpnijldhelaaGreatDoor.PFnDictionaryFloat64Read Go.Proofs.YtmcjpnijldhelaaGreatDoorW.PrintWords Go.Proofs.YtmcjpnijldhelaaGreatDoorW.PrintMore
theorem Chg.ofBelow {w w' : World} (h : Below w.heap.size w w') : Chg Nix w w' :=
  ⟨h.os, h.tape, h.output, h.size, fun k hk _ => h.block k hk, fun k o hk _ => by unfold World.cell?; rw [h.block k hk], fun k o hk => by unfold World.frozen?; rw [h.block k hk]⟩
theorem Chg.toBelow {w w' : World} (h : Chg Nix w w') : Below w.heap.size w w' := h.below (Nat.le_refl _) (fun _ _ _ h => h)
theorem spot_none {w : World} {ad : Addr} {v : Value} (h : w.cell? ad = some v) : ad = ⟨ad.block, ad.off, none⟩ := by
  obtain ⟨g, o, s⟩ := ad
  cases s with
  | none => rfl
  | some x =>
    unfold World.cell? at h
    split at h
    · simp at h
    · cases h
theorem C_addr {k : IntKind} {w : World} {A : Option Addr} {xs : List Int} (h : Kd.C (Kd.int k) w A xs.length xs) (j : Nat) (hj : j < xs.length) : ∃ g o, A = some ⟨g, o, none⟩ ∧ w.cell? ⟨g, o + j, none⟩ = some (.int k xs[j]) := by
  obtain ⟨ad, e, hc⟩ := h.2.2 (by omega)
  have hat : ∀ i (hi : i < xs.length), w.cell? (ad.add i) = some (.int k xs[i]) := fun i hi => by
    obtain ⟨c, hl, hr, hcell⟩ := hc i xs[i] (List.getElem?_eq_getElem hi)
    have hr' : c = [.int k xs[i]] := hr
    subst hr'
    have := hcell 0 _ rfl
    rw [show (Kd.int k).sz = 1 from rfl, Nat.mul_one, Nat.add_zero] at this
    exact this
  have h0 := hat 0 (by omega)
  have hz : ad.add 0 = ad := rfl
  rw [hz] at h0
  have hs := spot_none h0
  refine ⟨ad.block, ad.off, by rw [e, ← hs], ?_⟩
  have := hat j hj
  rw [hs] at this
  rwa [addr_add] at this
end Go.Proofs.YtmcjpnijldhelaaGreatDoor
/- Float64s as values. -/
namespace Go.Proofs.YtmcjpnijldhelaaGreatDoor
open Go Go.RowKit
/-- The cells of a value that is a number. -/
def vcell (b : Nat) : List Value := [.bool false, .int .u64 b, .string ⟨#[]⟩, .slice none 0 0]
def vcells (l : List Nat) : List Value := l.flatMap vcell
theorem vcells_len (l : List Nat) : (vcells l).length = l.length * 4 := by
  induction l with
  | nil => rfl
  | cons b l ih => rw [vcells, List.flatMap_cons, List.length_append, ← vcells, ih, List.length_cons]; simp [vcell]; omega
theorem vcells_app (l m : List Nat) : vcells (l ++ m) = vcells l ++ vcells m := List.flatMap_append ..
theorem bits_run (b : Nat) (w : World) : (callFunc 69 #[.float .f64 b]).run Tryz.prog w = .ok (.value (.int .u64 (b : Int))) w := by kernel_rfl
theorem infoV : (Tryz.prog.info? 35).map (fun i => (i.zero, i.size, i.bytes)) = some (some (.agg #[(.bool false), (.int .u64 0), (.string ⟨#[]⟩), (.slice none 0 0)]), 4, 56) := by kernel_rfl
set_option maxRecDepth 100000 in
set_option maxHeartbeats 1000000 in
theorem valueF_ok (b : Nat) (w : World) : Calls Tryz.prog 44 #[.float .f64 b] w fun e w' => e = .returned (.agg #[.bool false, .int .u64 b, .string ⟨#[]⟩, .slice none 0 0]) ∧ Below w.heap.size w w' := by
  have Hb := bits_run
  go_enter Tryz.func44, Tryz.ntmps44
  go_wp2_with fail
  refine bodyPost_ret (results_cell_row rfl _ _ w.heap.size 35 _ (0, 0) _ rfl (heap_alloc_new w _) Tryz.underlying35 rfl (by kernel_rfl)) rfl ?_
  exact ⟨rfl, (Chg.new w _).toBelow⟩
theorem ownsRow_chg {w w' : World} {base : Nat} {e : TypeId} {sz n : Nat} {v : Value} {xs : List Value} (h : w.ownsRow base e sz v n xs) (hc : Chg Nix w w') : w'.ownsRow base e sz v n xs := by
  refine ⟨h.1, ?_⟩
  rcases h.2 with hn | ⟨g, cap, cur, hv, hb, hg, rest⟩
  · exact .inl hn
  · exact .inr ⟨g, cap, cur, hv, hb, (hc.block g (Array.getElem?_eq_some_iff.1 hg).1 (fun _ h => h)).trans hg, rest⟩
theorem ownsRow_slice {w : World} {base : Nat} {e : TypeId} {sz n : Nat} {v : Value} {xs : List Value} (h : w.ownsRow base e sz v n xs) : ∃ p c, v = .slice p n c ∧ n ≤ c := by
  rcases h.2 with ⟨rfl, rfl⟩ | ⟨g, cap, cur, rfl, hb, hg, hnc, rest⟩
  · exact ⟨none, 0, rfl, Nat.le_refl _⟩
  · exact ⟨_, cap, rfl, hnc⟩
set_option maxRecDepth 100000 in
set_option maxHeartbeats 1000000 in
theorem valued_ok (l : List Nat) (p : Option Addr) (c : Nat) (w : World) (hr : Reads w (.slice p l.length c) (l.map (Value.float .f64))) (hl : l.length ≤ 1000000) (he : ∀ (args : Array Value) (w : World), (callFunc 44 args).run Tryz.prog w = .ok (.enter 44 args) w) :
    Calls Tryz.prog 43 #[.slice p l.length c, .func (.func 44) #[] #[]] w fun e w' => ∃ v, e = .returned v ∧ w'.ownsRow w.heap.size 35 4 v l.length (vcells l) ∧ Below w.heap.size w w' := by
  have Hr := Lib.hid hr
  clear hr
  go_enter Tryz.func43, Tryz.ntmps43
  go_wp2_with fail
  go_loopw [5, 10] (fun v i wx => ∃ k v5, k ≤ l.length ∧ i = .int .i64 (k : Nat) ∧ v5 = v ∧ wx.ownsRow w.heap.size 35 4 v5 k (vcells (l.take k)) ∧ Below w.heap.size w wx) (fun _ i _ => l.length - (intOf i).toNat)
  case atStart => exact ⟨0, _, Nat.zero_le _, rfl, rfl, World.ownsRow_nil _ _ _ _, Below.refl _ _⟩
  case round =>
    obtain ⟨k, v5, hk, rfl, rfl, hO, hB⟩ := hrel
    have HO := Lib.hid hO
    have HB := Lib.hid hB
    clear hO hB
    by_cases hkl : k < l.length
    · obtain ⟨p', c', hpe, hp⟩ := Hr.out
      obtain ⟨rfl, -, rfl⟩ : p = p' ∧ l.length = (l.map (Value.float .f64)).length ∧ c = c' := by injection hpe with h1 h2 h3; exact ⟨h1, h2, h3⟩
      obtain ⟨g, o, rfl, hcell⟩ := hp.resolve_left (by intro e; have := congrArg List.length e; rw [List.length_map, List.length_nil] at this; omega)
      have hc0 := hcell k (.float .f64 l[k]) (by rw [List.getElem?_map, List.getElem?_eq_getElem hkl]; rfl)
      obtain ⟨b, hb⟩ : ∃ b, b = l[k] := ⟨_, rfl⟩
      rw [← hb] at hc0
      have hc1 : wr.cell? ⟨g, o + k, none⟩ = some (.float .f64 b) := by
        have := (Chg.ofBelow HB.out).keep hc0 (fun h => h)
        exact this
      have Hc := Lib.hid (valueF_ok b wr)
      have Hb2 := Lib.hid hb
      clear hcell hc0 hp hpe hb
      go_wp2_with fail
      refine Hc.out.mono ?_
      rintro e w2 ⟨rfl, hB2⟩
      have HB2 := Lib.hid hB2
      clear hB2
      have hw3 : Chg Nix wr (w2.alloc (.cells #[.bool false, .int .u64 b, .string ⟨#[]⟩, .slice none 0 0] 35)) := (Chg.ofBelow HB2.out).alloc _
      have HO3 := Lib.hid (ownsRow_chg HO.out hw3)
      have hlt : wr.heap.size ≤ w2.heap.size := HB2.out.size
      have hw3b : Below w.heap.size w (w2.alloc (.cells #[.bool false, .int .u64 b, .string ⟨#[]⟩, .slice none 0 0] 35)) := ((Chg.ofBelow HB.out).trans hw3).toBelow
      have HW3 := Lib.hid hw3b
      clear hw3 hw3b
      obtain ⟨i, hi, hz, hs1, hby⟩ := info_parts infoV
      go_wp2_with (at_builtin; go_must (refine (Go.wpList_append_own _ rfl (.tmp 14) (.tmp 18) 22 rfl w.heap.size 35 i _ 4 56 Tryz.underlying22 hi hz hs1 hby rfl (by omega) _ k (vcells (l.take k)) rfl HO3.out ⟨w2.heap.size, 0, none⟩ 1 1 (vcell b) rfl rfl ?c1 ?c2 ?c3 ?c4 ?c5 ?_)))
      case c1 =>
        intro j u hu
        rw [addr_add, Nat.zero_add]
        exact fresh_cell rfl (by simpa [vcell] using hu)
      case c2 => intro u hu; simp [vcell] at hu; rcases hu with rfl | rfl | rfl | rfl <;> rfl
      case c3 => unfold maxLen; omega
      case c4 => omega
      case c5 => exact HW3.out.size
      intro v' w' hO' hG' _
      obtain ⟨p', c', rfl, -⟩ := ownsRow_slice hO'
      have hB' : Below w.heap.size w w' := HW3.out.grown hG' HW3.out.size (fun g hg => (World.ownsRow.lt HO3.out g hg).1)
      have hO2 : w'.ownsRow w.heap.size 35 4 (.slice p' (k + 1) c') (k + 1) (vcells (l.take (k + 1))) := by
        rw [List.take_succ_eq_append_getElem hkl, vcells_app, ← Hb2.out]
        simpa [vcells] using hO'
      have HO2 := Lib.hid hO2
      have HB' := Lib.hid hB'
      clear hO' hG' hB' hO2 HO3 HW3 HO HB
      go_wp2_with fail
      go_roundw
      case rel => exact ⟨k + 1, _, by omega, by go_num, rfl, HO2.out, HB'.out⟩
      case measure => simp [intOf]; omega
    · have hke : k = l.length := by omega
      subst hke
      rw [List.take_length] at HO
      go_wp2_with fail
      go_ret
      exact ⟨_, rfl, HO.out, HB.out⟩
end Go.Proofs.YtmcjpnijldhelaaGreatDoor
/- Values as bytes. -/
namespace Go.Proofs.YtmcjpnijldhelaaGreatDoor
open Go Go.RowKit Go.Proofs.YtmcjpnijldhelaaGreatDoor.PFnDictionaryFloat64Read Go.Proofs.YtmcjpnijldhelaaGreatDoorW.PrintWords Go.Proofs.YtmcjpnijldhelaaGreatDoorW.PrintMore
/-- The type of float64s. -/
def tyF : Value := .agg #[.int .i64 3, .int .i64 64, .bool false, .int .i64 0, .int .i64 0, .int .i64 0, .string ⟨#[]⟩, .bool false, .slice none 0 0, .slice none 0 0]
/-- A value's cells at a place of a row. -/
theorem val_at {w : World} {A : Option Addr} {l : List S35} (h : Kd.C k35 w A l.length l) (k : Nat) (hk : k < l.length) : ∃ g o A3 c3, A = some ⟨g, o, none⟩ ∧ w.cell? ⟨g, o + k * 4, none⟩ = some (.bool l[k].f0) ∧ w.cell? ⟨g, o + k * 4 + 1, none⟩ = some (.int .u64 l[k].f1) ∧ w.cell? ⟨g, o + k * 4 + 2, none⟩ = some (.string l[k].f2) ∧ w.cell? ⟨g, o + k * 4 + 3, none⟩ = some (.slice A3 l[k].f3.length c3) := by
  obtain ⟨ad, A3, c3, rfl, h0, h1, h2, h3, -⟩ := at_T35 h (k : Int) (by omega) (by omega)
  have hr : rd_T35 l (k : Int) = l[k] := by
    unfold rd_T35
    rw [Int.toNat_natCast, List.getD_eq_getElem?_getD, List.getElem?_eq_getElem hk]; rfl
  rw [hr] at h0 h1 h2 h3
  rw [Int.toNat_natCast] at h0 h1 h2 h3
  obtain ⟨ad', -, -, he, h0', -⟩ := at_T35 h (0 : Int) (by omega) (by omega)
  obtain rfl : ad = ad' := by injection he
  have hs0 := spot_none h0'
  have hn : ad = ⟨ad.block, ad.off, none⟩ := by
    have e : ad.add ((0 : Int).toNat * 4) = ad := by unfold Addr.add; simp
    rw [e] at hs0
    exact hs0
  generalize hg : ad.block = g at hn
  generalize hof : ad.off = o at hn
  subst hn
  rw [addr_add] at h0 h1 h2 h3
  exact ⟨g, o, A3, c3, rfl, h0, h1, h2, h3⟩
set_option maxRecDepth 100000 in
set_option maxHeartbeats 1000000 in
theorem bits_ok (w : World) : Calls Tryz.prog 58 #[tyF] w fun e w' => e = .returned (.tuple #[.int .i64 64, .bool false]) ∧ Below w.heap.size w w' := by
  unfold tyF
  go_enter Tryz.func58, Tryz.ntmps58
  go_wp2_with fail
  go_ret2
  exact ⟨rfl, (Chg.new w _).toBelow⟩
/-- The bytes of a number. -/
def b8 (l : List Nat) : List Value := l.map fun x : Nat => Value.int .u8 (x : Int)
theorem infoB : (Tryz.prog.info? 5).map (fun i => (i.zero, i.size, i.bytes)) = some (some (.int .u8 0), 1, 1) := by kernel_rfl
theorem shr_byte (b k : Nat) : IntKind.u8.wrap ((b : Int) / 2 ^ (8 * k)) = (b / 256 ^ k % 256 : Nat) := by
  have e : ((b : Int) / 2 ^ (8 * k)) = ((b / 256 ^ k : Nat) : Int) := by
    rw [show (256 : Nat) = 2 ^ 8 from rfl, ← Nat.pow_mul]; norm_cast
  rw [e, IntKind.wrap_u8, Int.natCast_emod]; rfl
theorem leB_snoc (v k : Nat) : leB v (k + 1) = leB v k ++ [v / 256 ^ k % 256] := by
  refine List.ext_getElem? fun j => ?_
  by_cases h1 : j < k
  · rw [leB_get _ _ _ (by omega), List.getElem?_append_left (by rw [leB_length]; exact h1), leB_get _ _ _ h1]
  · by_cases h2 : j = k
    · subst h2
      rw [leB_get _ _ _ (by omega), List.getElem?_append_right (by rw [leB_length]; omega), leB_length, Nat.sub_self]; rfl
    · rw [List.getElem?_eq_none (by rw [leB_length]; omega), List.getElem?_eq_none (by rw [List.length_append, leB_length, List.length_singleton]; omega)]
theorem ownsRow_base {w : World} {base base' : Nat} {e : TypeId} {sz n : Nat} {v : Value} {xs : List Value} (h : w.ownsRow base e sz v n xs) (hb : base' ≤ base) : w.ownsRow base' e sz v n xs := by
  refine ⟨h.1, ?_⟩
  rcases h.2 with hn | ⟨g, cap, cur, hv, hg0, rest⟩
  · exact .inl hn
  · exact .inr ⟨g, cap, cur, hv, by omega, rest⟩
set_option maxRecDepth 100000 in
set_option maxHeartbeats 1000000 in
theorem plainBytes_ok (b : Nat) (nl : Bool) (tx : ByteArray) (kp : Option Addr) (kn kc : Nat) (w : World) : Calls Tryz.prog 31 #[tyF, .agg #[.bool nl, .int .u64 b, .string tx, .slice kp kn kc]] w fun e w' => ∃ v, e = .returned v ∧ w'.ownsRow w.heap.size 5 1 v 8 (b8 (leB b 8)) ∧ Below w.heap.size w w' := by
  have Hbits := Lib.hid bits_ok
  unfold tyF at *
  go_enter Tryz.func31, Tryz.ntmps31
  go_wp2_with fail
  obtain ⟨w1, hw1⟩ : ∃ w1, w1 = (w.alloc (.cells #[.int .i64 3, .int .i64 64, .bool false, .int .i64 0, .int .i64 0, .int .i64 0, .string ⟨#[]⟩, .bool false, .slice none 0 0, .slice none 0 0] 32)).alloc (.cells #[.bool nl, .int .u64 b, .string tx, .slice kp kn kc] 35) := ⟨_, rfl⟩
  have k1 : w1.cell? ⟨w.heap.size + 1, 1, none⟩ = some (.int .u64 b) := by rw [hw1]; exact fresh_cell (by simp) rfl
  have hb1 : Below w.heap.size w w1 := by rw [hw1]; exact (((Chg.refl Nix w).alloc _).alloc _).toBelow
  have hs1 : w1.heap.size = w.heap.size + 2 := by rw [hw1]; simp
  rw [← hw1]
  refine (Hbits.out w1).mono ?_
  rintro e w2 ⟨rfl, hb2⟩
  have k2 := (Chg.ofBelow hb2).keep k1 (fun h => h)
  have hB2 := Lib.hid (hb1.trans (hb2.mono (by omega)))
  have hs2 := hb2.size
  clear hw1 k1 hb1 hb2 Hbits
  go_wp2_with fail
  go_loopw [7, 8] (fun v i wx => ∃ k v7, k ≤ 8 ∧ i = .int .i64 (k : Nat) ∧ v7 = v ∧ wx.ownsRow w2.heap.size 5 1 v7 k (b8 (leB b k)) ∧ Below w2.heap.size w2 wx) (fun _ i _ => 8 - (intOf i).toNat)
  case atStart => exact ⟨0, _, Nat.zero_le _, rfl, rfl, World.ownsRow_nil _ _ _ _, Below.refl _ _⟩
  case round =>
    obtain ⟨k, v7, hk, rfl, rfl, hO, hB⟩ := hrel
    have HO := Lib.hid hO
    have HB := Lib.hid hB
    have k3 := (Chg.ofBelow hB).keep k2 (fun h => h)
    clear hO hB
    by_cases hk8 : k < 8
    · have hsh := shr_byte b k
      have h8k : (8 : Int) * k ≤ 64 := by omega
      obtain ⟨x, hx⟩ : ∃ x : Nat, x = b / 256 ^ k % 256 := ⟨_, rfl⟩
      rw [← hx] at hsh
      have HX := Lib.hid hx
      have hw3 : Chg Nix wr (wr.alloc (.cells #[.int .u8 x] 5)) := (Chg.refl _ _).alloc _
      have HO3 := Lib.hid (ownsRow_chg HO.out hw3)
      have HW3 := Lib.hid (((Chg.ofBelow HB.out).trans hw3).toBelow)
      clear hw3 hx
      obtain ⟨i, hi, hz, hs1', hby⟩ := info_parts infoB
      go_wp2_with (at_builtin; go_must (refine (Go.wpList_append_own _ rfl (.tmp 23) (.tmp 30) 24 rfl w2.heap.size 5 i _ 1 1 Tryz.underlying24 hi hz hs1' hby rfl (by omega) _ k (b8 (leB b k)) rfl HO3.out ⟨wr.heap.size, 0, none⟩ 1 1 [.int .u8 x] rfl rfl ?c1 ?c2 ?c3 ?c4 ?c5 ?_)))
      case c1 =>
        intro j u hu
        rw [addr_add, Nat.zero_add]
        exact fresh_cell rfl (by simpa using hu)
      case c2 => intro u hu; simp at hu; subst hu; rfl
      case c3 => unfold maxLen; omega
      case c4 => omega
      case c5 => exact HW3.out.size
      intro v' w' hO' hG' _
      obtain ⟨p', c', rfl, -⟩ := ownsRow_slice hO'
      have hB' : Below w2.heap.size w2 w' := HW3.out.grown hG' HW3.out.size (fun g hg => (World.ownsRow.lt HO3.out g hg).1)
      have hO2 : w'.ownsRow w2.heap.size 5 1 (.slice p' (k + 1) c') (k + 1) (b8 (leB b (k + 1))) := by
        have e : b8 (leB b (k + 1)) = b8 (leB b k) ++ [.int .u8 x] := by
          rw [HX.out, leB_snoc]; unfold b8; rw [List.map_append]; rfl
        rw [e]
        exact hO'
      have HO2 := Lib.hid hO2
      have HB' := Lib.hid hB'
      clear hO' hG' hB' hO2 HO3 HW3 HO HB
      go_wp2_with fail
      go_roundw
      case rel => exact ⟨k + 1, _, by omega, by go_num, rfl, HO2.out, HB'.out⟩
      case measure => simp [intOf]; omega
    · have hke : k = 8 := by omega
      subst hke
      go_wp2_with fail
      go_ret
      exact ⟨_, rfl, ownsRow_base HO.out (by omega), hB2.out.trans (HB.out.mono (by omega))⟩
end Go.Proofs.YtmcjpnijldhelaaGreatDoor
/- Values: whether they fit, whether they are the same. -/
namespace Go.Proofs.YtmcjpnijldhelaaGreatDoor
open Go Go.RowKit Go.Proofs.YtmcjpnijldhelaaGreatDoor.PFnDictionaryFloat64Read Go.Proofs.YtmcjpnijldhelaaGreatDoorW.PrintWords Go.Proofs.YtmcjpnijldhelaaGreatDoorW.PrintMore
/-- A plain value: not null, no text, no kids. -/
def PlainV (v : S35) : Prop := v.f0 = false ∧ v.f2 = ⟨#[]⟩ ∧ v.f3 = []
theorem noText {x : ByteArray} (h : (!x.toList.isEmpty) = false) : x = ⟨#[]⟩ := by
  have h1 : x.toList = [] := by cases hx : x.toList with
    | nil => rfl
    | cons a l => rw [hx] at h; cases h
  rw [ByteArray.toList_eq] at h1
  obtain ⟨⟨l⟩⟩ := x
  obtain rfl : l = [] := h1
  rfl
set_option maxRecDepth 100000 in
set_option maxHeartbeats 1000000 in
theorem oneFits_ok (b : Int) (tx : ByteArray) (kp : Option Addr) (kn kc : Nat) (w : World) : Calls Tryz.prog 35 #[tyF, .agg #[.bool false, .int .u64 b, .string tx, .slice kp kn kc]] w fun e w' => ∃ r, e = .returned (.bool r) ∧ (r = true → kn = 0 ∧ tx = ⟨#[]⟩) ∧ Below w.heap.size w w' := by
  have Hbits := Lib.hid bits_ok
  unfold tyF at *
  by_cases hk : 0 < kn
  · have hk' : (0 : Int) < kn := by omega
    go_enter Tryz.func35, Tryz.ntmps35
    go_wp2_with fail
    go_ret
    exact ⟨false, rfl, (fun h => by cases h), (((Chg.refl Nix w).alloc _).alloc _).toBelow⟩
  · have hk0 : kn = 0 := by omega
    subst hk0
    go_enter Tryz.func35, Tryz.ntmps35
    go_wp2_with fail
    obtain ⟨w1, hw1⟩ : ∃ w1, w1 = (w.alloc (.cells #[.int .i64 3, .int .i64 64, .bool false, .int .i64 0, .int .i64 0, .int .i64 0, .string ⟨#[]⟩, .bool false, .slice none 0 0, .slice none 0 0] 32)).alloc (.cells #[.bool false, .int .u64 b, .string tx, .slice kp 0 kc] 35) := ⟨_, rfl⟩
    have k1 : ∀ (i : Nat) (v : Value), #[.bool false, .int .u64 b, .string tx, .slice kp 0 kc][i]? = some v → w1.cell? ⟨w.heap.size + 1, i, none⟩ = some v := fun i v hv => by rw [hw1]; exact fresh_cell (by simp) hv
    have hb1 : Below w.heap.size w w1 := by rw [hw1]; exact (((Chg.refl Nix w).alloc _).alloc _).toBelow
    have hs1 : w1.heap.size = w.heap.size + 2 := by rw [hw1]; simp
    rw [← hw1]
    refine (Hbits.out w1).mono ?_
    rintro e w2 ⟨rfl, hb2⟩
    have c1 : w2.cell? ⟨w.heap.size + 1, 1, none⟩ = some (.int .u64 b) := (Chg.ofBelow hb2).keep (k1 1 _ rfl) (fun h => h)
    have c2 : w2.cell? ⟨w.heap.size + 1, 2, none⟩ = some (.string tx) := (Chg.ofBelow hb2).keep (k1 2 _ rfl) (fun h => h)
    have hB2 := Lib.hid (hb1.trans (hb2.mono (by omega)))
    clear hw1 k1 hb1 hb2 Hbits
    go_wp2_with fail
    · go_ret
      exact ⟨false, rfl, (fun h => by cases h), hB2.out⟩
    · obtain rfl : tx = ⟨#[]⟩ := noText (by assumption)
      have hz64 : IntKind.i64.wrap 0 = 0 := by decide
      (refine wp_region_txt [] (by kernel_rfl) (by kernel_rfl) ?_; repeat (first | (refine wpTxt_pure rfl rfl (fun K hK => ?_); go_simp; refine hK _ ?_; clear hK K) | (refine wpTxt_still rfl rfl (fun K hK => ?_); go_simp; refine hK _ ?_; clear hK K)))
      refine wpTxt_nil ?_
      go_wp2_with fail
      go_ret
      refine ⟨?_, hB2.out.drew⟩
      cases (IntKind.u64.wrap b == b) <;> simp
set_option maxRecDepth 100000 in
set_option maxHeartbeats 1000000 in
theorem sameNone_ok (p q : Option Addr) (c d : Nat) (w : World) : Calls Tryz.prog 16 #[.slice p 0 c, .slice q 0 d] w fun e w' => e = .returned (.bool true) ∧ w = w' := by
  go_enter Tryz.func16, Tryz.ntmps16
  go_wp2_with fail
  refine wp_loop_rounds 1 ?_
  rw [rounds_succ]
  go_wp2_with fail
  go_ret
  exact ⟨rfl, rfl⟩
end Go.Proofs.YtmcjpnijldhelaaGreatDoor
