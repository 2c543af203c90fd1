/- 'laws.FnBoolsRead': for every input the law returns true, and each argument and each named variable reads behind the call as it read before. The card ties the listed package-level variables to the program's text. No further condition. -/
import Derived.Test.YtflgbndhahcdnaaGreatDoorKF
import Derived.Test.YtflgbndhahcdnaaGreatDoorKS
import Derived.Test.YtflgbndhahcdnaaGreatDoorRows
import Derived.ChangeSlices
import Derived.Deep.Grids
import Derived.ProofKit
import Derived.LaidMore
import Derived.LaidLaws
import Derived.OpenShut
import Derived.OpenVars
import Derived.Lib.LaidTab
import Derived.Stop.LaidErr
import Derived.Stop.Joined
import Derived.Test.YtflgbndhahcdnaaGreatDoorTie
import Derived.Test.YtflgbndhahcdnaaGreatDoorCards
import Derived.SevenTiedAt
set_option linter.unusedVariables false
set_option linter.unusedSimpArgs false
/- The plain law of bools: as numbers, as bits, as one run. -/
namespace Go.Proofs.YtflgbndhahcdnaaGreatDoor
open Go Go.RowKit Go.Proofs.YtflgbndhahcdnaaGreatDoor.PFnBoolsRead Go.Proofs.YtflgbndhahcdnaaGreatDoorW.PrintWords Go.Proofs.YtflgbndhahcdnaaGreatDoorW.PrintMore
/-- Bools as numbers. -/
def nums (l : List Bool) : List Nat := l.map Bool.toNat
theorem nums_len (l : List Bool) : (nums l).length = l.length := List.length_map ..
theorem nums_app (l m : List Bool) : nums (l ++ m) = nums l ++ nums m := List.map_append ..
theorem nums_lt (l : List Bool) : ∀ v ∈ nums l, v < 2 := by
  intro v hv
  obtain ⟨b, -, rfl⟩ := List.mem_map.1 hv
  cases b <;> decide
theorem nums_get (l : List Bool) (j : Nat) : (nums l).getD j 0 = (l.getD j false).toNat := by
  unfold nums
  rw [List.getD_eq_getElem?_getD, List.getElem?_map, List.getD_eq_getElem?_getD]
  cases l[j]? <;> rfl
theorem rdOf_app (pre suf : List Bool) (x : Bool) : rdOf false (pre ++ x :: suf) (pre.length : Int) = x := by
  unfold rdOf
  rw [Int.toNat_natCast, List.getD_eq_getElem?_getD, List.getElem?_append_right (Nat.le_refl _), Nat.sub_self]; rfl
theorem asNumbers_l0 (vs : List Bool) (hb : vs.length ≤ 1000000000) : ∀ (suf pre : List Bool), pre ++ suf = vs → Ev (fun k => laws_asNumbers.l0 k (ints (nums pre)) vs (vs.length : Int) (pre.length : Int)) (ints (nums vs)) := by
  intro suf
  induction suf with
  | nil =>
    intro pre h
    rw [List.append_nil] at h
    subst h
    exact .now fun k => by rw [laws_asNumbers.l0, if_neg (by omega)]
  | cons x suf ih =>
    intro pre h
    have hl : pre.length + suf.length + 1 = vs.length := by rw [← h, List.length_append, List.length_cons]; omega
    have hr : rdOf false vs (pre.length : Int) = x := by rw [← h]; exact rdOf_app pre suf x
    have := ih (pre ++ [x]) (by rw [List.append_assoc]; exact h)
    rw [List.length_append, List.length_singleton, nums_app, ints_app] at this
    refine .step (fun k => ?_) this
    have hn : RowKit.wrap64 ((pre.length : Int) + 1) = ((pre.length + 1 : Nat) : Int) := by rw [show (pre.length : Int) + 1 = (pre.length + 1 : Nat) by push_cast; rfl, w64 _ (by omega)]
    have hi : (ints (nums pre)).length < 17592186044416 := by rw [ints_len, nums_len]; omega
    rw [laws_asNumbers.l0, if_pos (by omega), if_pos (by omega), if_pos (by omega), hr]
    cases x with
    | true => rw [if_pos rfl, if_pos hi, hn]; rfl
    | false => rw [if_neg (by decide), if_pos hi, hn]; rfl
theorem asNumbers_ev (vs : List Bool) (hb : vs.length ≤ 1000000000) : Ev (fun k => laws_asNumbers.f k vs) (ints (nums vs)) := asNumbers_l0 vs hb vs [] rfl
theorem inBit_one (vs : List Bool) (p : Nat) : inBit (nums vs) 1 p = vs.getD p false := by
  unfold inBit
  rw [Nat.div_one, Nat.mod_one, nums_get]
  cases vs.getD p false <;> rfl
theorem packed_l0 (vs : List Bool) (hb : vs.length ≤ 1000000) (M : Nat) (hM : vs.length ≤ 8 * M) : ∀ (suf pre : List Bool) (bs : List Nat), pre ++ suf = vs → Packed (nums vs) bs 1 M pre.length →
    ∃ bs', Ev (fun k => spec_Packed.l0 k 0 (ints bs) vs (vs.length : Int) (pre.length : Int)) (ints bs') ∧ Packed (nums vs) bs' 1 M vs.length := by
  intro suf
  induction suf with
  | nil =>
    intro pre bs h hp
    rw [List.append_nil] at h
    subst h
    exact ⟨bs, .now fun k => by rw [spec_Packed.l0, if_neg (by omega)], hp⟩
  | cons x suf ih =>
    intro pre bs h hp
    have hl : pre.length + suf.length + 1 = vs.length := by rw [← h, List.length_append, List.length_cons]; omega
    obtain ⟨i, hi⟩ : ∃ i, i = pre.length := ⟨_, rfl⟩
    have hr : rdOf false vs (pre.length : Int) = x := by rw [← h]; exact rdOf_app pre suf x
    have hx : inBit (nums vs) 1 i = x := by
      rw [inBit_one, ← h, hi, List.getD_eq_getElem?_getD, List.getElem?_append_right (Nat.le_refl _), Nat.sub_self]; rfl
    have e3 : Int.tdiv (i : Int) 8 = ((i / 8 : Nat) : Int) := rfl
    have e4 : Int.tmod (i : Int) 8 = ((i % 8 : Nat) : Int) := rfl
    rw [← hi] at hp hr hl
    have hnext : RowKit.wrap64 ((i : Int) + 1) = ((i + 1 : Nat) : Int) := by rw [show (i : Int) + 1 = (i + 1 : Nat) by push_cast; rfl, w64 _ (by omega)]
    cases x with
    | false =>
      obtain ⟨bs', h1, h2⟩ := ih (pre ++ [false]) bs (by rw [List.append_assoc]; exact h) (by rw [List.length_append, List.length_singleton, ← hi]; exact hp.step0 hx)
      rw [List.length_append, List.length_singleton, ← hi] at h1
      rw [← hi]
      refine ⟨bs', .step (fun k => ?_) h1, h2⟩
      rw [spec_Packed.l0, if_pos (by omega), if_pos (by omega), if_pos (by omega), hr, if_neg (by decide), hnext]
    | true =>
      obtain ⟨bs', h1, h2⟩ := ih (pre ++ [true]) _ (by rw [List.append_assoc]; exact h) (by rw [List.length_append, List.length_singleton, ← hi]; exact hp.step1 (by omega) hx)
      rw [List.length_append, List.length_singleton, ← hi] at h1
      rw [← hi]
      refine ⟨bs', .step (fun k => ?_) h1, h2⟩
      have h2 : (2 : Nat) ^ (i % 8) < 2 ^ 8 := Nat.pow_lt_pow_right (by decide) (Nat.mod_lt _ (by decide))
      have hsh : shl .u8 1 ((i % 8 : Nat) : Int) = ((2 ^ (i % 8) : Nat) : Int) := by
        unfold shl
        rw [Int.toNat_natCast, show min (i % 8) IntKind.u8.bits = i % 8 by show min (i % 8) 8 = i % 8; omega, Int.one_mul, show ((2 : Int) ^ (i % 8)) = ((2 ^ (i % 8) : Nat) : Int) by push_cast; rfl]
        exact IntWalk.u8_in _ ⟨Int.natCast_nonneg _, (by show ((2 ^ (i % 8) : Nat) : Int) ≤ ((255 : Nat) : Int); exact Int.ofNat_le.2 (Nat.le_of_lt_succ h2))⟩
      rw [spec_Packed.l0, if_pos (by omega), if_pos (by omega), if_pos (by omega), hr, if_pos rfl, Int.zero_add, w64 i (by omega), e3, e4, w64 (i / 8) (by omega), if_pos (Int.natCast_nonneg _), if_pos (by rw [ints_len, hp.len]; omega), if_pos (Int.natCast_nonneg _), rd_ints bs (i / 8), hsh, u8_or_nat _ _ (getD_lt hp.lt _) h2, Int.toNat_natCast, set_ints, hnext]
theorem packed_ev (vs : List Bool) (hb : vs.length ≤ 1000000) : ∃ bs, Ev (fun k => spec_Packed.f k vs 0) (ints bs) ∧ bs.length = (vs.length + 7) / 8 ∧ (∀ x ∈ bs, x < 256) ∧ ∀ j, j < vs.length → (bs.getD (j / 8) 0).testBit (j % 8) = vs.getD j false := by
  obtain ⟨M, hM⟩ : ∃ M, M = (vs.length + 7) / 8 := ⟨_, rfl⟩
  obtain ⟨bs, h1, h2⟩ := packed_l0 vs hb M (by omega) vs [] (List.replicate M 0) rfl ⟨List.length_replicate, fun x hx => by rw [List.eq_of_mem_replicate hx]; decide, fun p hp => by
    rw [List.getD_eq_getElem?_getD, List.getElem?_replicate, if_pos (by omega)]; simp⟩
  refine ⟨bs, .congr (fun k => ?_) h1, by rw [h2.len, hM], h2.lt, fun j hj => ?_⟩
  · have e : Int.tdiv ((vs.length + 7 : Nat) : Int) 8 = (M : Int) := by rw [hM]; rfl
    unfold spec_Packed.f
    rw [Int.zero_add, w64 _ (by omega), show (vs.length : Int) + 7 = (vs.length + 7 : Nat) by push_cast; rfl, w64 _ (by omega), e, w64 _ (by omega), if_pos (by omega), if_pos (by omega), Int.toNat_natCast]
    unfold ints
    rw [List.map_replicate]
    rfl
  · rw [h2.bit j (by omega), decide_eq_true hj, Bool.true_and, inBit_one]
/-- Four bytes of length ahead. -/
def ahead (bs : List Nat) : List Nat := [bs.length % 256, bs.length / 256 % 256, bs.length / 65536 % 256, bs.length / 16777216 % 256] ++ bs
theorem behind_ev (bs : List Nat) (hb : bs.length ≤ 1000000) : laws_behind.f (ints bs) = some (ints (ahead bs)) := by
  unfold laws_behind.f
  show (if ([_, _, _, _] : List Int).length + (ints bs).length < 140737488355328 then _ else _) = _
  rw [if_pos (by rw [ints_len]; simp; omega), ints_len]
  rfl
theorem ahead_len (bs : List Nat) : (ahead bs).length = 4 + bs.length := by unfold ahead; rw [List.length_append]; rfl
theorem ahead_lt (bs : List Nat) (h : ∀ x ∈ bs, x < 256) : ∀ x ∈ ahead bs, x < 256 := by
  intro x hx
  rcases List.mem_append.1 hx with hx | hx
  · simp at hx; omega
  · exact h x hx
theorem ahead_le (bs : List Nat) (hb : bs.length ≤ 1000000) : leV (fun j => (ahead bs).getD j 0) 0 4 = bs.length := by
  simp only [leV, ahead, List.getD_eq_getElem?_getD]
  simp
  omega
theorem ahead_tail (bs : List Nat) (j : Nat) : (ahead bs).getD (4 + j) 0 = bs.getD j 0 := by
  unfold ahead
  rw [List.getD_eq_getElem?_getD, List.getElem?_append_right (by simp), show 4 + j - _ = j from by simp, ← List.getD_eq_getElem?_getD]
/-- One run. -/
theorem putOne_ev (vs : List Nat) (c : Nat) (hc1 : 1 ≤ c) (hcb : c ≤ 200) (hv : ∀ v ∈ vs, v < 2) (hl : vs.length ≤ 8 * c) : ∃ bs : List Nat, Ev (fun k => spec_PutRuns.f k [⟨true, (c : Int), ints vs⟩] 1) (ints bs) ∧ (∀ x ∈ bs, x < 256) ∧ 1 ≤ bs.length ∧ bs.length ≤ 1000 ∧ ∀ D L, StandB D 0 bs → bs.length ≤ L → Runs D L 1 0 (vs ++ List.replicate (8 * c - vs.length) 0) := by
  obtain ⟨full, hfull⟩ : ∃ full, full = vs ++ List.replicate (8 * c - vs.length) 0 := ⟨_, rfl⟩
  have hfl : full.length = 8 * c := by rw [hfull, List.length_append, List.length_replicate]; omega
  have hfv : ∀ v ∈ full, v < 2 ^ 1 := fun v hv' => by
    rw [hfull] at hv'
    rcases List.mem_append.1 hv' with hv' | hv'
    · exact hv v hv'
    · rw [List.eq_of_mem_replicate hv']; decide
  obtain ⟨pb, hpb, hpk⟩ := packBits_ev full 1 c (by decide) (by decide) (fun v hv' => Nat.lt_of_lt_of_le (hfv v hv') (by decide)) hfl (by omega)
  have hvl := vlq_short (2 * c + 1) (by omega)
  have hvp := vlq_pos (2 * c + 1)
  have hpl : pb.length = c := by rw [hpk.len, Nat.mul_one]
  rw [← hfull]
  obtain ⟨r, hr⟩ : ∃ r : S35, r = ⟨true, (c : Int), ints vs⟩ := ⟨_, rfl⟩
  have hr0 : r.f0 = true := by rw [hr]
  have hr1 : r.f1 = (c : Int) := by rw [hr]
  have hr2 : r.f2 = ints vs := by rw [hr]
  have hrd : rd_T35 [r] (0 : Int) = r := rfl
  rw [← hr]
  have hend : Ev (fun k => spec_PutRuns.l0 k ((1 : Nat) : Int) (ints (vlq (2 * c + 1) ++ pb)) [r] (([r] : List S35).length : Int) ((0 + 1 : Nat) : Int)) (ints (vlq (2 * c + 1) ++ pb)) := .now fun k => by rw [spec_PutRuns.l0, if_neg (by simp)]
  have h1 := put_l1 1 c (by decide) (by decide) [r] 0 (by omega) r hr1 (by omega) (vlq (2 * c + 1)) (by omega) _ full pb hpb (by omega) hfl hend (8 * c - vs.length) vs hfull.symm
  have hw : ∀ x : Nat, x ≤ 1000 → IntKind.u64.wrap (x : Int) = x := fun x hx => wrap64 _ (by omega) (by omega)
  refine ⟨vlq (2 * c + 1) ++ pb, ?_, ?_, ?_, ?_, ?_⟩
  · have hX : Go.bits .or .u64 (IntKind.u64.wrap (IntKind.u64.wrap r.f1 * 2)) 1 = ((2 * c + 1 : Nat) : Int) := by
      rw [hr1, hw c (by omega), show (c : Int) * 2 = (2 * c : Nat) by push_cast; omega, hw _ (by omega), show (1 : Int) = ((1 : Nat) : Int) from rfl, u64_or_nat _ _ (by omega) (by decide), or_one]
    unfold spec_PutRuns.f
    refine .step (fun k => by
      rw [spec_PutRuns.l0, if_pos (by simp), if_pos (by decide), if_pos (by simp), hrd, if_pos hr0, hX]) ?_
    refine .bind (putVlq_ev (2 * c + 1) (by omega)) (.congr (fun k => ?_) h1)
    rw [if_pos (by rw [ints_len]; simp; omega)]
    show (if ([] : List Int).length + r.f2.length < 17592186044416 then _ else _) = _
    rw [if_pos (by rw [hr2, ints_len]; simp only [List.length_nil]; omega), List.nil_append, List.nil_append, hr2]
    rfl
  · intro x hx
    rcases List.mem_append.1 hx with hx | hx
    · exact vlq_byte 8 _ (by omega) x hx
    · exact hpk.lt x hx
  · rw [List.length_append]; omega
  · rw [List.length_append]; omega
  · intro D L hs hq
    rw [List.length_append] at hq
    have hs2 := hs.app
    have := Runs.put_lit (D := D) (L := L) (W := 1) (q := 0) (n := c) (l := full) (vs := []) hc1 (by omega) hfl hfv hs2.1 (fun j v t hj ht => packed_bit (by decide) hpk (by rw [hfl]; omega) hs2.2 j v t hj ht) (by omega) (.nil _)
    rwa [List.append_nil] at this
theorem fits_N : ∀ (ns : List Int) (l : List Nat), Fits ns l → FitsN ns l.length
  | [], _, _ => trivial
  | n :: ns, l, ⟨h1, h2, h3⟩ => ⟨h1, h2, by have := fits_N ns _ h3; rwa [List.length_drop] at this⟩
theorem takes_nums : ∀ (ns : List Int) (vs : List Bool), takes ns (nums vs) = nums (takesB ns vs)
  | [], _ => rfl
  | n :: ns, vs => by
    have e : (nums vs).drop n.natAbs = nums (vs.drop n.natAbs) := by unfold nums; rw [List.map_drop]
    rw [takes, takesB, nums_app, e, takes_nums ns]
    congr 1
    split
    · rfl
    · unfold nums; rw [List.map_take]
theorem takesB_len : ∀ (ns : List Int) (vs : List Bool), (takesB ns vs).length ≤ vs.length
  | [], vs => Nat.zero_le _
  | n :: ns, vs => by
    have := takesB_len ns (vs.drop n.natAbs)
    rw [List.length_drop] at this
    rw [takesB, List.length_append]
    split
    · rw [List.length_nil]; omega
    · rw [List.length_take]; omega
/-- Packed bits are read as they should. -/
theorem howB_bits (how : Nat) (bs : List Nat) (vs : List Bool) (hh : how = 0 ∨ how = 1) (hl : bs.length = (vs.length + 7) / 8) (hb : ∀ j, j < vs.length → (bs.getD (j / 8) 0).testBit (j % 8) = vs.getD j false) : HowB how bs vs := .inl ⟨hh, by omega, hb⟩
theorem howB_runs (pb : List Nat) (vs : List Bool) (m : Nat) (h1 : 1 ≤ pb.length) (h2 : pb.length ≤ 1000000) (hr : ∀ D L, StandB D 0 pb → pb.length ≤ L → Runs D L 1 0 (nums vs ++ List.replicate m 0)) : HowB 2 (ahead pb) vs := by
  refine .inr ⟨rfl, pb.length, nums vs ++ List.replicate m 0, h1, ahead_len pb, ahead_le pb h2, ?_, ?_, fun j hj => ?_⟩
  · rw [show (fun j => (ahead pb).getD (4 + j) 0) = fun j => pb.getD j 0 from funext (ahead_tail pb)]
    exact hr _ _ (fun j v hv => by
      show pb.getD (0 + j) 0 = v
      rw [Nat.zero_add, List.getD_eq_getElem?_getD, hv]; rfl) (Nat.le_refl _)
  · rw [List.length_append, nums_len]; omega
  · rw [List.getD_eq_getElem?_getD, List.getElem?_append_left (by rw [nums_len]; exact hj), ← List.getD_eq_getElem?_getD, nums_get]
    cases vs.getD j false <;> rfl
theorem reads2_CB {w : World} {v : Value} {vs : List Bool} (h : Reads2 w v (bools vs)) (hb : vs.length ≤ 1000000000) : ∃ p c, v = .slice p vs.length c ∧ vs.length ≤ c ∧ Kd.C Kd.bool w p vs.length vs := by
  obtain ⟨p, c, rfl, hc, hp⟩ := h
  rw [bools_len] at hc
  refine ⟨p, c, by rw [bools_len], hc, rfl, by omega, fun hn => ?_⟩
  rcases hp with hp | ⟨g, o, rfl, hcell⟩
  · have := congrArg List.length hp
    rw [bools_len, List.length_nil] at this
    omega
  · refine ⟨_, rfl, fun j q hq => ⟨[.bool q], rfl, rfl, fun i u hu => ?_⟩⟩
    cases i with
    | succ i => simp at hu
    | zero =>
      have hu' : u = .bool q := by simpa using hu.symm
      subst hu'
      rw [show Kd.bool.sz = 1 from rfl, Nat.mul_one, Nat.add_zero, addr_add]
      refine hcell j _ ?_
      unfold bools
      rw [List.getElem?_map, hq]; rfl
end Go.Proofs.YtflgbndhahcdnaaGreatDoor
/- The law's walk: FnBoolsRead. -/
namespace Go.Proofs.YtflgbndhahcdnaaGreatDoor
open Go Go.RowKit Go.Proofs.YtflgbndhahcdnaaGreatDoor.PFnBoolsRead Go.Proofs.YtflgbndhahcdnaaGreatDoorW.PrintWords Go.Proofs.YtflgbndhahcdnaaGreatDoorW.PrintMore
theorem same_ok (p q : Option Addr) (c d : Nat) (ys : List Int) (w : World) (hc : ys.length ≤ c) (hd : ys.length ≤ d) (hb : ys.length ≤ 1000000000) (h : Kd.C (Kd.int .u64) w p ys.length ys) (h2 : Kd.C (Kd.int .u64) w q ys.length ys) :
    Calls Tryz.prog 10 #[.slice p ys.length c, .slice q ys.length d] w fun e w' => e = .returned (.bool true) ∧ Chg Nix w w' := by
  obtain ⟨k, hk⟩ := (same_ev ys hb).get
  refine Calls.mono (laws_sameNumbers.calls k p c ys q d ys true w h hc h2 hd hk) ?_
  rintro e w' ⟨rfl, hd⟩
  exact ⟨rfl, Chg.ofBelow hd.below⟩
theorem numbers_ok (A : Option Addr) (c : Nat) (l : List Bool) (w : World) (h : Kd.C Kd.bool w A l.length l) (hc : l.length ≤ c) (hb : l.length ≤ 1000000000) :
    Calls Tryz.prog 6 #[.slice A l.length c] w fun e w' => ∃ B d, e = .returned (.slice B (ints (nums l)).length d) ∧ (ints (nums l)).length ≤ d ∧ Kd.C (Kd.int .u64) w' B (ints (nums l)).length (ints (nums l)) ∧ Chg Nix w w' := by
  obtain ⟨k, hk⟩ := (asNumbers_ev l hb).get
  refine Calls.mono (laws_asNumbers.calls k A c l _ w h hc hk) ?_
  rintro e w' ⟨v, rfl, hR, hB⟩
  obtain ⟨B, d, rfl, hd, hK⟩ := Kd.R_reads hR
  exact ⟨B, d, rfl, hd, hK, Chg.ofBelow hB⟩
theorem one_C (k : IntKind) (x : Nat) (t : TypeId) (w : World) : Kd.C (Kd.int k) (w.alloc (.cells #[.int k (x : Int)] t)) (some ⟨w.heap.size, 0, none⟩) (ints [x]).length (ints [x]) := by
  refine ⟨rfl, by simp [ints], fun _ => ⟨_, rfl, fun j p hp => ⟨[.int k p], rfl, rfl, fun i u hu => ?_⟩⟩⟩
  cases i with
  | succ i => simp at hu
  | zero =>
    have hu' : u = .int k p := by simpa using hu.symm
    subst hu'
    rw [show (Kd.int k).sz = 1 from rfl, Nat.mul_one, Nat.add_zero, addr_add, Nat.zero_add]
    refine fresh_cell rfl ?_
    match j, hp with
    | 0, hp => have : p = x := by simpa [ints] using hp.symm
               subst this; rfl
    | j + 1, hp => simp [ints] at hp
theorem awake_ok (ee eu : Addr) (w : World) (hE : Eofs w ee eu) (hT : Tabs w) (hg : 5 < w.heap.size) :
    Calls Tryz.prog 4 #[.slice (some ⟨w.heap.size, 0, none⟩) 1 1, .int .i64 3, .int .i64 0, .slice (some ⟨w.heap.size + 1, 0, none⟩) 1 1] ((w.alloc (.cells #[.int .u8 5] 5)).alloc (.cells #[.int .i64 3] 3)) fun e w' =>
      ∃ g o c, e = .returned (.tuple #[.slice (some ⟨g, o, none⟩) 3 c, .bool true]) ∧ 3 ≤ c ∧ w'.cell? ⟨g, o, none⟩ = some (.bool true) ∧ w'.cell? ⟨g, o + 1, none⟩ = some (.bool false) ∧ w'.cell? ⟨g, o + 2, none⟩ = some (.bool true) ∧ Chg Nix w w' := by
  have hc : Chg Nix w ((w.alloc (.cells #[.int .u8 5] 5)).alloc (.cells #[.int .i64 3] 3)) := (Chg.new _ _).alloc _
  have hs : (w.alloc (.cells #[.int .u8 5] 5)).heap.size = w.heap.size + 1 := by simp
  have k0 := Kd.C_below (one_C .u8 5 5 w) (Chg.new (w.alloc (.cells #[.int .u8 ((5 : Nat) : Int)] 5)) (.cells #[.int .i64 3] 3)).toBelow
  have k1 := one_C .i64 3 3 (w.alloc (.cells #[.int .u8 5] 5))
  rw [hs] at k1
  have h := boolsRead_ok 0 1 1 _ _ ee eu [5] [true, false, true] (ints [3]) ((w.alloc (.cells #[.int .u8 5] 5)).alloc (.cells #[.int .i64 3] 3)) (hE.keep hc (fun h => h) (fun h => h)) (hT.keep hc (fun _ _ h => h.elim)) (by simp; omega) k0 (by decide) (by decide) (by decide) (by decide) (by decide) (.inl ⟨.inl rfl, by decide, by decide⟩) k1 (by decide) ⟨by decide, by decide, trivial⟩
  refine Calls.mono h ?_
  rintro e w' ⟨v, rfl, hr, hc'⟩
  obtain ⟨p, c, rfl, hcc, hp⟩ := hr
  rcases hp with hp | ⟨g, o, rfl, hcell⟩
  · cases hp
  · exact ⟨g, o, c, rfl, hcc, hcell 0 _ rfl, hcell 1 _ rfl, hcell 2 _ rfl, hc.trans hc'⟩
theorem run_C (c : Int) (xs : List Int) (B : Option Addr) (d : Nat) (w : World) (hd : xs.length ≤ d) (hK : Kd.C (Kd.int .u64) w B xs.length xs) : Kd.C k35 (w.alloc (.cells #[.bool true, .int .i64 c, .slice B xs.length d] 35)) (some ⟨w.heap.size, 0, none⟩) ([⟨true, c, xs⟩] : List S35).length [⟨true, c, xs⟩] := by
  refine ⟨rfl, by simp, fun _ => ⟨_, rfl, fun j p hp => ?_⟩⟩
  match j, hp with
  | j + 1, hp => simp at hp
  | 0, hp =>
    have hp' : p = ⟨true, c, xs⟩ := by simpa using hp.symm
    subst hp'
    refine ⟨[.bool true, .int .i64 c, .slice B xs.length d], rfl, k35_mk _ _ hd (Kd.C_below hK (Chg.new _ _).toBelow), fun i u hu => ?_⟩
    rw [Nat.zero_mul, addr_add]
    refine fresh_cell rfl ?_
    match i, hu with
    | 0, hu => simpa using hu
    | 1, hu => simpa using hu
    | 2, hu => simpa using hu
    | i + 3, hu => simp at hu
set_option maxRecDepth 100000 in
set_option maxHeartbeats 1000000 in
theorem law_ok (l : List Bool) (A0 : Option Addr) (c0 : Nat) (a1 : Int) (ns : List Int) (A2 : Option Addr) (c2 : Nat) (ee eu : Addr) (w : World) (hr0 : Kd.C Kd.bool w A0 l.length l) (hc0 : l.length ≤ c0) (hr2 : Kd.C (Kd.int .i64) w A2 ns.length ns) (hc2 : ns.length ≤ c2) (hN : ∀ n ∈ ns, -9223372036854775808 ≤ n ∧ n ≤ 9223372036854775807) (hE : Eofs w ee eu) (hT : Tabs w) (hg : 5 < w.heap.size) :
    Calls Tryz.prog 3 #[.slice A0 l.length c0, .int .i64 a1, .slice A2 ns.length c2] w fun e w' => e = .returned (.bool true) ∧ Chg Nix w w' := by
  have H0 := Lib.hid hr0
  have H2 := Lib.hid hr2
  have HN := Lib.hid hN
  have HE := Lib.hid hE
  have HT := Lib.hid hT
  have hcw := Lib.hid (awake_ok ee eu w hE hT hg)
  clear hr0 hr2 hN hE hT
  go_enter Tryz.func3, Tryz.ntmps3
  by_cases hb0 : (2147483647 : Int) < l.length
  · go_wp2_with fail
    go_ret
    exact ⟨rfl, Chg.refl _ _⟩
  by_cases hb2 : (2147483647 : Int) < ns.length
  · go_wp2_with fail
    go_ret
    exact ⟨rfl, Chg.refl _ _⟩
  go_wp2_with fail
  refine hcw.out.mono ?_
  rintro e w1 ⟨g, o, c, rfl, hgc, y0, y1, y2, hC1⟩
  have HC1 := Lib.hid hC1
  clear hC1 hcw
  by_cases h1 : a1 < 0
  · go_wp2_with fail
    go_ret
    exact ⟨rfl, HC1.out⟩
  by_cases h2 : 2 < a1
  · go_wp2_with fail
    go_ret
    exact ⟨rfl, HC1.out⟩
  by_cases h3 : l = []
  · subst h3
    go_wp2_with fail
    go_ret
    exact ⟨rfl, HC1.out⟩
  have h3a : ¬ (l.length : Int) = 0 := by have := List.length_pos_iff.2 h3; omega
  have h3b : ((l.length : Int) == 0) = false := beq_eq_false_iff_ne.2 h3a
  by_cases h4 : (1000 : Int) < l.length
  · go_wp2_with fail
    go_ret
    exact ⟨rfl, HC1.out⟩
  have hcn := Lib.hid (numbers_ok A0 c0 l w1 (Kd.C_below H0.out HC1.out.toBelow) hc0 (by omega))
  go_wp2_with fail
  refine hcn.out.mono ?_
  rintro e w2 ⟨B2, d2, rfl, hd2, hK2, hC2⟩
  have HC2 := Lib.hid (HC1.out.trans hC2)
  have HK2 := Lib.hid hK2
  clear hC2 hK2 hcn HC1
  obtain ⟨⟨want, is⟩, hev, hb⟩ := batched_ev (nums l) ns HN.out (by rw [nums_len]; omega)
  obtain ⟨k, hk⟩ := hev.get
  have Hcall := Lib.hid (spec_Batched.calls k B2 d2 (ints (nums l)) A2 c2 ns want is w2 HK2.out hd2 (Kd.C_below H2.out HC2.out.toBelow) hc2 hk)
  have Hb := Lib.hid hb
  clear hev hk hb
  go_wp2_with fail
  refine Hcall.out.mono ?_
  rintro e w3 ⟨v3, rfl, hR3, hB3⟩
  obtain ⟨A3, c3, rfl, hc3, hK3⟩ := Kd.R_reads hR3
  have HC3 := Lib.hid (HC2.out.trans (Chg.ofBelow hB3))
  have HK3 := Lib.hid hK3
  clear hR3 hB3 hK3 Hcall HK2 HC2
  cases is with
  | false =>
    go_wp2_with fail
    go_ret
    exact ⟨rfl, HC3.out⟩
  | true =>
  obtain ⟨h50, hfits, hwant⟩ := Hb.out rfl
  have hfitN := fits_N _ _ hfits
  rw [nums_len] at hfitN
  have HfN := Lib.hid hfitN
  have Hlen := Lib.hid (show ns.length ≤ 1000000 by omega)
  have hwant' : want = ints (nums (takesB ns l)) := by rw [← takes_nums]; exact hwant
  subst hwant'
  clear h50 hfits hwant hfitN Hb
  obtain ⟨bs, hev, hbl, hbs, hbit⟩ := packed_ev l (by omega)
  obtain ⟨k, hk⟩ := hev.get
  have hlp := List.length_pos_iff.2 h3
  have Hcall := Lib.hid (spec_Packed.calls k A0 c0 l 0 (ints bs) w3 (Kd.C_below H0.out HC3.out.toBelow) hc0 hk)
  have Hbit := Lib.hid hbit
  clear hev hk hbit
  go_wp2_with fail
  refine Hcall.out.mono ?_
  rintro e w4 ⟨v4, rfl, hR4, hB4⟩
  obtain ⟨A4, c4, rfl, hc4, hK4⟩ := Kd.R_reads hR4
  have HC4 := Lib.hid (HC3.out.trans (Chg.ofBelow hB4))
  have HK4 := Lib.hid hK4
  have HK3' := Lib.hid (Kd.C_below HK3.out hB4)
  clear hR4 hB4 hK4 Hcall HK3 HC3
  have hways : a1 = 0 ∨ a1 = 1 ∨ a1 = 2 := by omega
  have hgl := Nat.lt_of_lt_of_le hg HC4.out.size
  rcases hways with rfl | rfl | rfl
  · have Hcall := Lib.hid (boolsRead_ok 0 c2 c4 A4 A2 ee eu bs l ns w4 (HE.out.keep HC4.out (fun h => h) (fun h => h)) (HT.out.keep HC4.out (fun _ _ h => h.elim)) hgl HK4.out hc4 hbs (by intro hh; rw [hh] at hbl; simp at hbl; omega) (by omega) (by omega) (howB_bits 0 bs l (.inl rfl) hbl Hbit.out) (Kd.C_below H2.out HC4.out.toBelow) Hlen.out HfN.out)
    go_wp2_with fail
    refine Hcall.out.mono ?_
    rintro e w7 ⟨v7, rfl, hr7, hC7⟩
    have htl := takesB_len ns l
    obtain ⟨p7, c7, rfl, hc7, hK7⟩ := reads2_CB hr7 (by omega)
    have HC7 := Lib.hid (HC4.out.trans hC7)
    have Hcall8 := Lib.hid (numbers_ok p7 c7 _ w7 hK7 hc7 (by omega))
    have HK7 := Lib.hid (Kd.C_below HK3'.out hC7.toBelow)
    clear hr7 hC7 hK7 Hcall HK3' HC4
    go_wp2_with fail
    refine Hcall8.out.mono ?_
    rintro e w8 ⟨B8, d8, rfl, hd8, hK8, hC8⟩
    have HC8 := Lib.hid (HC7.out.trans hC8)
    have Hcall9 := Lib.hid (same_ok B8 A3 d8 c3 _ w8 hd8 hc3 (by rw [ints_len, nums_len]; omega) hK8 (Kd.C_below HK7.out hC8.toBelow))
    clear hC8 hK8 Hcall8
    go_wp2_with fail
    refine Hcall9.out.mono ?_
    rintro e w9 ⟨rfl, hC9⟩
    have HC9 := Lib.hid (HC8.out.trans hC9)
    clear hC9
    go_wp2_with fail
    go_ret
    exact ⟨rfl, HC9.out⟩
  · have Hcall := Lib.hid (boolsRead_ok 1 c2 c4 A4 A2 ee eu bs l ns w4 (HE.out.keep HC4.out (fun h => h) (fun h => h)) (HT.out.keep HC4.out (fun _ _ h => h.elim)) hgl HK4.out hc4 hbs (by intro hh; rw [hh] at hbl; simp at hbl; omega) (by omega) (by omega) (howB_bits 1 bs l (.inr rfl) hbl Hbit.out) (Kd.C_below H2.out HC4.out.toBelow) Hlen.out HfN.out)
    go_wp2_with fail
    refine Hcall.out.mono ?_
    rintro e w7 ⟨v7, rfl, hr7, hC7⟩
    have htl := takesB_len ns l
    obtain ⟨p7, c7, rfl, hc7, hK7⟩ := reads2_CB hr7 (by omega)
    have HC7 := Lib.hid (HC4.out.trans hC7)
    have Hcall8 := Lib.hid (numbers_ok p7 c7 _ w7 hK7 hc7 (by omega))
    have HK7 := Lib.hid (Kd.C_below HK3'.out hC7.toBelow)
    clear hr7 hC7 hK7 Hcall HK3' HC4
    go_wp2_with fail
    refine Hcall8.out.mono ?_
    rintro e w8 ⟨B8, d8, rfl, hd8, hK8, hC8⟩
    have HC8 := Lib.hid (HC7.out.trans hC8)
    have Hcall9 := Lib.hid (same_ok B8 A3 d8 c3 _ w8 hd8 hc3 (by rw [ints_len, nums_len]; omega) hK8 (Kd.C_below HK7.out hC8.toBelow))
    clear hC8 hK8 Hcall8
    go_wp2_with fail
    refine Hcall9.out.mono ?_
    rintro e w9 ⟨rfl, hC9⟩
    have HC9 := Lib.hid (HC8.out.trans hC9)
    clear hC9
    go_wp2_with fail
    go_ret
    exact ⟨rfl, HC9.out⟩
  · have Hcall := Lib.hid (numbers_ok A0 c0 l w4 (Kd.C_below H0.out HC4.out.toBelow) hc0 (by omega))
    go_wp2_with fail
    refine Hcall.out.mono ?_
    rintro e w5 ⟨B5, d5, rfl, hd5, hK5, hC5⟩
    dsimp only
    go_wp2_with fail
    have HC5 := Lib.hid (HC4.out.trans hC5)
    have HK5 := Lib.hid hK5
    have HK3'' := Lib.hid (Kd.C_below HK3'.out hC5.toBelow)
    clear hK5 hC5 Hcall HK3' HC4 HK4
    obtain ⟨q, hq⟩ : ∃ q, q = (l.length + 7) / 8 := ⟨_, rfl⟩
    have hq1 : ((l.length : Int) + 7) / 8 = q := by omega
    obtain ⟨pb, hev, hbs, hp1, hp2, hrun⟩ := putOne_ev (nums l) q (by omega) (by omega) (nums_lt l) (by rw [nums_len]; omega)
    obtain ⟨k, hk⟩ := hev.get
    have hcr := spec_PutRuns.calls k _ 1 [⟨true, (q : Int), ints (nums l)⟩] 1 (ints pb) _ (run_C (q : Int) (ints (nums l)) B5 d5 w5 hd5 HK5.out) (by simp) hk
    have Hcall := Lib.hid hcr
    have Hrun := Lib.hid hrun
    clear hev hk hcr hrun HK5
    rw [hq1]
    refine Hcall.out.mono ?_
    rintro e w6 ⟨v6, rfl, hR6, hB6⟩
    dsimp only
    obtain ⟨A6, c6, rfl, hc6, hK6⟩ := Kd.R_reads hR6
    have hC6 := (HC5.out.alloc (.cells #[.bool true, .int .i64 (q : Int), .slice B5 (ints (nums l)).length d5] 35)).trans (Chg.ofBelow hB6)
    have hK3b := Kd.C_below (Kd.C_below HK3''.out (Chg.new w5 (.cells #[.bool true, .int .i64 (q : Int), .slice B5 (ints (nums l)).length d5] 35)).toBelow) hB6
    have Hcall7 := Lib.hid (laws_behind.calls A6 c6 (ints pb) _ w6 hK6 hc6 (behind_ev pb (by omega)))
    have HC6a := Lib.hid hC6
    have HK3b := Lib.hid hK3b
    clear hR6 hB6 hK6 hC6 hK3b Hcall HC5 HK3''
    go_wp2_with fail
    refine Hcall7.out.mono ?_
    rintro e w7b ⟨v7b, rfl, hR7, hB7⟩
    dsimp only
    obtain ⟨A7, c7b, rfl, hc7b, hK7b⟩ := Kd.R_reads hR7
    have HC6 := Lib.hid (HC6a.out.trans (Chg.ofBelow hB7))
    have HK3'' := Lib.hid (Kd.C_below HK3b.out hB7)
    have hal := ahead_len pb
    have Hcall := Lib.hid (boolsRead_ok 2 c2 c7b A7 A2 ee eu (ahead pb) l ns w7b (HE.out.keep HC6.out (fun h => h) (fun h => h)) (HT.out.keep HC6.out (fun _ _ h => h.elim)) (Nat.lt_of_lt_of_le hg HC6.out.size) hK7b hc7b (ahead_lt pb hbs) (by intro hh; rw [hh] at hal; simp at hal; omega) (by omega) (by omega) (howB_runs pb l _ hp1 (by omega) Hrun.out) (Kd.C_below H2.out HC6.out.toBelow) Hlen.out HfN.out)
    clear hR7 hB7 hK7b hal Hcall7 HC6a HK3b Hrun
    go_wp2_with fail
    refine Hcall.out.mono ?_
    rintro e w7 ⟨v7, rfl, hr7, hC7⟩
    have htl := takesB_len ns l
    obtain ⟨p7, c7, rfl, hc7, hK7⟩ := reads2_CB hr7 (by omega)
    dsimp only
    have HC7 := Lib.hid (HC6.out.trans hC7)
    have Hcall8 := Lib.hid (numbers_ok p7 c7 _ w7 hK7 hc7 (by omega))
    have HK7 := Lib.hid (Kd.C_below HK3''.out hC7.toBelow)
    clear hr7 hC7 hK7 Hcall HK3'' HC6
    go_wp2_with fail
    refine Hcall8.out.mono ?_
    rintro e w8 ⟨B8, d8, rfl, hd8, hK8, hC8⟩
    dsimp only
    have HC8 := Lib.hid (HC7.out.trans hC8)
    have Hcall9 := Lib.hid (same_ok B8 A3 d8 c3 _ w8 hd8 hc3 (by rw [ints_len, nums_len]; omega) hK8 (Kd.C_below HK7.out hC8.toBelow))
    clear hC8 hK8 Hcall8
    go_wp2_with fail
    refine Hcall9.out.mono ?_
    rintro e w9 ⟨rfl, hC9⟩
    dsimp only
    have HC9 := Lib.hid (HC8.out.trans hC9)
    clear hC9
    go_wp2_with fail
    go_ret
    exact ⟨rfl, HC9.out⟩
end Go.Proofs.YtflgbndhahcdnaaGreatDoor
/- The row: what the listed variables give; a start that meets the condition; the law lifted to the row. -/
namespace Go.Proofs.YtflgbndhahcdnaaGreatDoor
open Go Go.ChangeShapes Go.WideShapes Go.ChangeAt Go.RowKit Go.Deep Go.Proofs.YtflgbndhahcdnaaGreatDoor.PFnBoolsRead Go.Proofs.YtflgbndhahcdnaaGreatDoorW.PrintWords Go.Proofs.YtflgbndhahcdnaaGreatDoorW.PrintMore
section
variable {H : Type} {enc : TypeId × Value → H} {w : World} {base : Nat} {sp : Nat → Bool} {held : Bool}
/-- A row of numbers, as the print reads it. -/
theorem open_C {t e : TypeId} {k : IntKind} {fuel : Nat} {cs : List Value} {x : DataW H × List MemPlace} (ht : Tryz.prog.underlying t = some (.slice e)) (he : Tryz.prog.underlying e = some (.int k)) (hc : Tryz.prog.cellsOf e = 1)
    (h : DataW.trod enc Tryz.prog w base sp held fuel t cs = some x) : ∃ A c, ∃ xs : List Int, cs = [.slice A xs.length c] ∧ xs.length ≤ c ∧ Kd.C (Kd.int k) w A xs.length xs ∧ ∀ n ∈ xs, (Lit.int k n).wf = true := by
  rcases open_ints ht he hc h with ⟨rfl, -⟩ | ⟨a, len, cap, zs, rfl, -, hl, hm, hz, -, hcell, hwz⟩
  · exact ⟨none, 0, [], rfl, Nat.le_refl _, Kd.C_nil _ _, fun n hn => by cases hn⟩
  · have hlz : len ≤ zs.length := by rw [hz]; split <;> omega
    have hlt : (zs.take len).length = len := by rw [List.length_take]; omega
    refine ⟨some a, cap, zs.take len, by rw [hlt], by omega, ⟨rfl, by rw [hlt]; unfold maxLen at hm; omega, fun _ => ⟨a, rfl, fun j p hp => ⟨[.int k p], rfl, rfl, fun i u hu => ?_⟩⟩⟩, fun n hn => hwz n (List.mem_of_mem_take hn)⟩
    have hj : j < len := by rw [← hlt]; exact (List.getElem?_eq_some_iff.1 hp).1
    rw [List.getElem?_take_of_lt hj] at hp
    cases i with
    | succ i => simp at hu
    | zero =>
      have hu' : u = .int k p := by simpa using hu.symm
      subst hu'
      rw [show (Kd.int k).sz = 1 from rfl, Nat.mul_one, Nat.add_zero]
      have := hcell j (by omega)
      rw [List.getD_eq_getElem?_getD, hp] at this
      exact this
theorem wf_i64 {n : Int} (h : (Lit.int .i64 n).wf = true) : -9223372036854775808 ≤ n ∧ n ≤ 9223372036854775807 := by
  simp [Lit.wf, IntKind.min, IntKind.max, IntKind.signed, IntKind.bits] at h
  omega
/-- A row of bools, as the print reads it. -/
theorem open_CB {t e : TypeId} {fuel : Nat} {cs : List Value} {x : DataW H × List MemPlace} (ht : Tryz.prog.underlying t = some (.slice e)) (he : Tryz.prog.underlying e = some .bool) (hc : Tryz.prog.cellsOf e = 1)
    (h : DataW.trod enc Tryz.prog w base (fun _ => true) held fuel t cs = some x) : ∃ A c, ∃ xs : List Bool, cs = [.slice A xs.length c] ∧ xs.length ≤ c ∧ Kd.C Kd.bool w A xs.length xs := by
  rcases open_bools ht he hc h with ⟨rfl, -⟩ | ⟨a, len, cap, B, rfl, -, hl, hm, -, hcell⟩
  · exact ⟨none, 0, [], rfl, Nat.le_refl _, Kd.C_nil _ _⟩
  · have hlt : ((List.range len).map B).length = len := by simp
    refine ⟨some a, cap, (List.range len).map B, by rw [hlt], by omega, ⟨rfl, by rw [hlt]; unfold maxLen at hm; omega, fun _ => ⟨a, rfl, fun j p hp => ⟨[.bool p], rfl, rfl, fun i u hu => ?_⟩⟩⟩⟩
    have hj : j < len := by rw [← hlt]; exact (List.getElem?_eq_some_iff.1 hp).1
    cases i with
    | succ i => simp at hu
    | zero =>
      have hu' : u = .bool p := by simpa using hu.symm
      subst hu'
      rw [show Kd.bool.sz = 1 from rfl, Nat.mul_one, Nat.add_zero]
      have := hcell j (by omega)
      rw [List.getElem?_map, List.getElem?_range hj] at hp
      have hp' : B j = p := by simpa using hp
      rw [hp'] at this
      exact this
end
theorem own : ownKnob Tryz.prog.godebug = none := by kernel_rfl
theorem laidOut : laidOutB Tryz.prog = true := by kernel_rfl
theorem starE : "*" ++ "errors.errorString" = "*errors.errorString" := by decide
theorem rowE (u : TypeId) (h : Tryz.prog.typeName? 3 u = some "*errors.errorString") : u = 85 :=
  typeName_ptr_named (nm := "errors.errorString") (by rw [starE]; kernel_rfl) (by kernel_rfl) (by decide) u (by rw [starE]; exact h)
theorem fin8 {f : Nat → Nat} {zs : List Int} {W : World} {g : Nat} (hf : ∀ t : Fin 8, zs.getD t.val 0 = ((f t.val : Nat) : Int)) (h : ∀ t, t < 8 → W.cell? ⟨g, t, none⟩ = some (.int .u8 (zs.getD t 0))) : ∀ t, t < 8 → W.cell? ⟨g, t, none⟩ = some (.int .u8 ((f t : Nat) : Int)) := fun t ht => by
  rw [h t ht, hf ⟨t, ht⟩]
/-- WHAT THE CONDITION GIVES. -/
theorem of_laid {W : World} (h : laidMetH Tryz.prog (Rows.fnBoolsReadRow.laid) W) : (∃ ee eu, Eofs W ee eu) ∧ Tabs W := by
  rw [MakeChecks.laidMetH_plain _ _ _ (by kernel_rfl)] at h
  have h0 : laidMet Tryz.prog (_ :: _ :: _ :: _ :: _ :: []) W := h
  have h1 := laidMet.tail h0
  have h2 := laidMet.tail h1
  have h3 := laidMet.tail h2
  have h4 := laidMet.tail h3
  have n1 : Tryz.prog.globalNamed "io.EOF" = some 3 := by kernel_rfl
  have n2 : Tryz.prog.globalNamed "io.ErrUnexpectedEOF" = some 1 := by kernel_rfl
  obtain ⟨a1, s1, v1, -⟩ := laid_sentinel (nm := "*errors.errorString") (n := "io.EOF") h1 n1 (by kernel_rfl) Tryz.underlying45 rowE Tryz.underlying85 Tryz.underlying87 rfl rfl Tryz.underlying9 (by kernel_rfl) (by kernel_rfl)
  obtain ⟨a2, s2, v2, -⟩ := laid_sentinel (nm := "*errors.errorString") (n := "io.ErrUnexpectedEOF") h2 n2 (by kernel_rfl) Tryz.underlying45 rowE Tryz.underlying85 Tryz.underlying87 rfl rfl Tryz.underlying9 (by kernel_rfl) (by kernel_rfl)
  refine ⟨⟨a1, a2, by simpa using World.var?_cell n1 v1 0, by simpa using World.var?_cell n2 v2 0⟩, ?_⟩
  have m4 : Tryz.prog.globalNamed "given.example/pub-arrowroot/pub/arrow/arrow/bitutil.BitMask" = some 2 := by kernel_rfl
  have t4 := Lib.tabIs_of_head (zs := [1, 2, 4, 8, 16, 32, 64, 128]) m4 (by kernel_rfl) Tryz.underlying84 Tryz.underlying5 (by kernel_rfl) (by kernel_rfl) h4
  exact ⟨fin8 (f := fun t => 2 ^ t) (by decide) fun t ht => t4.cell m4 t ht⟩
/-- The last of the variables lies in the heap. -/
theorem glob_lt {W : World} (h : laidMetH Tryz.prog (Rows.fnBoolsReadRow.laid) W) : 5 < W.heap.size := by
  rw [MakeChecks.laidMetH_plain _ _ _ (by kernel_rfl)] at h
  have h0 : laidMet Tryz.prog (_ :: _ :: _ :: _ :: _ :: []) W := h
  have n0 : Tryz.prog.globalNamed "io.ErrShortBuffer" = some 5 := by kernel_rfl
  obtain ⟨a0, s0, v0, -⟩ := laid_sentinel (nm := "*errors.errorString") (n := "io.ErrShortBuffer") h0 n0 (by kernel_rfl) Tryz.underlying45 rowE Tryz.underlying85 Tryz.underlying87 rfl rfl Tryz.underlying9 (by kernel_rfl) (by kernel_rfl)
  have h1 : W.cell? ⟨5, 0, none⟩ = some (.iface 85 (.pointer (some a0))) := by simpa using World.var?_cell n0 v0 0
  exact World.block_lt_of_cell? W _ h1
/-- The door's own heap meets the condition. -/
theorem door_met (os : Os) (args : Array Value) : laidMetH Tryz.prog Rows.fnBoolsReadRow.laid ((World.doorLaid Tryz.prog 90 os).forCall (fun _ _ => 0) ⟨#[], args, []⟩).memory :=
  laidMetH_of_parts3 (fuel := 8) (laidMet_of_run' 8 (by kernel_rfl) (by kernel_rfl)) (by kernel_rfl) (by kernel_rfl)
theorem vars_len {H : Type} {enc : TypeId × Value → H} {W : World} {sp : Nat → Bool} : ∀ {ns : List String} {gs : List (DataW H)} {ps : List MemPlace}, DataW.TrodVars enc Tryz.prog W sp ns gs ps → gs.length = ns.length
  | [], [], _, _ => rfl
  | [], _ :: _, _, h => h.elim
  | _ :: _, [], _, h => h.elim
  | n :: ns, d :: ds, _, ⟨_, _, _, _, _, _, _, _, _, _, hs, _⟩ => congrArg (· + 1) (vars_len hs)
theorem len1 {α : Type} (l : List α) (h : l.length = 1) : ∃ a, l = [a] := by
  match l, h with
  | [a], _ => exact ⟨a, rfl⟩
set_option maxRecDepth 100000 in
theorem lifted (os : Os) (started : os.Started) (H : Type) (enc : TypeId × Value → H) :
    ReturnsInHanded {} Tryz.checked os 3 .any (fun w args => (Rows.fnBoolsReadSpec.pre enc Tryz.prog Tryz.f3 [] false w args ∧ laidMetH Tryz.prog Rows.fnBoolsReadRow.laid w) ∧ sizedMet enc Tryz.prog Tryz.f3 (OpenSpec.ofChange Rows.fnBoolsReadSpec) false w args)
      (Rows.fnBoolsReadSpec.post enc Tryz.prog Tryz.f3 false true false false) := by
  refine returnsInHanded_of_change_and (C := Tryz.checked) (X := fun w _ => laidMetH Tryz.prog Rows.fnBoolsReadRow.laid w) (fun _ _ _ hh h => h.of_heap hh) own started (by kernel_rfl) Tryz.func3
    (ChangeSpec.witness_shaped (enc := enc) (C := Tryz.checked) (os := os) (X := fun w _ => laidMetH Tryz.prog Rows.fnBoolsReadRow.laid w) false (World.doorLaid Tryz.prog 90 os) #[.slice none 0 0, .int .i64 0, .slice none 0 0] 8 rfl (World.shaped_of_RefB (by kernel_rfl) (by kernel_rfl)) (by kernel_rfl) (by kernel_rfl) (by kernel_rfl) (door_met os _)) ?_
  intro W base args ds gs before hval0 hW _ _ hL _
  have hval : ∀ (j : Nat) t v, Tryz.f3.params[j]? = some t → args[j]? = some v → Value.okWide Tryz.prog W .any base t v := hval0
  have hW' := hW
  obtain ⟨p, q, hA0, hV, rfl, hfz, hnd⟩ := hW
  have hA : DataW.TrodAll enc Tryz.prog W 0 (fun _ => true) true Tryz.f3.params.toList args.toList ds p := hA0
  rw [Tryz.params3] at hA hval
  obtain ⟨v0, vs0, d0, ds0, p0, q0, hargs, rfl, rfl, h0, r0⟩ := trodAll_cons hA
  obtain ⟨v1, vs1, d1, ds1, p1, q1, rfl, rfl, rfl, h1, r1⟩ := trodAll_cons r0
  obtain ⟨v2, vs2, d2, ds2, p2, q2, rfl, rfl, rfl, h2, r2⟩ := trodAll_cons r1
  obtain ⟨rfl, rfl, rfl⟩ := trodAll_nil r2
  obtain rfl : args = #[v0, v1, v2] := by cases args; simp_all
  obtain ⟨g1, rfl⟩ := len1 gs (vars_len hV)
  have k0 := h0
  have k2 := h2
  have lt0 : ∀ x ∈ p0, x.block < W.heap.size := by obtain ⟨m, hm⟩ := k0; exact DataW.trod_lt m _ _ _ hm
  have lt2 : ∀ x ∈ p2, x.block < W.heap.size := by obtain ⟨m, hm⟩ := k2; exact DataW.trod_lt m _ _ _ hm
  obtain ⟨a0, len0, cap0, rfl⟩ := okWide_slice Tryz.underlying22 (hval 0 22 v0 rfl rfl)
  obtain ⟨a1, rfl, rfl, rfl, w1⟩ := open_int Tryz.underlying3 (hval 1 3 v1 rfl rfl) h1
  obtain ⟨a2, len2, cap2, rfl⟩ := okWide_slice Tryz.underlying23 (hval 2 23 v2 rfl rfl)
  obtain ⟨f0, hf0⟩ := h0
  obtain ⟨f2, hf2⟩ := h2
  obtain ⟨A0, c0, l, e0, hc0, hK0⟩ := open_CB Tryz.underlying22 Tryz.underlying4 (by kernel_rfl) hf0
  obtain ⟨A2, c2, ns, e2, hc2, hK2, hR2⟩ := open_C Tryz.underlying23 Tryz.underlying3 (by kernel_rfl) hf2
  simp only [Value.cells, List.cons.injEq, Value.slice.injEq, and_true] at e0 e2
  obtain ⟨rfl, rfl, rfl⟩ := e0
  obtain ⟨rfl, rfl, rfl⟩ := e2
  obtain ⟨⟨ee, eu, hE⟩, hT⟩ := of_laid hL
  have hg : 5 < W.heap.size := glob_lt hL
  clear hA0 hval0 hval
  refine (law_ok l a0 cap0 a1 ns a2 cap2 ee eu W hK0 hc0 hK2 hc2 (fun n hn => wf_i64 (hR2 n hn)) hE hT hg).mono fun e W' ⟨he, hC⟩ => ?_
  subst he
  have bel : Below W.heap.size W W' := hC.toBelow
  exact ⟨_, rfl, _, _, _, [], _, _, hW', trodAll_mk1 (shut_bool Tryz.underlying4 _), trodAll_mk3 (Below.trod laidOut (by kernel_rfl) (of_decide_eq_true (by kernel_rfl)) k0 bel lt0) (shut_int Tryz.underlying3 w1) (Below.trod laidOut (by kernel_rfl) (of_decide_eq_true (by kernel_rfl)) k2 bel lt2), Below.trodVars laidOut bel (by kernel_rfl) hV, bel.frame _, fun h => by cases h⟩
theorem law_row : Rows.FnBoolsReadSaid :=
  OpenClaim.holds_of_wide 3 Tryz.f3 rfl rfl rfl rfl rfl rfl rfl ⟨rfl, rfl, rfl, rfl, rfl⟩ rfl rfl rfl rfl rfl (by kernel_rfl) Tryz.func3 (by kernel_rfl)
    (of_decide_eq_true (by kernel_rfl)) (by unfold Func.isWrapper; first | (rw [if_pos (by decide +kernel)]; kernel_rfl) | (rw [if_neg (by decide +kernel)]; exact ⟨rfl, rfl⟩))
    (fun os started H enc _ => lifted os started H enc)
end Go.Proofs.YtflgbndhahcdnaaGreatDoor
/- 'laws.FnBoolsRead': for every input the law returns true, and each argument and each named variable reads behind the call as it read before. The card ties the listed package-level variables to the program's text. No further condition. -/
namespace Go.Proofs.YtflgbndhahcdnaaGreatDoor
open Go
theorem fnBoolsRead_card : Rows.FnBoolsReadCardSaid :=
  Claim7.holds_tied_plain_at .later [] [.sentinel, .sentinel, .sentinel, .sentinel, .data] true _ true
    law_row (fun _ h => by cases h) (by kernel_rfl) (fun _ h => by cases h) fnBoolsRead_row_tie rfl ⟨rfl, rfl⟩ (by kernel_rfl) rfl
    (fun f fn hf hfn => by
      obtain rfl : f = 3 := Option.some.inj ((show Tryz.prog.funcNamed "given.example/pub-arrowroot/laws.FnBoolsRead" = some 3 by kernel_rfl).symm.trans hf) |>.symm
      obtain rfl : fn = Tryz.f3 := (Option.some.inj (Tryz.func3.symm.trans hfn)).symm
      exact ⟨by kernel_rfl, fun j t ht => by
        rw [Tryz.params3] at ht
        have hm : t ∈ [22, 3, 23] := by simpa using Array.mem_of_getElem? ht
        have hall : ([22, 3, 23].all fun u => !Tryz.prog.wantsStandIn u) = true := by kernel_rfl
        exact (show Tryz.prog.wantsStandIn t = false by simpa using List.all_eq_true.1 hall t hm)⟩)
    (by kernel_rfl)
#print axioms fnBoolsRead_card
end Go.Proofs.YtflgbndhahcdnaaGreatDoor
