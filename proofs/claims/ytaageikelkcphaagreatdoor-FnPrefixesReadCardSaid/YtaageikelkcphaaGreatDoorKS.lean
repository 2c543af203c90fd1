/- Part 19 of the proof: the texts SA, SB, BM, BP, joined. What each proves stands ahead of it. -/
import Derived.Test.YtaageikelkcphaaGreatDoorKR
import Derived.Deep.AppendSrc
import Derived.Test.YtaageikelkcphaaGreatDoorKI
import Derived.Test.YtaageikelkcphaaGreatDoorKB
import Derived.Laws.BitsLemmas
import Derived.Lib.EndianBits
set_option linter.unusedVariables false
set_option linter.unusedSimpArgs false
/- Rows of one's own, each in a block of its own; a string appended to bytes. Over any program. -/
namespace Go.Proofs.YtaageikelkcphaaGreatDoor
open Go Go.RowKit
/-- Rows of one's own, no two in one block. -/
structure Owns (w : World) (base : Nat) (L : List (TypeId × Value × List Value)) : Prop where
  own : ∀ (i : Nat) p, L[i]? = some p → Own1 w base p.1 p.2.1 p.2.2
  sep : ∀ (i j : Nat) p q, i ≠ j → L[i]? = some p → L[j]? = some q → ∀ g, p.2.1.ownBlock = some g → q.2.1.ownBlock ≠ some g
theorem Owns.empty (w : World) (base : Nat) : Owns w base [] := ⟨fun i p h => by simp at h, fun i j p q _ h => by simp at h⟩
theorem Owns.at {w : World} {base : Nat} {L : List (TypeId × Value × List Value)} (h : Owns w base L) (i : Nat) {e : TypeId} {v : Value} {xs : List Value} (hi : L[i]? = some (e, v, xs)) : Own1 w base e v xs := h.own i _ hi
theorem Owns.keep {w w' : World} {base : Nat} {L : List (TypeId × Value × List Value)} (h : Owns w base L) {S : Nat → Nat → Prop} (hc : Chg S w w') (hS : ∀ g, base ≤ g → ∀ o, ¬ S g o) : Owns w' base L :=
  ⟨fun i p hi => (h.own i p hi).keep hc hS, h.sep⟩
theorem Owns.nix {w w' : World} {base : Nat} {L : List (TypeId × Value × List Value)} (h : Owns w base L) (hc : Chg Nix w w') : Owns w' base L := h.keep hc (fun _ _ _ h => h)
theorem Owns.put {w w' : World} {base : Nat} {L : List (TypeId × Value × List Value)} (h : Owns w base L) (i : Nat) {e : TypeId} {v v' : Value} {xs xs' : List Value} (hi : L[i]? = some (e, v, xs)) (ho : Own1 w' base e v' xs') (hc : Chg (fun k _ => v.ownBlock = some k) w w') (hs : Stays w v v') : Owns w' base (L.set i (e, v', xs')) := by
  have hl : i < L.length := (List.getElem?_eq_some_iff.1 hi).1
  refine ⟨fun j p hj => ?_, fun j k p q hjk hp hq g hg => ?_⟩
  · by_cases hij : i = j
    · subst hij
      rw [List.getElem?_set_self hl] at hj
      injection hj with hj
      subst hj
      exact ho
    · rw [List.getElem?_set_ne hij] at hj
      exact (h.own j p hj).keepAt hc (fun g hg o hh => h.sep j i p _ (Ne.symm hij) hj hi g hg hh)
  · have hv' : ∀ (m : Nat) r, m ≠ i → L[m]? = some r → ∀ g, v'.ownBlock = some g → r.2.1.ownBlock ≠ some g := fun m r hm hr g hg hh => by
      rcases hs g hg with h1 | h1
      · exact h.sep i m _ r (Ne.symm hm) hi hr g h1 hh
      · have := ((h.own m r hr).lt g hh).2; omega
    by_cases hij : i = j
    · subst hij
      rw [List.getElem?_set_self hl] at hp
      injection hp with hp
      subst hp
      rw [List.getElem?_set_ne hjk] at hq
      exact hv' k q (Ne.symm hjk) hq g hg
    · rw [List.getElem?_set_ne hij] at hp
      by_cases hik : i = k
      · subst hik
        rw [List.getElem?_set_self hl] at hq
        injection hq with hq
        subst hq
        exact fun hh => hv' j p (Ne.symm hij) hp g hh hg
      · rw [List.getElem?_set_ne hik] at hq
        exact h.sep j k p q hjk hp hq g hg
theorem Owns.cons {w w' : World} {base : Nat} {L : List (TypeId × Value × List Value)} (h : Owns w base L) (hc : Chg Nix w w') {e : TypeId} {v : Value} {xs : List Value} (ho : Own1 w' w.heap.size e v xs) (hb : base ≤ w.heap.size) : Owns w' base ((e, v, xs) :: L) := by
  have h' := h.nix hc
  refine ⟨fun i p hi => ?_, fun i j p q hij hp hq g hg => ?_⟩
  · cases i with
    | zero =>
      simp at hi
      subst hi
      refine ⟨ho.1, ?_⟩
      rcases ho.2 with hn | ⟨g, cap, cur, hv, hb', rest⟩
      · exact .inl hn
      · exact .inr ⟨g, cap, cur, hv, by omega, rest⟩
    | succ i => exact h'.own i p (by simpa using hi)
  · cases i with
    | zero =>
      cases j with
      | zero => exact absurd rfl hij
      | succ j =>
        simp at hp hq
        subst hp
        intro hh
        have h1 := (ho.lt g hg).1
        have h2 := ((h.own j q hq).lt g hh).2
        omega
    | succ i =>
      cases j with
      | zero =>
        simp at hp hq
        subst hq
        intro hh
        have h1 := (ho.lt g hh).1
        have h2 := ((h.own i p hp).lt g hg).2
        omega
      | succ j => exact h'.sep i j p q (by omega) (by simpa using hp) (by simpa using hq) g hg
theorem Owns.consNil {w : World} {base : Nat} {L : List (TypeId × Value × List Value)} (h : Owns w base L) (e : TypeId) (hb : base ≤ w.heap.size) : Owns w base ((e, .slice none 0 0, []) :: L) :=
  h.cons (Chg.refl _ _) (Own1.nil _ _ _) hb
theorem Owns.tail {w : World} {base : Nat} {p : TypeId × Value × List Value} {L : List (TypeId × Value × List Value)} (h : Owns w base (p :: L)) : Owns w base L :=
  ⟨fun i q hi => h.own (i + 1) q (by simpa using hi), fun i j q r hij hq hr => h.sep (i + 1) (j + 1) q r (by omega) (by simpa using hq) (by simpa using hr)⟩
theorem Owns.lt {w : World} {base : Nat} {L : List (TypeId × Value × List Value)} (h : Owns w base L) (i : Nat) {e : TypeId} {v : Value} {xs : List Value} (hi : L[i]? = some (e, v, xs)) : ∀ g, v.ownBlock = some g → base ≤ g ∧ g < w.heap.size := (h.at i hi).lt
section
variable {P : Program}
theorem run_append_ownS (w : World) (base : Nat) (t tx ty e : TypeId) (i : TypeInfo) (z : Value) (bytes : Nat) (ht : P.underlying t = some (.slice e)) (hi : P.info? e = some i) (hz : i.zero = some z)
    (hsize : i.size = 1) (hby : i.bytes = bytes) (hzs : z.cells.size = 1)
    (v : Value) (xs : List Value) (hown : Own1 w base e v xs)
    (x : Value) (n : Nat) (news : List Value) (hx : Src P 1 tx x n news w)
    (h63 : xs.length + news.length ≤ maxLen) (hbytes : (xs.length + news.length) * bytes ≤ 140737488355328) (hbase : base ≤ w.heap.size) :
    ∃ v' w', (Builtin.append_ #[t, tx] ty #[v, x]).run P w = .ok v' w' ∧ Own1 w' base e v' (xs ++ news) ∧ Chg (fun k _ => v.ownBlock = some k) w w' ∧ Stays w v v' := by
  have hnl : news.length = n := by rw [hx.newsLen, Nat.mul_one]
  subst hnl
  subst hby
  have hsmall : xs.length + news.length ≤ 9223372036854775807 := by simp only [maxLen] at h63; omega
  have hlen : (xs ++ news).length = (xs.length + news.length) * 1 := by rw [List.length_append, Nat.mul_one]
  have hlen1 : (xs ++ news).length = xs.length + news.length := List.length_append
  have hx' : Src P i.size tx x news.length news w := by rw [hsize]; exact hx
  have grown : ∀ (old : Nat), old < xs.length + news.length →
      Own1 (w.drew.alloc (.cells ((xs ++ news).toArray ++ Builtin.zeroCells z.cells (grownCap w (xs.length + news.length) old e - (xs.length + news.length))) e)) base e
        (.slice (some ⟨w.heap.size, 0, none⟩) (xs.length + news.length) (grownCap w (xs.length + news.length) old e)) (xs ++ news) := by
    intro old ho
    have hge := grownCap_ge w (xs.length + news.length) old e
    have hcm : grownCap w (xs.length + news.length) old e ≤ maxLen := grownCap_le_maxLen w _ old e h63
    unfold Own1
    rw [hlen1]
    refine ⟨hlen, .inr ⟨w.heap.size, _, _, rfl, hbase, heap_alloc_new w.drew _, hge, hcm, ?_, ?_⟩⟩
    · simp only [Array.size_append, List.size_toArray, size_zeroCells, hzs, List.length_append]
      omega
    · simp only [Array.toList_append, List.append_assoc]
      rw [← List.append_assoc, ← hlen]
      exact List.take_left
  rcases hown.2 with ⟨rfl, hn⟩ | ⟨g, cap, cur, rfl, hbg, hg, hnc, hcm, hcs, htake⟩
  · have hxn : xs = [] := List.eq_nil_of_length_eq_zero hn
    subst hxn
    by_cases hnil : news = []
    · subst hnil
      refine ⟨.slice none 0 0, w, ?_, hown, Chg.refl _ _, fun k hk => .inl hk⟩
      have hl : ∀ w', (Builtin.lenOf x).run P w' = .ok 0 w' := hx.len
      have hc : (Builtin.firstCells 1 0 x).run P w = .ok #[] w := hx.cells
      rcases hx.kind with ⟨e', hk⟩ | hk
      · simp [Builtin.append_, run_underlying ht, run_underlying hk, sizeOf, typeInfo, hi, hl, hc, hsize]
      · simp [Builtin.append_, run_underlying ht, run_underlying hk, sizeOf, typeInfo, hi, hl, hc, hsize]
    · have hm0 : 0 < news.length := List.length_pos_iff.2 hnil
      have hr := run_append_grow_src (P := P) w t tx ty e i z ht hi hz none 0 0 [] (run_firstCells_none w.drew _ _ _ _) x news.length news hx' (by omega) (by have := hsmall; simp at this; omega) (growslice_fits (by omega) (by simpa using hbytes))
      have hgr := grown 0 (by simp; omega)
      simp only [List.length_nil, Nat.zero_add, List.nil_append] at hgr hr ⊢
      exact ⟨_, _, hr, hgr, ((Chg.refl _ _).drew).alloc _, stays_new _ _ _ _ _ (Nat.le_refl _)⟩
  · by_cases hroom : xs.length + news.length ≤ cap
    · have hst := run_storeCells_at P g (xs.length * i.size) e news 0 cur w hg (by rw [hsize]; omega) hx.one
      simp only [Nat.add_zero] at hst
      have holds : ∀ j, j < cap → (w.cell? ⟨g, j, none⟩).isSome = true := fun j hj => by
        have : j < cur.size := by rw [hcs]; omega
        unfold World.cell?; simp [hg, this]
      have hfz : ∀ j, w.frozen? ⟨g, j, none⟩ = false := fun j => by unfold World.frozen?; simp [hg]
      have hst1 := run_storeCells_cells (P := P) g (xs.length * i.size) news 0 w (fun j hj => holds _ (by rw [hsize]; omega)) (fun j hj => hfz _) hx.one
      simp only [Nat.add_zero] at hst1
      have heq : w.setCells g (xs.length * i.size) news = w.setRow g (cur.toList.take (xs.length * i.size) ++ news ++ cur.toList.drop (xs.length * i.size + news.length)).toArray := by
        have := hst1.symm.trans hst
        injection this
      have hr0 := run_append_room_src (P := P) w t tx ty e i ht hi g 0 xs.length cap x news.length news hx' hroom (fun j hj => holds _ (by rw [hsize]; omega)) (fun j hj => hfz _)
      rw [Nat.zero_add, heq] at hr0
      rw [hsize, Nat.mul_one] at hr0
      rw [Nat.mul_one] at htake
      refine ⟨_, _, hr0, ?_, (chg_setRow _ hg).mono (fun k _ _ hk => by rw [hk]; rfl), fun k hk => .inl hk⟩
      unfold Own1
      rw [hlen1]
      refine ⟨hlen, .inr ⟨g, cap, _, rfl, hbg, setRow_heap w g cur _ e _ hg, hroom, hcm, ?_, ?_⟩⟩
      · simp only [List.size_toArray, List.length_append, List.length_take, List.length_drop, Array.length_toList]
        omega
      · rw [htake, Nat.mul_one, ← hlen1]
        exact List.take_left
    · have holds : ∀ j u, xs[j]? = some u → w.cell? ((⟨g, 0, none⟩ : Addr).add j) = some u := World.ownsRow.cells hown (g := g) rfl
      have hold := run_firstCells_some (P := P) w.drew i.size xs.length ⟨g, 0, none⟩ xs.length cap xs (by rw [hsize, Nat.mul_one]) (fun j u hu => by simpa using holds j u hu)
      have hr := run_append_grow_src (P := P) w t tx ty e i z ht hi hz (some ⟨g, 0, none⟩) xs.length cap xs hold x news.length news hx' (by omega) (by omega) (growslice_fits (by omega) hbytes)
      exact ⟨_, _, hr, grown cap (by omega), ((Chg.refl _ _).drew).alloc _, stays_new _ _ _ _ _ (Nat.le_refl _)⟩
theorem wp_append_ownS (w : World) {o : Oper} {a : Act} {K : Act → World → Prop} {Q : Exit → Act → World → Prop} (s x : Operand) (t tx : TypeId)
    (ho : o.op = .call { callee := .builtin .append, args := #[s, x], argTypes := #[t, tx] })
    (base : Nat) (e : TypeId) (i : TypeInfo) (z : Value) (bytes : Nat) (ht : P.underlying t = some (.slice e)) (hi : P.info? e = some i) (hz : i.zero = some z)
    (hsize : i.size = 1) (hby : i.bytes = bytes) (hzs : z.cells.size = 1)
    (v : Value) (xs : List Value) (hs : a.eval s = v) (hown : Own1 w base e v xs)
    (y : Value) (n : Nat) (news : List Value) (hx : a.eval x = y) (hy : Src P 1 tx y n news w)
    (h63 : xs.length + news.length ≤ maxLen) (hbytes : (xs.length + news.length) * bytes ≤ 140737488355328) (hbase : base ≤ w.heap.size)
    (h : ∀ v' w', Own1 w' base e v' (xs ++ news) → Chg (fun k _ => v.ownBlock = some k) w w' → Stays w v v' → K (a.put o.dst v') w') : o.wp P a w K Q := by
  obtain ⟨v', w', hr, h2, h3, h4⟩ := run_append_ownS (P := P) w base t tx o.type e i z bytes ht hi hz hsize hby hzs v xs hown y n news hy h63 hbytes hbase
  unfold Oper.wp execOp
  simp only [ho, resolve, invoke, builtin, Sem.run_bind, Sem.run_pure, Result.andThen_ok, List.map_toArray, List.map_cons, List.map_nil, hs, hx, hr]
  exact h v' w' h2 h3 h4
theorem wpList_append_ownS {w : World} {ops : Array Oper} {rest : List Oper} {o : Oper} {a : Act} {Q : Exit → Act → World → Prop} (hgd : o.guard = none) (s x : Operand) (t tx : TypeId)
    (ho : o.op = .call { callee := .builtin .append, args := #[s, x], argTypes := #[t, tx] })
    (base : Nat) (e : TypeId) (i : TypeInfo) (z : Value) (bytes : Nat) (ht : P.underlying t = some (.slice e)) (hi : P.info? e = some i) (hz : i.zero = some z)
    (hsize : i.size = 1) (hby : i.bytes = bytes) (hzs : z.cells.size = 1)
    (v : Value) (xs : List Value) (hs : a.eval s = v) (hown : Own1 w base e v xs)
    (y : Value) (n : Nat) (news : List Value) (hx : a.eval x = y) (hy : Src P 1 tx y n news w)
    (h63 : xs.length + news.length ≤ maxLen) (hbytes : (xs.length + news.length) * bytes ≤ 140737488355328) (hbase : base ≤ w.heap.size)
    (h : ∀ v' w', Own1 w' base e v' (xs ++ news) → Chg (fun k _ => v.ownBlock = some k) w w' → Stays w v v' → wpList P ops Q rest (a.put o.dst v') w') : wpList P ops Q (o :: rest) a w :=
  wpList_plain hgd fun _ hK => wp_append_ownS w s x t tx ho base e i z bytes ht hi hz hsize hby hzs v xs hs hown y n news hx hy h63 hbytes hbase fun v' w' h2 h3 h4 => hK _ _ (h v' w' h2 h3 h4)
end
end Go.Proofs.YtaageikelkcphaaGreatDoor
/- The writer of deltas: what it writes, step by step. No program in sight. -/
namespace Go.Proofs.YtaageikelkcphaaGreatDoor
open Go
/-- What stands for delta t of a part. -/
def valAt (part : List Int) (least : Int) (t : Nat) : Nat := ((part[t]?).map fun d => (d - least).toNat).getD 0
theorem valAt_lt {part : List Int} {least : Int} {W : Nat} (h : ∀ d ∈ part, (d - least).toNat < 2 ^ W) (t : Nat) : valAt part least t < 2 ^ W := by
  unfold valAt
  cases ht : part[t]? with
  | none => exact Nat.pow_pos (by decide)
  | some d => exact h d (List.mem_of_getElem? ht)
theorem MiniOf.ofBits {n W : Nat} {least : Int} {part : List Int} {bs : List Nat} (hlen : bs.length = n * W / 8) (hW : W ≤ 32) (hp : part.length ≤ n) (hn : n % 8 = 0)
    (hd : ∀ d ∈ part, least ≤ d ∧ (d - least).toNat < 2 ^ W ∧ -9223372036854775808 ≤ d ∧ d ≤ 9223372036854775807)
    (hb : ∀ p, p < n * W → (bs.getD (p / 8) 0).testBit (p % 8) = (valAt part least (p / W)).testBit (p % W)) : MiniOf n 32 least W part bs := by
  refine ⟨hlen, hW, hp, fun D q hs t d ht => ?_⟩
  have ht' : t < part.length := (List.getElem?_eq_some_iff.1 ht).1
  obtain ⟨d1, d2, d3, d4⟩ := hd d (List.mem_of_getElem? ht)
  have hv : valAt part least t = (d - least).toNat := by unfold valAt; rw [ht]; rfl
  have hbits : bitsV D (8 * q + t * W) W = (d - least).toNat := by
    refine bitsV_of D W _ _ d2 (fun s hs' => ?_)
    have hpos : t * W + s < n * W := by
      have : (t + 1) * W ≤ n * W := Nat.mul_le_mul_right _ (by omega)
      rw [Nat.succ_mul] at this
      omega
    have h1 := hb (t * W + s) hpos
    have e1 : (t * W + s) / W = t := by
      rw [Nat.mul_comm, Nat.mul_add_div (by omega), Nat.div_eq_of_lt hs', Nat.add_zero]
    have e2 : (t * W + s) % W = s := by
      rw [Nat.mul_comm, Nat.mul_add_mod, Nat.mod_eq_of_lt hs']
    rw [e1, e2, hv] at h1
    have hlt : (t * W + s) / 8 < bs.length := by
      rw [hlen]
      have : n * W % 8 = 0 := by rw [Nat.mul_mod, hn, Nat.zero_mul, Nat.zero_mod]
      omega
    have hD := hs ((t * W + s) / 8) (bs[(t * W + s) / 8]) (List.getElem?_eq_getElem hlt)
    rw [List.getD_eq_getElem?_getD, List.getElem?_eq_getElem hlt, Option.getD_some, ← hD] at h1
    unfold bitB
    rw [show (8 * q + t * W + s) / 8 = q + (t * W + s) / 8 by omega, show (8 * q + t * W + s) % 8 = (t * W + s) % 8 by omega]
    rw [Nat.testBit_eq_decide_div_mod_eq, Nat.testBit_eq_decide_div_mod_eq, decide_eq_decide] at h1
    have m1 : D (q + (t * W + s) / 8) / 2 ^ ((t * W + s) % 8) % 2 < 2 := Nat.mod_lt _ (by decide)
    have m2 : (d - least).toNat / 2 ^ s % 2 < 2 := Nat.mod_lt _ (by decide)
    omega
  rw [hbits]
  unfold RowKit.wrap64
  omega
theorem minis_next {n W : Nat} {least : Int} {ds : List Int} {ws bodies b : List Nat} {j : Nat} (h : MinisOf n 32 least (ds.take (j * n)) ws bodies) (hw : ws.length = j) (hj : j * n < ds.length) (hn : 0 < n) (hm : MiniOf n 32 least W ((ds.drop (j * n)).take n) b) :
    MinisOf n 32 least (ds.take ((j + 1) * n)) (ws ++ [W]) (bodies ++ b) := by
  have hl : (ds.take (j * n)).length = ws.length * n := by rw [List.length_take, hw]; omega
  have hne : (ds.drop (j * n)).take n ≠ [] := by
    intro e
    have := congrArg List.length e
    rw [List.length_take, List.length_drop] at this
    simp at this
    omega
  have := h.app hl hne hm
  rwa [show ds.take ((j + 1) * n) = ds.take (j * n) ++ (ds.drop (j * n)).take n by rw [Nat.succ_mul, List.take_add]]
theorem minis_pad {n : Nat} {least : Int} {ds : List Int} {ws bodies : List Nat} {j x : Nat} (h : MinisOf n 32 least (ds.take (j * n)) ws bodies) (hj : ds.length ≤ j * n) :
    MinisOf n 32 least (ds.take ((j + 1) * n)) (ws ++ [x]) bodies := by
  rw [List.take_of_length_le hj] at h
  rw [List.take_of_length_le (by rw [Nat.succ_mul]; omega)]
  exact h.pad [x]
/-- What is written behind `at` numbers: whatever blocks hold the rest make it whole. -/
def Part (S M : Nat) (l : List Int) (k : Nat) (bs : List Nat) : Prop :=
  ∃ x0 ys, l = x0 :: ys ∧ ∀ rest, BlocksOf S M (S / M) 32 ((diffsG RowKit.wrap32 x0 ys).drop k) rest → DeltaEnc RowKit.wrap32 32 S M l (bs ++ rest)
theorem Part.start {S M : Nat} {x0 : Int} {ys : List Int} {z : Nat} (hz : unzig z = x0) (hz2 : z < 2 ^ 64) : Part S M (x0 :: ys) 0 (vlq S ++ vlq M ++ vlq (x0 :: ys).length ++ vlq z) := by
  refine ⟨x0, ys, rfl, fun rest hr => ⟨x0, ys, z, rest, rfl, by simp only [List.append_assoc], hz, hz2, by simpa using hr⟩⟩
theorem Part.done {S M : Nat} {l : List Int} {k : Nat} {bs : List Nat} (h : Part S M l k bs) (hk : l.length ≤ k + 1) : DeltaEnc RowKit.wrap32 32 S M l bs := by
  obtain ⟨x0, ys, rfl, h⟩ := h
  have := h [] (by rw [List.drop_of_length_le (by rw [diffsG_len]; simpa using hk)]; exact .nil)
  rwa [List.append_nil] at this
theorem Part.step {S M : Nat} {l : List Int} {k zz : Nat} {bs ws bodies : List Nat} {x0 : Int} {ys : List Int} (h : Part S M l k bs) (hl : l = x0 :: ys) (hk : k < ys.length) (hz : zz < 2 ^ 64) (hz2 : -2147483648 ≤ unzig zz ∧ unzig zz ≤ 2147483647) (hw : ws.length = M)
    (hm : MinisOf (S / M) 32 (unzig zz) (((diffsG RowKit.wrap32 x0 ys).drop k).take S) ws bodies) : Part S M l (k + S) (bs ++ vlq zz ++ ws ++ bodies) := by
  obtain ⟨x0', ys', e, h⟩ := h
  rw [hl] at e
  injection e with e1 e2
  subst e1; subst e2
  refine ⟨x0, ys, hl, fun rest hr => ?_⟩
  have := h (vlq zz ++ (ws ++ (bodies ++ rest))) (.cons (by
    intro e
    have := congrArg List.length e
    rw [List.length_drop, diffsG_len] at this
    simp at this
    omega) hz (fun _ => hz2) hw hm (by rwa [List.drop_drop]))
  simpa only [List.append_assoc] using this
end Go.Proofs.YtaageikelkcphaaGreatDoor
/- Bytes and their bits: plain facts, and rows of bytes that are read as bits. No program in sight. -/
namespace Go.Proofs.YtaageikelkcphaaGreatDoor
open Go Go.RowKit
theorem u8_or_nat (x y : Nat) (hx : x < 256) (hy : y < 256) : bits .or .u8 (x : Int) y = ((x ||| y : Nat) : Int) := (bits_nat .u8 8 (by decide) wraps_u8 x y hx hy).2
/-- n bytes from (b, off) on hold the bits β. -/
structure Bmp (w : World) (b off n : Nat) (β : Nat → Bool) : Prop where
  cell : ∀ j, j < n → ∃ x : Nat, w.cell? ⟨b, off + j, none⟩ = some (.int .u8 x) ∧ x < 256 ∧ ∀ t, t < 8 → x.testBit t = β (8 * j + t)
  fr : ∀ j, j < n → w.frozen? ⟨b, off + j, none⟩ = false
theorem Bmp.keep {w w' : World} {b off n : Nat} {β : Nat → Bool} (h : Bmp w b off n β) {S : Nat → Nat → Prop} (hc : Chg S w w') (hS : ∀ j, j < n → ¬ S b (off + j)) : Bmp w' b off n β :=
  ⟨fun j hj => let ⟨x, h1, h2⟩ := h.cell j hj; ⟨x, hc.keep h1 (hS j hj), h2⟩, fun j hj => let ⟨x, h1, h2⟩ := h.cell j hj; (hc.frozen _ _ (World.block_lt_of_cell? w _ h1)).trans (h.fr j hj)⟩
theorem Bmp.congr {w : World} {b off n : Nat} {β γ : Nat → Bool} (h : Bmp w b off n β) (hβ : ∀ i, i < 8 * n → β i = γ i) : Bmp w b off n γ :=
  ⟨fun j hj => let ⟨x, h1, h2, h3⟩ := h.cell j hj; ⟨x, h1, h2, fun t ht => by rw [h3 t ht]; exact hβ _ (by omega)⟩, h.fr⟩
/-- One byte is laid. -/
theorem Bmp.put {w : World} {b off n : Nat} {β γ : Nat → Bool} (h : Bmp w b off n β) (j x : Nat) (hx : x < 256) (hb : ∀ t, t < 8 → x.testBit t = γ (8 * j + t)) (hg : ∀ i, i < 8 * n → i / 8 ≠ j → γ i = β i) : Bmp (w.setCell ⟨b, off + j, none⟩ (.int .u8 x)) b off n γ := by
  refine ⟨fun i hi => ?_, fun i hi => by rw [World.frozen?_setCell]; exact h.fr i hi⟩
  obtain ⟨y, h1, h2, h3⟩ := h.cell i hi
  by_cases hij : i = j
  · subst hij
    exact ⟨x, World.cell?_setCell_same _ _ _ h1, hx, hb⟩
  · refine ⟨y, ?_, h2, fun t ht => ?_⟩
    · rw [World.cell?_setCell_other _ ⟨b, off + j, none⟩ ⟨b, off + i, none⟩ _ (by intro e; injection e; omega)]; exact h1
    · rw [h3 t ht]; exact (hg _ (by omega) (by omega)).symm
/-- Byte q is x. -/
def byt (β : Nat → Bool) (q x : Nat) : Nat → Bool := fun i => if i / 8 = q then x.testBit (i % 8) else β i
theorem Bmp.byte {w : World} {b off n : Nat} {β : Nat → Bool} (h : Bmp w b off n β) (q x : Nat) (hx : x < 256) : Bmp (w.setCell ⟨b, off + q, none⟩ (.int .u8 x)) b off n (byt β q x) :=
  h.put q x hx (fun t ht => by unfold byt; rw [if_pos (by omega)]; congr 1; omega) (fun i _ hi => by unfold byt; rw [if_neg hi])
end Go.Proofs.YtaageikelkcphaaGreatDoor
/- Words of 64 bits by their bits. No program in sight. -/
namespace Go.Proofs.YtaageikelkcphaaGreatDoor
open Go Go.RowKit
theorem u64_and_nat (x y : Nat) (hx : x < 2 ^ 64) (hy : y < 2 ^ 64) : bits .and .u64 (x : Int) y = ((x &&& y : Nat) : Int) := (bits_nat .u64 64 (by decide) wraps_u64 x y hx hy).1
theorem shr_is (x k : Nat) : (x : Int) / 2 ^ k = (x / 2 ^ k : Nat) := by norm_cast
/-- The bytes of a bitmap. -/
theorem Bmp.bytes {w : World} {b off n : Nat} {β : Nat → Bool} (h : Bmp w b off n β) : ∃ E : Nat → Nat, (∀ j, E j < 256) ∧ Bytes w b off n E ∧ ∀ j, j < n → ∀ t, t < 8 → (E j).testBit t = β (8 * j + t) := by
  have : ∀ j, ∃ x : Nat, x < 256 ∧ (j < n → w.cell? ⟨b, off + j, none⟩ = some (.int .u8 x) ∧ ∀ t, t < 8 → x.testBit t = β (8 * j + t)) := by
    intro j
    by_cases hj : j < n
    · obtain ⟨x, h1, h2, h3⟩ := h.cell j hj
      exact ⟨x, h2, fun _ => ⟨h1, h3⟩⟩
    · exact ⟨0, by omega, fun h => absurd h hj⟩
  obtain ⟨E, hE⟩ := Classical.axiomOfChoice this
  exact ⟨E, fun j => (hE j).1, fun j hj => ((hE j).2 hj).1, fun j hj => ((hE j).2 hj).2⟩
end Go.Proofs.YtaageikelkcphaaGreatDoor
