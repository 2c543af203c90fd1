/- Part 17 of the proof: the texts CC, CD, CE, CF, joined. What each proves stands ahead of it. -/
import Derived.Test.YtameepdbnnaaaaaGreatDoorKO
import Derived.Test.YtameepdbnnaaaaaGreatDoorKP
import Derived.OwnWalk
import Derived.Test.YtameepdbnnaaaaaGreatDoorKG
import Derived.Defers
import Derived.Recover
set_option linter.unusedVariables false
set_option linter.unusedSimpArgs false
/- impl.rleBatch: a batch of one of four ways. -/
namespace Go.Proofs.YtameepdbnnaaaaaGreatDoor
open Go Go.RowKit
theorem infoU64 : (Tryz.prog.info? 30).map (fun i => (i.zero, i.size, i.bytes)) = some (some (.int .u64 0), 1, 8) := by kernel_rfl
/-- append to a row of uint64 of one's own. -/
theorem wpList_append_u64 {w : World} {ops : Array Oper} {rest : List Oper} {o : Oper} {a : Act} {Q : Exit → Act → World → Prop} (hgd : o.guard = none) (s x : Operand)
    (ho : o.op = .call { callee := .builtin .append, args := #[s, x], argTypes := #[25, 25] })
    (base : Nat) (v : Value) (xs : List Value) (hs : a.eval s = v) (hown : Own1 w base 30 v xs)
    (y : Value) (news : List Value) (hx : a.eval x = y) (hy : Reads w y news) (h1 : ∀ u ∈ news, u.oneCell' = true)
    (hb : xs.length + news.length ≤ 1000000000) (hbase : base ≤ w.heap.size)
    (h : ∀ v' w', Own1 w' base 30 v' (xs ++ news) → Chg (fun k _ => v.ownBlock = some k) w w' → wpList Tryz.prog ops Q rest (a.put o.dst v') w') : wpList Tryz.prog ops Q (o :: rest) a w := by
  obtain ⟨i, hi, hz, hs1, hby⟩ := info_parts infoU64
  exact wpList_append_chg hgd s x 25 ho base 30 i (.int .u64 0) 8 Tryz.underlying25 hi hz hs1 hby rfl v xs hs hown y news hx hy h1 (by unfold maxLen; omega) (by omega) hbase h
/-- What may turn where numbers are left out or read one by one. -/
def OwnRR (c : RC) (R : Nat) : Nat → Nat → Prop := fun k x => k = c.B ∨ k = R ∨ (k = c.rb ∧ c.ro ≤ x ∧ x < c.ro + 3)
theorem Rl.widen {c : RC} {W R : Nat} {S T : Nat → Nat → Prop} {vs : List Nat} {w wr : World} {k rep lit cur o f : Nat} (h : Rl c W R S vs w wr k rep lit cur o f) (hS : ∀ a x, a < w.heap.size → S a x → T a x) : Rl c W R T vs w wr k rep lit cur o f := ⟨h.rd, h.pos, h.chg.mono hS⟩
/-- The numbers as cells. -/
def u64s (l : List Nat) : List Value := l.map (fun v : Nat => Value.int .u64 (v : Int))
theorem u64s_len (l : List Nat) : (u64s l).length = l.length := by unfold u64s; exact List.length_map ..
theorem u64s_get (l : List Nat) (j : Nat) (u : Value) (h : (u64s l)[j]? = some u) : u = .int .u64 (l.getD j 0 : Nat) ∧ j < l.length := by
  unfold u64s at h
  rw [List.getElem?_map] at h
  obtain ⟨x, hx, rfl⟩ := Option.map_eq_some_iff.1 h
  exact ⟨by rw [List.getD_eq_getElem?_getD, hx]; rfl, (List.getElem?_eq_some_iff.1 hx).1⟩
theorem u64s_one (l : List Nat) : ∀ u ∈ u64s l, u.oneCell' = true := by
  intro u hu
  obtain ⟨x, -, rfl⟩ := List.mem_map.1 hu
  rfl
theorem take_getD (l : List Nat) (n j : Nat) (h : j < n) : (l.take n).getD j 0 = l.getD j 0 := by
  rw [List.getD_eq_getElem?_getD, List.getD_eq_getElem?_getD, List.getElem?_take_of_lt h]
theorem take_snoc' (l : List Nat) (k : Nat) (h : k < l.length) : u64s (l.take (k + 1)) = u64s (l.take k) ++ [.int .u64 (l.getD k 0 : Nat)] := by
  unfold u64s
  rw [List.take_succ_eq_append_getElem h, List.map_append, List.getD_eq_getElem?_getD, List.getElem?_eq_getElem h]
  rfl
/-- A row of numbers that reads. -/
theorem reads_of {w : World} {g o c n : Nat} {vs : List Nat} (hn : n ≤ vs.length) (h : ∀ j, j < n → w.cell? ⟨g, o + j, none⟩ = some (.int .u64 (vs.getD j 0 : Nat))) : Reads w (.slice (some ⟨g, o, none⟩) n c) (u64s (vs.take n)) := by
  have hl : (u64s (vs.take n)).length = n := by rw [u64s_len, List.length_take]; omega
  refine ⟨_, c, by rw [hl], .inr ⟨g, o, rfl, fun j u hu => ?_⟩⟩
  obtain ⟨rfl, hj⟩ := u64s_get _ _ _ hu
  rw [List.length_take] at hj
  rw [take_getD _ _ _ (by omega)]
  exact h j (by omega)
/-- A made row, as a reader's destination. -/
theorem dst_new {c : RC} {W R rep lit cur o f n : Nat} {w : World} {z : Value} {t : TypeId} (h : RD c W R rep lit cur o f w) (hbl : c.b < w.heap.size) : Dst c (w.alloc (.cells (madeCells #[z] n) t)) w.heap.size 0 n ∧ w.heap.size ≠ R := by
  have h1 := h.lt
  have h2 := h.rs.lt
  have h3 := h.rs.rlt
  have h4 := h.rs.env.gB
  exact ⟨⟨fun j hj => ⟨z, by rw [Nat.zero_add]; exact made_cell w z n j t hj⟩, fun j hj => by simp, by omega, by omega, by omega, by omega⟩, by omega⟩
/-- What a made row's filling turns, seen from ahead of the making. -/
theorem Rl.made {c : RC} {W R rep lit cur o f n k oo : Nat} {X : Obj} {vs : List Nat} {w w' : World} (h : Rl c W R (GTR c R w.heap.size oo n) vs (w.alloc X) w' k rep lit cur o f) : Rl c W R (OwnRR c R) vs w w' k rep lit cur o f :=
  ⟨h.rd, h.pos, h.chg.unalloc (by
    rintro a x ha (hh | hh | hh | hh)
    · exact .inl hh
    · exact .inr (.inl hh)
    · exact .inr (.inr hh)
    · omega)⟩
theorem Rl.undrew {c : RC} {W R rep lit cur o f k : Nat} {S : Nat → Nat → Prop} {vs : List Nat} {w w' : World} (h : Rl c W R S vs w.drew w' k rep lit cur o f) : Rl c W R S vs w w' k rep lit cur o f := ⟨h.rd, h.pos, h.chg.undrew⟩
set_option maxRecDepth 100000 in
set_option maxHeartbeats 1000000 in
theorem rleValue_ok (c : RC) (W R rep lit cur o f : Nat) (vs : List Nat) (w : World) (h : RD c W R rep lit cur o f w) (hp : Pos c.D c.L W rep lit cur o f vs) (hbl : c.b < w.heap.size) (hW1 : 1 ≤ W) (hW2 : W ≤ 64) (hlen : 1 ≤ vs.length) :
    Calls Tryz.prog 27 #[.pointer (some ⟨R, 0, none⟩)] w fun e w' =>
      e = .returned (.tuple #[.int .u64 (vs.getD 0 0 : Nat), .bool true]) ∧ ∃ rep' lit' cur' o' f', Rl c W R (OwnRR c R) vs w w' 1 rep' lit' cur' o' f' := by
  have hmk : ∀ W : World, (Instr.makeSlice 25 (.int .i64 1) (.int .i64 1)).run Tryz.prog W = _ := make_u64 1 (by omega)
  obtain ⟨hd, hR⟩ := dst_new (n := 1) (z := .int .u64 0) (t := 30) h hbl
  obtain ⟨X, hX⟩ : ∃ X, X = Obj.cells (madeCells #[.int .u64 0] 1) 30 := ⟨_, rfl⟩
  rw [← hX] at hmk hd
  clear hX
  have Hcall := Lib.hid (rleBatch_ok c W R rep lit cur o f w.heap.size 0 1 1 vs (w.alloc X) (h.alloc X) hp hW1 hW2 hlen (by omega) hd hR (by omega) (by omega))
  clear h hp hd hlen hW1 hW2
  go_enter Tryz.func27, Tryz.ntmps27
  go_wp2_with fail
  refine Hcall.out.mono ?_
  rintro e w1 ⟨rfl, rep', lit', cur', o', f', hG⟩
  have hcell := hG.out 0 (by omega)
  have HR := Lib.hid hG.rl.made
  clear hG
  go_wp2_with fail
  go_ret2
  exact ⟨rfl, _, _, _, _, _, HR.out⟩
/-- A batch as impl.rleBatch gives it. -/
def BatchEnd (c : RC) (W R : Nat) (vs : List Nat) (n : Nat) (w : World) (e : Ending) (w' : World) : Prop :=
  ∃ v, e = .returned (.tuple #[v, .nilIface]) ∧ Reads w' v (u64s (vs.take n)) ∧ ∃ rep lit cur o f, Rl c W R (OwnRR c R) vs w w' n rep lit cur o f
set_option maxRecDepth 100000 in
set_option maxHeartbeats 1000000 in
theorem batch0_ok (c : RC) (W R rep lit cur o f n : Nat) (vs : List Nat) (w : World) (h : RD c W R rep lit cur o f w) (hp : Pos c.D c.L W rep lit cur o f vs) (hbl : c.b < w.heap.size) (hW1 : 1 ≤ W) (hW2 : W ≤ 64) (hlen : n ≤ vs.length) (hn : n ≤ 1000000) :
    Calls Tryz.prog 15 #[.pointer (some ⟨R, 0, none⟩), .int .i64 0, .int .i64 n] w (BatchEnd c W R vs n w) := by
  have hmk := make_u64 n hn
  obtain ⟨hd, hR⟩ := dst_new (n := n) (z := .int .u64 0) (t := 30) h hbl
  obtain ⟨X, hX⟩ : ∃ X, X = Obj.cells (madeCells #[.int .u64 0] n) 30 := ⟨_, rfl⟩
  rw [← hX] at hmk hd
  clear hX
  have Hcall := Lib.hid (rleBatch_ok c W R rep lit cur o f w.heap.size 0 n n vs (w.alloc X) (h.alloc X) hp hW1 hW2 hlen (by omega) hd hR (by omega) (by omega))
  have Hlen := Lib.hid hlen
  clear h hp hd hlen hW1 hW2
  go_enter Tryz.func15, Tryz.ntmps15
  go_wp2_with fail
  refine Hcall.out.mono ?_
  rintro e w1 ⟨rfl, rep', lit', cur', o', f', hG⟩
  have HG := Lib.hid hG
  clear hG
  go_wp2_with fail
  go_ret2
  exact ⟨_, rfl, reads_of Hlen.out HG.out.out, _, _, _, _, _, HG.out.rl.made⟩
end Go.Proofs.YtameepdbnnaaaaaGreatDoor
/- impl.rleBatch: levels; one by one. -/
namespace Go.Proofs.YtameepdbnnaaaaaGreatDoor
open Go Go.RowKit
theorem Own1.push {w' : World} {base : Nat} {v : Value} {l : List Nat} {k : Nat} (h : Own1 w' base 30 v (u64s (l.take k) ++ [.int .u64 (l.getD k 0 : Nat)])) (hk : k < l.length) : Own1 w' base 30 v (u64s (l.take (k + 1))) := by
  rw [take_snoc' l k hk]; exact h
theorem one_reads (w : World) (x : Nat) (t : TypeId) : Reads (w.alloc (.cells #[.int .u64 x] t)) (.slice (some ⟨w.heap.size, 0, none⟩) 1 1) [.int .u64 x] :=
  ⟨_, 1, rfl, .inr ⟨w.heap.size, 0, rfl, fun j u hu => by
    cases j with
    | zero => simp at hu; subst hu; simp
    | succ j => simp at hu⟩⟩
theorem own_chg {w1 wr w2 : World} {X : Obj} {t : TypeId} {v : Value} {xs : List Value} (hC : Chg Nix w1 wr) (hO : Own1 wr w1.heap.size t v xs) (h : Chg (fun k _ => v.ownBlock = some k) (wr.alloc X) w2) : Chg Nix w1 w2 :=
  (hC.alloc X).comp h (fun _ _ _ h => h) (fun k _ hk hh => by have := (hO.lt k hh).1; omega)
set_option maxRecDepth 100000 in
set_option maxHeartbeats 1000000 in
theorem batch1_ok (c : RC) (W R rep lit cur o f n : Nat) (vs : List Nat) (w : World) (h : RD c W R rep lit cur o f w) (hp : Pos c.D c.L W rep lit cur o f vs) (hbl : c.b < w.heap.size) (hW1 : 1 ≤ W) (hW2 : W ≤ 15) (hv : ∀ v ∈ vs, v < 32768) (hlen : n ≤ vs.length) (hn : n ≤ 1000000) :
    Calls Tryz.prog 15 #[.pointer (some ⟨R, 0, none⟩), .int .i64 1, .int .i64 n] w (BatchEnd c W R vs n w) := by
  have hmk := make_i16 n hn
  obtain ⟨hd, hR⟩ := dst_new (n := n) (z := .int .i16 0) (t := 66) h hbl
  obtain ⟨X, hX⟩ : ∃ X, X = Obj.cells (madeCells #[.int .i16 0] n) 66 := ⟨_, rfl⟩
  rw [← hX] at hmk hd
  clear hX
  have Hcall := Lib.hid (rleLevels_ok c W R rep lit cur o f w.heap.size 0 n n vs (w.alloc X) (h.alloc X) hp hW1 hW2 hv hlen (by omega) hd hR (by omega) (by omega))
  have Hlen := Lib.hid hlen
  have Hv := Lib.hid hv
  obtain ⟨ob, hob⟩ : ∃ ob, ob = w.heap.size := ⟨_, rfl⟩
  have Hob := Lib.hid hob
  clear h hp hd hlen hW1 hW2 hv hob
  go_enter Tryz.func15, Tryz.ntmps15
  go_wp2_with fail
  refine Hcall.out.mono ?_
  rintro e w1 ⟨⟨y, rfl⟩, rep', lit', cur', o', f', hG⟩
  have HR := Lib.hid hG.rl.made
  have HG := Lib.hid hG
  clear hG
  rw [← Hob.out] at HG ⊢
  go_wp2_with fail
  go_loopw [47, 6] (fun i v wx => ∃ k, k ≤ n ∧ i = .int .i64 k ∧ Own1 wx w1.heap.size 30 v (u64s (vs.take k)) ∧ Chg Nix w1 wx) (fun i _ _ => n - (intOf i).toNat)
  case atStart => exact ⟨0, Nat.zero_le _, rfl, Own1.nil _ _ _, Chg.refl _ _⟩
  case round =>
    obtain ⟨k, hk, rfl, hO, hC⟩ := hrel
    by_cases hlt : k < n
    · have hcell := hC.keep (HG.out.out k hlt) (fun h => h)
      rw [Nat.zero_add] at hcell
      have hx : vs.getD k 0 < 32768 := Hv.out _ (by rw [List.getD_eq_getElem?_getD, List.getElem?_eq_getElem (by have := Hlen.out; omega)]; exact List.getElem_mem _)
      obtain ⟨x, hxx⟩ : ∃ x, x = vs.getD k 0 := ⟨_, rfl⟩
      rw [← hxx] at hcell hx
      have hwx : IntKind.u64.wrap (x : Int) = x := wrap64 _ (by omega) (by omega)
      have HO := Lib.hid hO
      have HC := Lib.hid hC
      have Hx := Lib.hid hxx
      clear hO hC hxx
      go_wp2_with (at_builtin; refine (wpList_append_u64 rfl (.tmp 51) (.tmp 54) rfl w1.heap.size _ (u64s (vs.take k)) rfl (HO.out.keep (Chg.new _ _) (fun _ _ _ h => h)) _ [.int .u64 x] rfl (one_reads _ _ _) (by intro u hu; simp at hu; subst hu; rfl) (by rw [u64s_len, List.length_take]; simp; omega) (by have := HC.out.size; simp; omega) ?_))
      intro v' w' hO' hC'
      have hC2 := own_chg HC.out HO.out hC'
      have hO2 := (Hx.out ▸ hO' : Own1 w' w1.heap.size 30 v' (u64s (vs.take k) ++ [.int .u64 (vs.getD k 0 : Nat)])).push (by have := Hlen.out; omega)
      have HC2 := Lib.hid hC2
      have HO2 := Lib.hid hO2
      clear hC' hO' hC2 hO2
      go_wp2_with fail
      go_roundw
      case rel => exact ⟨k + 1, by omega, by go_num, HO2.out, HC2.out⟩
      case measure => simp [intOf]; omega
    · have hke : k = n := by omega
      subst hke
      go_wp2_with fail
      go_ret2
      exact ⟨_, rfl, hO.reads, _, _, _, _, _, ⟨HR.out.rd.keep hC (fun _ _ h => h.elim), HR.out.pos, HR.out.chg.trans (hC.mono (fun _ _ _ h => h.elim))⟩⟩
theorem rl_own {c : RC} {W R k rep lit cur o f base : Nat} {S : Nat → Nat → Prop} {vs : List Nat} {w wr w2 : World} {X : Obj} {t : TypeId} {v : Value} {xs : List Value} (hR : Rl c W R S vs w wr k rep lit cur o f) (hO : Own1 wr base t v xs) (hb : c.b < base ∧ c.rb < base ∧ c.B < base ∧ R < base ∧ w.heap.size ≤ base ∧ 8 < base) (h : Chg (fun k _ => v.ownBlock = some k) (wr.alloc X) w2) : Rl c W R S vs w w2 k rep lit cur o f :=
  ⟨(hR.rd.alloc X).keep h (fun a x hh => by have := (hO.lt a hh).1; omega), hR.pos, (hR.chg.alloc X).comp h (fun _ _ _ h => h) (fun a _ ha hh => by have := (hO.lt a hh).1; omega)⟩
theorem RD.base {c : RC} {W R rep lit cur o f : Nat} {w : World} (h : RD c W R rep lit cur o f w) (hbl : c.b < w.heap.size) : c.b < w.heap.size ∧ c.rb < w.heap.size ∧ c.B < w.heap.size ∧ R < w.heap.size ∧ w.heap.size ≤ w.heap.size ∧ 8 < w.heap.size := by
  have h1 := h.lt
  have h2 := h.rs.lt
  have h3 := h.rs.rlt
  have h4 := h.rs.env.gB
  omega
theorem Rl.next {c : RC} {W R k m rep lit cur o f rep' lit' cur' o' f' : Nat} {S : Nat → Nat → Prop} {vs : List Nat} {w wr w2 : World} (h : Rl c W R S vs w wr k rep lit cur o f) (h2 : Rl c W R S (vs.drop k) wr w2 m rep' lit' cur' o' f') : Rl c W R S vs w w2 (k + m) rep' lit' cur' o' f' :=
  ⟨h2.rd, by have := h2.pos; rwa [List.drop_drop] at this, h.chg.trans (h2.chg)⟩
set_option maxRecDepth 100000 in
set_option maxHeartbeats 1000000 in
theorem batch3_ok (c : RC) (W R rep lit cur o f n : Nat) (vs : List Nat) (w : World) (h : RD c W R rep lit cur o f w) (hp : Pos c.D c.L W rep lit cur o f vs) (hbl : c.b < w.heap.size) (hW1 : 1 ≤ W) (hW2 : W ≤ 64) (hlen : n ≤ vs.length) (hn : n ≤ 1000000) :
    Calls Tryz.prog 15 #[.pointer (some ⟨R, 0, none⟩), .int .i64 3, .int .i64 n] w (BatchEnd c W R vs n w) := by
  have h0 : Rl c W R (OwnRR c R) vs w w 0 rep lit cur o f := ⟨h, hp, Chg.refl _ _⟩
  have Hbase := Lib.hid (h.base hbl)
  have H0 := Lib.hid h0
  have Hlen := Lib.hid hlen
  clear h hp hlen h0 hbl
  go_enter Tryz.func15, Tryz.ntmps15
  go_wp2_with fail
  go_loopw [86, 6, 7] (fun i v u wx => ∃ k rep lit cur o f, k ≤ n ∧ i = .int .i64 k ∧ u = .nilIface ∧ Own1 wx w.heap.size 30 v (u64s (vs.take k)) ∧ Rl c W R (OwnRR c R) vs w wx k rep lit cur o f) (fun i _ _ _ => n - (intOf i).toNat)
  case atStart => exact ⟨0, _, _, _, _, _, Nat.zero_le _, rfl, rfl, Own1.nil _ _ _, H0.out⟩
  case round =>
    obtain ⟨k, rep, lit, cur, o, f, hk, rfl, rfl, hO, hR⟩ := hrel
    clear H0
    by_cases hlt : k < n
    · have Hcall := Lib.hid (rleValue_ok c W R rep lit cur o f (vs.drop k) wr hR.rd hR.pos (Nat.lt_of_lt_of_le Hbase.out.1 hR.chg.size) hW1 hW2 (by rw [List.length_drop]; have := Hlen.out; omega))
      have HO := Lib.hid hO
      have HR := Lib.hid hR
      clear hO hR
      go_wp2_with fail
      refine Hcall.out.mono ?_
      rintro e w1 ⟨rfl, rep1, lit1, cur1, o1, f1, hR1⟩
      have hx : (vs.drop k).getD 0 0 = vs.getD k 0 := by rw [List.getD_eq_getElem?_getD, List.getD_eq_getElem?_getD, List.getElem?_drop, Nat.add_zero]
      rw [hx]
      have hO1 := HO.out.keep hR1.chg (by
        rintro g hg x (hh | hh | ⟨hh, -⟩) <;> have := Hbase.out <;> omega)
      have hR2 := HR.out.next hR1
      obtain ⟨x, hxx⟩ : ∃ x, x = vs.getD k 0 := ⟨_, rfl⟩
      rw [← hxx]
      have HO1 := Lib.hid hO1
      have HR2 := Lib.hid hR2
      have Hx := Lib.hid hxx
      clear hO1 hR2 hxx hx hR1 Hcall
      go_wp2_with (at_builtin; refine (wpList_append_u64 rfl (.tmp 96) (.tmp 98) rfl w.heap.size _ (u64s (vs.take k)) rfl (HO1.out.keep (Chg.new _ _) (fun _ _ _ h => h)) _ [.int .u64 x] rfl (one_reads _ _ _) (by intro u hu; simp at hu; subst hu; rfl) (by rw [u64s_len, List.length_take]; simp; omega) (by have := HR2.out.chg.size; simp; omega) ?_))
      intro v' w' hO' hC'
      have hR3 := rl_own HR2.out HO1.out Hbase.out hC'
      have hO2 := (Hx.out ▸ hO' : Own1 w' w.heap.size 30 v' (u64s (vs.take k) ++ [.int .u64 (vs.getD k 0 : Nat)])).push (by have := Hlen.out; omega)
      have HR3 := Lib.hid hR3
      have HO2 := Lib.hid hO2
      clear hC' hO' hR3 hO2
      go_wp2_with fail
      go_roundw
      case rel => exact ⟨k + 1, _, _, _, _, _, by omega, by go_num, rfl, HO2.out, HR3.out⟩
      case measure => simp [intOf]; omega
    · have hke : k = n := by omega
      subst hke
      go_wp2_with fail
      go_ret2
      exact ⟨_, rfl, hO.reads, _, _, _, _, _, hR⟩
end Go.Proofs.YtameepdbnnaaaaaGreatDoor
/- impl.rleBatch: bits. -/
namespace Go.Proofs.YtameepdbnnaaaaaGreatDoor
open Go Go.RowKit
theorem boolValue_ok (b : Bool) (w : World) : Calls Tryz.prog 25 #[.bool b] w fun e w' => ∃ x s t, e = .returned (.agg #[x, .int .u64 (b.toNat : Nat), s, t]) ∧ Chg Nix w w' := by
  cases b
  · go_enter Tryz.func25, Tryz.ntmps25
    go_wp2
    refine bodyPost_ret (results_cell_row rfl _ _ w.heap.size 70 _ (0, 0) _ rfl (heap_alloc_new w _) Tryz.underlying70 rfl (by kernel_rfl)) rfl ?_
    exact ⟨_, _, _, rfl, Chg.new _ _⟩
  · go_enter Tryz.func25, Tryz.ntmps25
    go_wp2
    refine bodyPost_ret (results_cell_row rfl _ _ w.heap.size 70 _ (0, 0) _ rfl (heap_alloc_new w _) Tryz.underlying70 rfl (by kernel_rfl)) rfl ?_
    exact ⟨_, _, _, rfl, Chg.new _ _⟩
/-- A made row of zero bytes, as bits. -/
theorem bmp_new (w : World) (m : Nat) (t : TypeId) : Bmp (w.alloc (.cells (madeCells #[.int .u8 0] m) t)) w.heap.size 0 m (fun _ => false) := by
  refine ⟨fun j hj => ⟨0, ?_, by omega, fun t ht => by simp⟩, fun j hj => by simp⟩
  rw [Nat.zero_add]
  exact made_cell w _ m j _ hj
theorem Rl.madeM {c : RC} {W R rep lit cur o f n k oo : Nat} {X : Obj} {vs : List Nat} {w w' : World} (h : Rl c W R (GTRM c R w.heap.size oo n) vs (w.alloc X) w' k rep lit cur o f) : Rl c W R (OwnRR c R) vs w w' k rep lit cur o f :=
  ⟨h.rd, h.pos, h.chg.unalloc (by
    rintro a x ha (hh | hh | hh | hh)
    · exact .inr (.inl hh)
    · exact .inl hh
    · exact .inr (.inr hh)
    · exact absurd hh.1 (by omega))⟩
set_option maxRecDepth 100000 in
set_option maxHeartbeats 1000000 in
theorem batch2_ok (c : RC) (R rep lit cur o f n : Nat) (vs : List Nat) (w : World) (h : RD c 1 R rep lit cur o f w) (hp : Pos c.D c.L 1 rep lit cur o f vs) (hbl : c.b < w.heap.size) (hT : Tabs w) (hv : ∀ v ∈ vs, v < 2) (hlen : n ≤ vs.length) (hn : n ≤ 1000000) :
    Calls Tryz.prog 15 #[.pointer (some ⟨R, 0, none⟩), .int .i64 2, .int .i64 n] w (BatchEnd c 1 R vs n w) := by
  obtain ⟨m, hm⟩ : ∃ m, m = (n + 7) / 8 := ⟨_, rfl⟩
  have hmk := make_bytes m (by omega)
  obtain ⟨hd, hR⟩ := dst_new (n := m) (z := .int .u8 0) (t := 5) h hbl
  have hB := bmp_new w m 5
  obtain ⟨X, hX⟩ : ∃ X, X = Obj.cells (madeCells #[.int .u8 0] m) 5 := ⟨_, rfl⟩
  rw [← hX] at hmk hd hB
  clear hX
  have hcall := rleBitmap_ok c R rep lit cur o f w.heap.size 0 m m 0 n (fun _ => false) vs (w.alloc X) (h.alloc X) hp hlen (by omega) (hT.keep (Chg.new w X) (fun _ _ h => h.elim)) hB hd.nB hd.nr hd.nb hR hd.g (by omega) (Nat.le_refl _) (by omega)
  have Hcall := Lib.hid hcall
  have Hlen := Lib.hid hlen
  have Hv := Lib.hid hv
  have hq : ((n : Int) + 7) / 8 = m := by omega
  have hm8 : n ≤ 8 * m := by omega
  clear hm
  obtain ⟨ob, hob⟩ : ∃ ob, ob = w.heap.size := ⟨_, rfl⟩
  have Hob := Lib.hid hob
  clear h hp hd hlen hv hob hcall hT hB
  go_enter Tryz.func15, Tryz.ntmps15
  go_wp2_with fail
  refine Hcall.out.mono ?_
  rintro e w1 ⟨rfl, rep', lit', cur', o', f', hG⟩
  have HR := Lib.hid hG.rl.madeM
  have HB := Lib.hid hG.bm
  have HT := Lib.hid hG.tab
  clear hG
  rw [← Hob.out] at HB ⊢
  have hg := (Hob.out ▸ hR : ob ≠ R)
  go_wp2_with fail
  go_loopw [71, 6] (fun i v wx => ∃ k, k ≤ n ∧ i = .int .i64 k ∧ Own1 wx w1.heap.size 30 v (u64s (vs.take k)) ∧ Chg Nix w1 wx) (fun i _ _ => n - (intOf i).toNat)
  case atStart => exact ⟨0, Nat.zero_le _, rfl, Own1.nil _ _ _, Chg.refl _ _⟩
  case round =>
    obtain ⟨k, hk, rfl, hO, hC⟩ := hrel
    by_cases hlt : k < n
    · have Hcall2 := Lib.hid (bitIsSet_ok ob 0 m m k _ wr (HT.out.keep hC (fun _ _ h => h.elim)) (HB.out.keep hC (fun _ _ h => h)) (by omega) (by omega) (Nat.le_refl _))
      have HO := Lib.hid hO
      have HC := Lib.hid hC
      clear hO hC
      go_wp2_with fail
      refine Hcall2.out.mono ?_
      rintro e w2 ⟨rfl, hC2⟩
      have hb : (copyB (fun _ => false) (bitsOf vs) 0 n k).toNat = vs.getD k 0 := by
        have hx : vs.getD k 0 < 2 := Hv.out _ (by rw [List.getD_eq_getElem?_getD, List.getElem?_eq_getElem (by have := Hlen.out; omega)]; exact List.getElem_mem _)
        unfold copyB bitsOf
        rw [if_pos (by omega), Nat.sub_zero]
        have : vs.getD k 0 = 0 ∨ vs.getD k 0 = 1 := by omega
        rcases this with h | h <;> rw [h] <;> rfl
      obtain ⟨β, hβ⟩ : ∃ β, β = copyB (fun _ => false) (bitsOf vs) 0 n k := ⟨_, rfl⟩
      rw [← hβ] at hb ⊢
      have HC2 := Lib.hid hC2
      have Hb := Lib.hid hb
      have Hcall3 := Lib.hid (boolValue_ok β w2)
      clear hC2 hb hβ Hcall2
      go_wp2_with fail
      refine Hcall3.out.mono ?_
      rintro e w3 ⟨x, s, t, rfl, hC3⟩
      have hC4 := HC.out.trans (HC2.out.trans hC3 |>.mono (fun _ _ _ h => h))
      have hO4 := HO.out.keep (HC2.out.trans hC3) (fun _ _ _ h => h)
      have hval : ((β.toNat : Nat) : Int) = (vs.getD k 0 : Nat) := by rw [Hb.out]
      rw [hval]
      obtain ⟨y, hy⟩ : ∃ y, y = vs.getD k 0 := ⟨_, rfl⟩
      rw [← hy]
      have hfd : ∀ w : World, (Instr.field 70 (.agg #[x, .int .u64 (y : Int), s, t]) 1).run Tryz.prog w = .ok (.int .u64 (y : Int)) w := fun _ => by kernel_rfl
      have HC4 := Lib.hid hC4
      have HO4 := Lib.hid hO4
      have Hy := Lib.hid hy
      clear hC4 hO4 hy hval hC3 HC HO HC2 Hcall3
      go_wp2_with (at_builtin; refine (wpList_append_u64 rfl (.tmp 74) (.tmp 80) rfl w1.heap.size _ (u64s (vs.take k)) rfl (HO4.out.keep (Chg.new _ _) (fun _ _ _ h => h)) _ [.int .u64 y] rfl (one_reads _ _ _) (by intro u hu; simp at hu; subst hu; rfl) (by rw [u64s_len, List.length_take]; simp; omega) (by have := HC4.out.size; simp; omega) ?_))
      intro v' w' hO' hC'
      have hC5 := own_chg HC4.out HO4.out hC'
      have hO5 := (Hy.out ▸ hO' : Own1 w' w1.heap.size 30 v' (u64s (vs.take k) ++ [.int .u64 (vs.getD k 0 : Nat)])).push (by have := Hlen.out; omega)
      have HC5 := Lib.hid hC5
      have HO5 := Lib.hid hO5
      clear hC' hO' hC5 hO5
      go_wp2_with fail
      go_roundw
      case rel => exact ⟨k + 1, by omega, by go_num, HO5.out, HC5.out⟩
      case measure => simp [intOf]; omega
    · have hke : k = n := by omega
      subst hke
      go_wp2_with fail
      go_ret2
      exact ⟨_, rfl, hO.reads, _, _, _, _, _, ⟨HR.out.rd.keep hC (fun _ _ h => h.elim), HR.out.pos, HR.out.chg.trans (hC.mono (fun _ _ _ h => h.elim))⟩⟩
end Go.Proofs.YtameepdbnnaaaaaGreatDoor
/- A new reader of runs; the catch around impl.RleRead; the ways of a batch under one name. -/
namespace Go.Proofs.YtameepdbnnaaaaaGreatDoor
open Go Go.RowKit
theorem noNumbers_idle (p q : Addr) (w : World) :
    CallsD Tryz.prog 11 #[.pointer (some p), .pointer (some q)] .returning w fun e u' w' => e = .returned (.tuple #[]) ∧ u' = .returning ∧ w' = w := by
  refine callsD_of_wpS Tryz.func11 rfl fun c₀ cs hu => ?_
  apply wpS_seq
  apply wpS_region
  simp [wpOpsS, go_sem, recoverD, hu, Tryz.ntmps11, Exit.thenS]
  refine wpS_cond (t := false) (by simp [Act.eval, Array.replicate]) ?_
  simp only [Bool.false_eq_true, if_false]
  refine wpS_of_wp (wp_skip ?_)
  cases c₀
  simp_all [bodyPostS, results, Tryz.results11]
/-- A reader of runs, at its beginning. -/
structure RD0 (W R B rb : Nat) (w : World) : Prop where
  br : BR w B rb 0 0 0 0 0
  p : w.cell? ⟨R, 0, none⟩ = some (.pointer (some ⟨B, 0, none⟩))
  wi : w.cell? ⟨R, 1, none⟩ = some (.int .i64 W)
  cu : w.cell? ⟨R, 2, none⟩ = some (.int .u64 (0 : Nat))
  re : w.cell? ⟨R, 3, none⟩ = some (.int .i32 (0 : Nat))
  li : w.cell? ⟨R, 4, none⟩ = some (.int .i32 (0 : Nat))
  fr : ∀ j, j < 5 → w.frozen? ⟨R, j, none⟩ = false
set_option maxRecDepth 100000 in
set_option maxHeartbeats 1000000 in
theorem newRle_ok (rb W : Nat) (w : World) :
    Calls Tryz.prog 12 #[.pointer (some ⟨rb, 0, none⟩), .int .i64 W] w fun e w' => ∃ R, e = .returned (.pointer (some ⟨R, 0, none⟩)) ∧ w.heap.size < R ∧ R < w'.heap.size ∧ Chg Nix w w' ∧ RD0 W R w.heap.size rb w' := by
  have Hcall := Lib.hid (newBits_ok rb 0 w)
  go_enter Tryz.func12, Tryz.ntmps12
  go_wp2_with fail
  refine Hcall.out.mono ?_
  rintro e w1 ⟨rfl, hc, hl, hb⟩
  have Hc := Lib.hid hc
  have Hb := Lib.hid hb
  clear hc hb
  go_wp2_with fail
  go_ret
  refine ⟨_, rfl, hl, by simp, Hc.out.alloc _, ⟨Hb.out.keep (Chg.new _ _) (fun _ h => h), by simp, by simp, by simp, by simp, by simp, fun j hj => by simp⟩⟩
/-- The ways of a batch. -/
def HowOk (how W : Nat) (vs : List Nat) : Prop := how = 0 ∨ (how = 1 ∧ W ≤ 15 ∧ ∀ v ∈ vs, v < 32768) ∨ (how = 2 ∧ W = 1 ∧ ∀ v ∈ vs, v < 2) ∨ how = 3
theorem HowOk.drop {how W : Nat} {vs : List Nat} (h : HowOk how W vs) (n : Nat) : HowOk how W (vs.drop n) := by
  rcases h with h | ⟨h, h1, h2⟩ | ⟨h, h1, h2⟩ | h
  · exact .inl h
  · exact .inr (.inl ⟨h, h1, fun v hv => h2 v (List.mem_of_mem_drop hv)⟩)
  · exact .inr (.inr (.inl ⟨h, h1, fun v hv => h2 v (List.mem_of_mem_drop hv)⟩))
  · exact .inr (.inr (.inr h))
theorem batch_ok (c : RC) (how W R rep lit cur o f n : Nat) (vs : List Nat) (w : World) (hh : HowOk how W vs) (h : RD c W R rep lit cur o f w) (hp : Pos c.D c.L W rep lit cur o f vs) (hbl : c.b < w.heap.size) (hT : Tabs w) (hW1 : 1 ≤ W) (hW2 : W ≤ 64) (hlen : n ≤ vs.length) (hn : n ≤ 1000000) :
    Calls Tryz.prog 15 #[.pointer (some ⟨R, 0, none⟩), .int .i64 how, .int .i64 n] w (BatchEnd c W R vs n w) := by
  rcases hh with rfl | ⟨rfl, h1, h2⟩ | ⟨rfl, rfl, h2⟩ | rfl
  · exact batch0_ok c W R rep lit cur o f n vs w h hp hbl hW1 hW2 hlen hn
  · exact batch1_ok c W R rep lit cur o f n vs w h hp hbl hW1 h1 h2 hlen hn
  · exact batch2_ok c R rep lit cur o f n vs w h hp hbl hT h2 hlen hn
  · exact batch3_ok c W R rep lit cur o f n vs w h hp hbl hW1 hW2 hlen hn
/-- What the batches take, and that there is enough. -/
def takes : List Int → List Nat → List Nat
  | [], _ => []
  | n :: ns, vs => (if n < 0 then [] else vs.take n.natAbs) ++ takes ns (vs.drop n.natAbs)
def Fits : List Int → List Nat → Prop
  | [], _ => True
  | n :: ns, vs => n.natAbs ≤ vs.length ∧ n.natAbs ≤ 1000000 ∧ Fits ns (vs.drop n.natAbs)
/-- A slice that reads as a list of values, with room for them. -/
def Reads2 (w : World) (v : Value) (xs : List Value) : Prop := ∃ p c, v = .slice p xs.length c ∧ xs.length ≤ c ∧ (xs = [] ∨ ∃ g o, p = some ⟨g, o, none⟩ ∧ ∀ j u, xs[j]? = some u → w.cell? ⟨g, o + j, none⟩ = some u)
theorem Own1.reads2 {w : World} {base : Nat} {e : TypeId} {v : Value} {xs : List Value} (h : Own1 w base e v xs) : Reads2 w v xs := by
  have h1 := h
  rcases h.2 with ⟨rfl, hn⟩ | ⟨g, cap, cur, rfl, hb, hg, hnc, hcm, rest⟩
  · exact ⟨none, 0, by rw [hn], by omega, .inl (List.eq_nil_of_length_eq_zero hn)⟩
  · refine ⟨_, cap, rfl, hnc, .inr ⟨g, 0, rfl, fun j u hu => ?_⟩⟩
    have := World.ownsRow.cells h1 (g := g) rfl j u hu
    rwa [addr_add] at this
end Go.Proofs.YtameepdbnnaaaaaGreatDoor
