/- Part 23 of the proof: the texts SJ, SK, LV, joined. What each proves stands ahead of it. -/
import Derived.Test.YtaageikelkcphaaGreatDoorKV
import Derived.Test.YtaageikelkcphaaGreatDoorKO
import Derived.BigQuiet
import Derived.Deep.RegionLaw
import Derived.Test.YtaageikelkcphaaGreatDoorKD
import Derived.Test.YtaageikelkcphaaGreatDoorKT
set_option linter.unusedVariables false
set_option linter.unusedSimpArgs false
/- spec.PutLengths: what is written. -/
namespace Go.Proofs.YtaageikelkcphaaGreatDoor
open Go Go.RowKit Go.Proofs.YtaageikelkcphaaGreatDoor.PFnPrefixesRead Go.Proofs.YtaageikelkcphaaGreatDoorW.PrintWords Go.Proofs.YtaageikelkcphaaGreatDoorW.PrintMore
/-- A text's bytes. -/
def sbytes (s : ByteArray) : List Nat := s.data.toList.map fun b => b.toNat
theorem sbytes_len (s : ByteArray) : (sbytes s).length = s.size := by
  unfold sbytes
  rw [List.length_map, Array.length_toList]; rfl
theorem sbytes_lt (s : ByteArray) : ∀ x ∈ sbytes s, x < 256 := by
  intro x hx
  obtain ⟨b, -, rfl⟩ := List.mem_map.1 hx
  exact b.toNat_lt
theorem byteCells_u8s (s : ByteArray) : byteCells s = u8s (sbytes s) := by
  unfold byteCells u8s ksOf ints sbytes
  rw [List.map_map, List.map_map]
  rfl
/-- append of a text's bytes to row i of one's own. -/
theorem wpList_appS {w1 w : World} {ops : Array Oper} {rest : List Oper} {o : Oper} {a : Act} {Q : Exit → Act → World → Prop} (hgd : o.guard = none) (s x : Operand)
    (ho : o.op = .call { callee := .builtin .append, args := #[s, x], argTypes := #[31, 9] })
    {L : List (TypeId × Value × List Value)} (hO : Owns w w1.heap.size L) (hN : Chg Nix w1 w) (i : Nat) (v : Value) (xs : List Value) (hi : L[i]? = some (5, v, xs)) (hs : a.eval s = v)
    (y : ByteArray) (hx : a.eval x = .string y)
    (hb : xs.length + y.size ≤ 1000000000)
    (h : ∀ v' w', Owns w' w1.heap.size (L.set i (5, v', xs ++ u8s (sbytes y))) → Chg Nix w1 w' → wpList Tryz.prog ops Q rest (a.put o.dst v') w') : wpList Tryz.prog ops Q (o :: rest) a w := by
  obtain ⟨inf, hinf1, hinf2⟩ := Option.map_eq_some_iff.1 info8
  injection hinf2 with h2 h3
  injection h3 with h3 h4
  have hl := byteCells_length y
  refine wpList_append_ownS hgd s x 31 9 ho w1.heap.size 5 inf (.int .u8 0) 1 Tryz.underlying31 hinf1 h2 h3 h4 rfl v xs hs (hO.at i hi) (.string y) y.size (byteCells y) hx (Src.ofString w Tryz.underlying9 y) (by unfold maxLen; omega) (by omega) hN.size (fun v' w' k1 k2 k3 => h v' w' (hO.put i hi (by rw [← byteCells_u8s]; exact k1) k2 k3) (nixOwn hN (fun g hg => ((hO.at i hi).lt g hg).1) k2))
/-- Texts one behind the other. -/
def catS : List ByteArray → ByteArray
  | [] => ⟨#[]⟩
  | s :: l => s ++ catS l
theorem sbytes_app (a b : ByteArray) : sbytes (a ++ b) = sbytes a ++ sbytes b := by
  unfold sbytes
  rw [ByteArray.data_append, Array.toList_append, List.map_append]
theorem sbytes_cat : ∀ l : List ByteArray, sbytes (catS l) = (l.map sbytes).flatten
  | [] => rfl
  | s :: l => by rw [catS, sbytes_app, sbytes_cat l]; rfl
theorem catS_snoc : ∀ (l : List ByteArray) (x : ByteArray), catS (l ++ [x]) = catS l ++ x
  | [], x => by
    show x ++ (⟨#[]⟩ : ByteArray) = (⟨#[]⟩ : ByteArray) ++ x
    apply ByteArray.ext
    simp [ByteArray.data_append]
  | s :: l, x => by
    rw [List.cons_append, catS, catS, catS_snoc l x]
    apply ByteArray.ext
    simp [ByteArray.data_append]
set_option maxRecDepth 100000 in
set_option maxHeartbeats 4000000 in
theorem putLengths_ok (w : World) (g o c S M More : Nat) (odd : Bool) (l : List ByteArray) (hne : l ≠ []) (hf : BlkFit S M) (hMore : More ≤ 8) (hl : l.length ≤ 2000) (hs : ∀ s ∈ l, s.size ≤ 4096) (hc : l.length ≤ c)
    (hcel : ∀ (j : Nat) x, l[j]? = some x → w.cell? ⟨g, o + j, none⟩ = some (.string x)) :
    Calls Tryz.prog 21 #[.slice (some ⟨g, o, none⟩) l.length c, .agg #[.int .i64 S, .int .i64 M, .int .i64 More, .bool odd]] w fun e w' =>
      ∃ v bs, e = .returned v ∧ Own1 w' w.heap.size 5 v (u8s (bs ++ (l.map sbytes).flatten)) ∧ DeltaEnc RowKit.wrap32 32 S M (lenI (l.map sbytes)) bs ∧ (∀ x ∈ bs, x < 256) ∧ bs.length ≤ 1000200 ∧ Chg Nix w w' := by
  obtain ⟨w1, hw1⟩ : ∃ w1, w1 = w.alloc (.cells #[.int .i64 S, .int .i64 M, .int .i64 More, .bool odd] 24) := ⟨_, rfl⟩
  have hc1 : Chg Nix w w1 := by rw [hw1]; exact Chg.new _ _
  obtain ⟨bb, hbb⟩ : ∃ bb, bb = w.heap.size := ⟨_, rfl⟩
  have hbox : ∀ (j : Nat) u, #[Value.int .i64 S, .int .i64 M, .int .i64 More, .bool odd][j]? = some u → w1.cell? ⟨bb, j, none⟩ = some u := fun j u hu => by
    rw [hw1]; subst hbb; rw [World.cell?_alloc_new]; exact hu
  have hs1 : w1.heap.size = bb + 1 := by rw [hw1, hbb]; simp
  have k0 : w1.cell? ⟨bb, 0, none⟩ = some (.int .i64 S) := hbox 0 _ rfl
  have k1 : w1.cell? ⟨bb, 1, none⟩ = some (.int .i64 M) := hbox 1 _ rfl
  have k2 : w1.cell? ⟨bb, 2, none⟩ = some (.int .i64 More) := hbox 2 _ rfl
  have k3 : w1.cell? ⟨bb, 3, none⟩ = some (.bool odd) := hbox 3 _ rfl
  have hcel1 : ∀ (j : Nat) x, l[j]? = some x → w1.cell? ⟨g, o + j, none⟩ = some (.string x) := fun j x hx => hc1.keep (hcel j x hx) (fun e => e)
  obtain ⟨L, hL⟩ : ∃ L, L = l.length := ⟨_, rfl⟩
  rw [← hL]
  rw [← hL] at hl hc
  have HL := Lib.hid hL
  have Hf := Lib.hid hf
  have Hs := Lib.hid hs
  have Hc1 := Lib.hid hc1
  have Hbb := Lib.hid hbb
  have Hs1 := Lib.hid hs1
  have Hcel1 := Lib.hid hcel1
  have Hw1 := Lib.hid hw1
  have h0 : Owns w1 w1.heap.size [(2, .slice none 0 0, [])] := (Owns.empty w1 _).consNil _ (Nat.le_refl _)
  have H0 := Lib.hid h0
  clear hL hf hs hc1 hbb hs1 hcel1 hw1 hcel hbox h0
  go_enter Tryz.func21, Tryz.ntmps21
  go_upto_region 1 with fail
  rw [← Hbb.out, ← Hw1.out]
  go_wp2_with fail
  go_loopw [5, 6, 11] (fun v5 v6 v11 wr => ∃ (i : Nat) (t5 : Value), v11 = .int .i64 i ∧ t5 = v5 ∧ v6 = .string (catS (l.take i)) ∧ i ≤ L ∧ Owns wr w1.heap.size [(2, t5, ksOf .i64 ((lenI (l.map sbytes)).take i))] ∧ Chg Nix w1 wr ∧ (catS (l.take i)).size ≤ 4096 * i) (fun _ _ v11 _ => L - (intOf v11).toNat)
  case atStart => exact ⟨0, _, rfl, rfl, rfl, Nat.zero_le _, by simp [ksOf]; exact H0.out, Chg.refl _ _, by simp [catS, ByteArray.size]⟩
  case round =>
    obtain ⟨i, v5, rfl, rfl, rfl, hiL, hO, hN, hsz⟩ := hrel
    clear H0
    have HO := Lib.hid hO
    have HN := Lib.hid hN
    by_cases hlt : i < L
    · obtain ⟨x, hx⟩ : ∃ x, l[i]? = some x := ⟨_, List.getElem?_eq_getElem (by have := HL.out; omega)⟩
      have hcx := hN.keep (Hcel1.out i x hx) (fun e => e)
      have hxs := Hs.out x (List.mem_of_getElem? hx)
      have f1 : (i : Int) < L := by omega
      have f2 : (0 : Int) ≤ i := by omega
      have f3 : (i : Int).toNat = i := by omega
      obtain ⟨cs, hcs⟩ : ∃ cs, cs = catS (l.take i) := ⟨_, rfl⟩
      rw [← hcs] at hsz ⊢
      have Hx := Lib.hid hx
      have Hcs := Lib.hid hcs
      clear hO hN hx hcs
      go_wp2_with (at_builtin; go_loud (refine (wpList_app info64 rfl (by decide) Tryz.underlying54 rfl (.tmp 15) (.tmp 18) rfl (HO.out.nix (Chg.new _ _)) (HN.out.alloc _) 0 _ _ rfl rfl _ [.int .i64 (x.size : Int)] rfl (one_reads _ _ _) (by intro u hu; simp at hu; subst hu; rfl) (by rw [ksOf_len, List.length_take]; simp; omega) ?_)))
      intro vN wN hON hNN
      have hget : (lenI (l.map sbytes))[i]? = some (x.size : Int) := by
        unfold lenI
        rw [List.getElem?_map, List.getElem?_map, Hx.out]
        show some (((sbytes x).length : Nat) : Int) = _
        rw [sbytes_len]
      have hO2 : Owns wN w1.heap.size [(2, vN, ksOf .i64 ((lenI (l.map sbytes)).take (i + 1)))] := by
        rw [List.take_add_one, hget, ksOf_app]
        exact hON
      have HO2 := Lib.hid hO2
      have HN2 := Lib.hid hNN
      clear hON hO2 hNN hget
      have hadd : ¬ (9223372036854775807 < cs.size + x.size) := by omega
      have hcat : cs ++ x = catS (l.take (i + 1)) := by
        rw [List.take_add_one, Hx.out, Hcs.out]
        exact (catS_snoc _ x).symm
      have hsz2 : (catS (l.take (i + 1))).size ≤ 4096 * (i + 1) := by
        rw [← hcat, ByteArray.size_append]; omega
      have Hcat := Lib.hid hcat
      have Hsz2 := Lib.hid hsz2
      clear hcat hsz2
      go_wp2_with fail
      go_roundw
      case rel => exact ⟨i + 1, _, by go_num, rfl, by rw [Hcat.out], hlt, HO2.out, HN2.out, Hsz2.out⟩
      case measure => simp [intOf]; omega
    · obtain rfl : i = L := by omega
      have hti : l.take i = l := List.take_of_length_le (by have := HL.out; omega)
      have htl : (lenI (l.map sbytes)).take i = lenI (l.map sbytes) := List.take_of_length_le (by unfold lenI; rw [List.length_map, List.length_map]; have := HL.out; omega)
      have hlen : (lenI (l.map sbytes)).length = i := by unfold lenI; rw [List.length_map, List.length_map]; exact HL.out.symm
      rw [htl] at hO
      rw [hti] at hsz ⊢
      have hne2 : lenI (l.map sbytes) ≠ [] := by
        intro e
        have := congrArg List.length e
        rw [hlen, HL.out] at this
        exact hne (List.eq_nil_of_length_eq_zero this)
      obtain ⟨x0, ys, hxy⟩ : ∃ x0 ys, lenI (l.map sbytes) = x0 :: ys := by
        cases h : lenI (l.map sbytes) with
        | nil => exact absurd h hne2
        | cons x0 ys => exact ⟨x0, ys, rfl⟩
      have hrng : ∀ x ∈ x0 :: ys, 0 ≤ x ∧ x ≤ 4096 := by
        intro x hx
        rw [← hxy] at hx
        unfold lenI at hx
        obtain ⟨r, hr, rfl⟩ := List.mem_map.1 hx
        obtain ⟨t, ht, rfl⟩ := List.mem_map.1 hr
        have := Hs.out t ht
        rw [sbytes_len]
        omega
      obtain ⟨gd, cap, rfl, hcap, hcapm, hcd⟩ := own_form (hO.at 0 rfl) hne2
      have hlen2 : (x0 :: ys).length = i := by rw [← hxy]; exact hlen
      have hcall := fun (W : World) (hW : Chg Nix wr W) => putDeltas_ok W gd 0 cap S M More odd x0 ys Hf.out hMore (by simp at hlen2; omega) hrng (by rw [← hxy]; exact hcap) (fun j x hx => by rw [Nat.zero_add]; rw [← hxy] at hx; exact hW.keep (hcd j x hx) (fun e => e))
      rw [hlen2] at hcall
      rw [hlen]
      have hkk0 := hN.keep k0 (fun e => e)
      have hkk1 := hN.keep k1 (fun e => e)
      have hkk2 := hN.keep k2 (fun e => e)
      have hkk3 := hN.keep k3 (fun e => e)
      have Hcall := Lib.hid hcall
      have Hxy := Lib.hid hxy
      have HcN := Lib.hid hN
      clear hcall hxy hO hN hcd hcap hlen hlen2 hrng hti htl hne2 HO HN
      go_wp2_with fail
      refine (Hcall.out _ (Chg.refl _ _)).mono ?_
      rintro e wD ⟨v, bs, rfl, ho, henc, hblt, hbl, hcD⟩
      have hOv : Owns wD wr.heap.size [(5, v, u8s bs)] := (Owns.empty wr _).cons hcD ho (Nat.le_refl _)
      have hszc : (catS l).size ≤ 9000000 := by omega
      have HOv := Lib.hid hOv
      have HcD := Lib.hid hcD
      have Henc := Lib.hid henc
      have Hblt := Lib.hid hblt
      clear ho hcD henc hblt hOv
      go_wp2_with (at_builtin; go_loud (refine (wpList_appS rfl (.tmp 26) (.tmp 27) rfl HOv.out HcD.out 0 _ _ rfl rfl (catS l) rfl (by rw [u8s_len]; omega) ?_)))
      intro vE wE hOE hNE
      have hfin : Own1 wE wr.heap.size 5 vE (u8s (bs ++ (l.map sbytes).flatten)) := by
        rw [u8s_app, ← sbytes_cat]
        exact hOE.at 0 rfl
      have Hfin := Lib.hid hfin
      have HNE := Lib.hid hNE
      clear hfin hOE hNE
      go_wp2_with fail
      go_ret
      have hw := HcN.out.size
      have h1 := Hs1.out
      have h2 := Hbb.out
      exact ⟨_, bs, rfl, Hfin.out.lower (by omega), Hxy.out ▸ Henc.out, Hblt.out, hbl, (Hc1.out.trans HcN.out).trans HNE.out⟩
end Go.Proofs.YtaageikelkcphaaGreatDoor
/- spec.PutPrefixes: what is written. -/
namespace Go.Proofs.YtaageikelkcphaaGreatDoor
open Go Go.RowKit Go.Proofs.YtaageikelkcphaaGreatDoor.PFnPrefixesRead Go.Proofs.YtaageikelkcphaaGreatDoorW.PrintWords Go.Proofs.YtaageikelkcphaaGreatDoorW.PrintMore
theorem Prefs.snoc {last : List Nat} {ns : List Nat} {rs ls : List (List Nat)} (h : Prefs last ns rs ls) : ∀ (p : List Nat) (n : Nat) (r : List Nat), (last :: ls)[ls.length]? = some p → n ≤ p.length → Prefs last (ns ++ [n]) (rs ++ [r]) (ls ++ [p.take n ++ r]) := by
  induction h with
  | nil last =>
    intro p n r hp hn
    have : p = last := by simpa using hp.symm
    subst this
    exact .cons hn (.nil _)
  | @cons last m q ns rs ls hm h ih =>
    intro p n r hp hn
    exact .cons hm (ih p n r (by simpa using hp) hn)
/-- What two texts share, up to place n. -/
theorem share_next {a b : List Nat} {n : Nat} (h : a.take n = b.take n) {x : Nat} (ha : a[n]? = some x) (hb : b[n]? = some x) : a.take (n + 1) = b.take (n + 1) := by
  rw [List.take_add_one, List.take_add_one, h, ha, hb]
theorem sbytes_get (s : ByteArray) (n : Nat) (h : n < s.size) : (sbytes s)[n]? = some (s[n].toNat) := by
  unfold sbytes
  rw [List.getElem?_map, List.getElem?_eq_getElem (by rw [Array.length_toList]; exact h)]
  rfl
theorem reads_cell {W : World} {b : Nat} {y : Value} (h : W.cell? ⟨b, 0, none⟩ = some y) : Reads W (.slice (some ⟨b, 0, none⟩) 1 1) [y] := by
  refine ⟨_, 1, rfl, .inr ⟨b, 0, rfl, fun j u hu => ?_⟩⟩
  cases j with
  | zero => simp at hu; subst hu; exact h
  | succ j => simp at hu
/-- append at a step of a region that draws its order. -/
theorem step_app {e t : TypeId} {z : Value} {by_ : Nat} (hinf : (Tryz.prog.info? e).map (fun i => (i.zero, i.size, i.bytes)) = some (some z, 1, by_)) (hzs : z.cells.size = 1) (hby : by_ ≤ 24) (ht : Tryz.prog.underlying t = some (.slice e))
    {w1 w : World} {ops : Array Oper} {o : Oper} {a : Act} {K : Act → World → Prop} {Q : Exit → Act → World → Prop} {E : Prop} (hgd : o.guard = none) (s x : Operand)
    (ho : o.op = .call { callee := .builtin .append, args := #[s, x], argTypes := #[t, t] }) (B0 : Nat)
    {L : List (TypeId × Value × List Value)} (i : Nat) (v : Value) (xs : List Value) (hs : a.eval s = v) (hO : Owns w w1.heap.size L) (hN : Chg Nix w1 w) (hi : L[i]? = some (e, v, xs)) (hB0 : ∀ g, v.ownBlock = some g → g < B0)
    (b : Nat) (y : Value) (hx : a.eval x = .slice (some ⟨b, 0, none⟩) 1 1) (hy : w.cell? ⟨b, 0, none⟩ = some y) (h1 : y.oneCell' = true)
    (hb : xs.length + 1 ≤ 1000000000)
    (h : ∀ v' w', Owns w' w1.heap.size (L.set i (e, v', xs ++ [y])) → Chg Nix w1 w' → (∀ b y, B0 ≤ b → w.cell? ⟨b, 0, none⟩ = some y → w'.cell? ⟨b, 0, none⟩ = some y) → K (a.put o.dst v') w') :
    if Region.wanted o (yielded ops a.tmps) = true then Oper.wp Tryz.prog o a w K Q else E := by
  have hw : Region.wanted o (yielded ops a.tmps) = true := by simp [Region.wanted, hgd]
  rw [if_pos hw]
  obtain ⟨inf, hinf1, hinf2⟩ := Option.map_eq_some_iff.1 hinf
  injection hinf2 with h2 h3
  injection h3 with h3 h4
  refine wp_append_own w s x t ho w1.heap.size e inf z by_ ht hinf1 h2 h3 h4 hzs v xs hs (hO.at i hi) _ [y] hx (reads_cell hy) (by intro u hu; rw [List.mem_singleton.1 hu]; exact h1) (by unfold maxLen; simp; omega) ?_ hN.size (fun v' w' k1 k2 k3 => h v' w' (hO.put i hi k1 k2 k3) (nixOwn hN (fun g hg => ((hO.at i hi).lt g hg).1) k2) (fun b y hb hc => k2.keep hc (fun hh => by have := hB0 b hh; omega)))
  have := Nat.mul_le_mul hb hby
  simp only [List.length_singleton]
  omega
theorem kints_snoc (ns : List Nat) (n : Nat) : ksOf .i64 (ints (ns ++ [n])) = ksOf .i64 (ints ns) ++ [.int .i64 n] := by
  unfold ksOf ints
  rw [List.map_append, List.map_append]
  rfl
theorem sbytes_extract (x : ByteArray) (n : Nat) : sbytes (x.extract n x.size) = (sbytes x).drop n := by
  unfold sbytes
  rw [← List.map_drop]
  congr 1
  rw [ByteArray.data_extract, Array.toList_extract]
  rw [List.extract_eq_take_drop, List.take_of_length_le]
  rw [List.length_drop, Array.length_toList]
  exact Nat.le_refl _
theorem own_str {w : World} {base : Nat} {e : TypeId} {v : Value} {xs : List ByteArray} (h : Own1 w base e v (xs.map Value.string)) (hne : xs ≠ []) : ∃ g cap, v = .slice (some ⟨g, 0, none⟩) xs.length cap ∧ xs.length ≤ cap ∧ ∀ (j : Nat) x, xs[j]? = some x → w.cell? ⟨g, j, none⟩ = some (.string x) := by
  have h1 := h
  rcases h.2 with ⟨rfl, hn⟩ | ⟨g, cap, cur, rfl, hbg, hg, hnc, hcm, rest⟩
  · rw [List.length_map] at hn
    exact absurd (List.eq_nil_of_length_eq_zero hn) hne
  · rw [List.length_map] at hnc ⊢
    refine ⟨g, cap, rfl, hnc, fun j x hx => ?_⟩
    have := World.ownsRow.cells h1 (g := g) (by rw [List.length_map]; rfl) j _ (show (xs.map Value.string)[j]? = some (.string x) by rw [List.getElem?_map, hx]; rfl)
    rwa [addr_add, Nat.zero_add] at this
theorem flat_len : ∀ (rs : List ByteArray), (∀ r ∈ rs, r.size ≤ 4096) → ∀ {i : Nat}, rs.length = i → ((rs.map sbytes).flatten).length ≤ 4096 * i
  | [], _, i, h => by simp
  | r :: rs, h, i, hi => by
    obtain ⟨k, rfl⟩ : ∃ k, i = k + 1 := ⟨rs.length, hi.symm⟩
    have h1 := flat_len rs (fun r hr => h r (List.mem_cons_of_mem _ hr)) (i := k) (by simpa using hi)
    have h2 := h r List.mem_cons_self
    rw [List.map_cons, List.flatten_cons, List.length_append, sbytes_len]
    omega
/-- The state of the loop over the texts. -/
structure PutI (w1 wx : World) (l : List ByteArray) (i : Nat) (v7 v8 : Value) (last : ByteArray) (ns : List Nat) (rs : List ByteArray) : Prop where
  own : Owns wx w1.heap.size [(2, v7, ksOf .i64 (ints ns)), (9, v8, rs.map Value.string)]
  nix : Chg Nix w1 wx
  pre : Prefs [] ns (rs.map sbytes) ((l.take i).map sbytes)
  lst : ([] :: (l.take i).map sbytes)[i]? = some (sbytes last)
  nl : ns.length = i
  rl : rs.length = i
  ns4 : ∀ n ∈ ns, n ≤ 4096
  rs4 : ∀ r ∈ rs, r.size ≤ 4096
  l4 : last.size ≤ 4096
set_option maxRecDepth 100000 in
set_option maxHeartbeats 4000000 in
theorem putPrefixes_ok (w : World) (g o c S M More less : Nat) (odd : Bool) (l : List ByteArray) (hne : l ≠ []) (hf : BlkFit S M) (hMore : More ≤ 8) (hless : less ≤ 10) (hl : l.length ≤ 2000) (hs : ∀ s ∈ l, s.size ≤ 4096) (hc : l.length ≤ c)
    (hcel : ∀ (j : Nat) x, l[j]? = some x → w.cell? ⟨g, o + j, none⟩ = some (.string x)) :
    Calls Tryz.prog 9 #[.slice (some ⟨g, o, none⟩) l.length c, .agg #[.int .i64 S, .int .i64 M, .int .i64 More, .bool odd], .int .i64 less] w fun e w' =>
      ∃ (v : Value) (bs bs2 ns : List Nat) (rs : List ByteArray), e = .returned v ∧ Own1 w' w.heap.size 5 v (u8s (bs ++ (bs2 ++ (rs.map sbytes).flatten))) ∧ Prefs [] ns (rs.map sbytes) (l.map sbytes) ∧ DeltaEnc RowKit.wrap32 32 S M (natI ns) bs ∧ DeltaEnc RowKit.wrap32 32 S M (lenI (rs.map sbytes)) bs2 ∧ (∀ n ∈ ns, n ≤ 4096) ∧ (∀ r ∈ rs, r.size ≤ 4096) ∧ (∀ x ∈ bs, x < 256) ∧ (∀ x ∈ bs2, x < 256) ∧ bs.length ≤ 1000200 ∧ bs2.length ≤ 1000200 ∧ Chg Nix w w' := by
  obtain ⟨w1, hw1⟩ : ∃ w1, w1 = w.alloc (.cells #[.int .i64 S, .int .i64 M, .int .i64 More, .bool odd] 24) := ⟨_, rfl⟩
  have hc1 : Chg Nix w w1 := by rw [hw1]; exact Chg.new _ _
  obtain ⟨bb, hbb⟩ : ∃ bb, bb = w.heap.size := ⟨_, rfl⟩
  have hbox : ∀ (j : Nat) u, #[Value.int .i64 S, .int .i64 M, .int .i64 More, .bool odd][j]? = some u → w1.cell? ⟨bb, j, none⟩ = some u := fun j u hu => by
    rw [hw1]; subst hbb; rw [World.cell?_alloc_new]; exact hu
  have hs1 : w1.heap.size = bb + 1 := by rw [hw1, hbb]; simp
  have k0 : w1.cell? ⟨bb, 0, none⟩ = some (.int .i64 S) := hbox 0 _ rfl
  have k1 : w1.cell? ⟨bb, 1, none⟩ = some (.int .i64 M) := hbox 1 _ rfl
  have k2 : w1.cell? ⟨bb, 2, none⟩ = some (.int .i64 More) := hbox 2 _ rfl
  have k3 : w1.cell? ⟨bb, 3, none⟩ = some (.bool odd) := hbox 3 _ rfl
  have hcel1 : ∀ (j : Nat) x, l[j]? = some x → w1.cell? ⟨g, o + j, none⟩ = some (.string x) := fun j x hx => hc1.keep (hcel j x hx) (fun e => e)
  obtain ⟨L, hL⟩ : ∃ L, L = l.length := ⟨_, rfl⟩
  rw [← hL]
  rw [← hL] at hl hc
  have h0 : PutI w1 w1 l 0 (.slice none 0 0) (.slice none 0 0) ⟨#[]⟩ [] [] := ⟨((Owns.empty w1 _).consNil _ (Nat.le_refl _)).consNil _ (Nat.le_refl _), Chg.refl _ _, .nil _, rfl, rfl, rfl, fun n hn => by simp at hn, fun n hn => by simp at hn, by decide⟩
  have HL := Lib.hid hL
  have Hf := Lib.hid hf
  have Hs := Lib.hid hs
  have Hc1 := Lib.hid hc1
  have Hbb := Lib.hid hbb
  have Hs1 := Lib.hid hs1
  have Hcel1 := Lib.hid hcel1
  have Hw1 := Lib.hid hw1
  have H0 := Lib.hid h0
  clear hL hf hs hc1 hbb hs1 hcel1 hw1 hcel hbox h0
  go_enter Tryz.func9, Tryz.ntmps9
  go_upto_region 1 with fail
  rw [← Hbb.out, ← Hw1.out]
  go_wp2_with fail
  go_loopw [7, 8, 9, 15] (fun v7 v8 v9 v15 wr => ∃ (i : Nat) (t7 t8 : Value) (last : ByteArray) (ns : List Nat) (rs : List ByteArray), v15 = .int .i64 i ∧ t7 = v7 ∧ t8 = v8 ∧ v9 = .string last ∧ i ≤ L ∧ PutI w1 wr l i t7 t8 last ns rs) (fun _ _ _ v15 _ => L - (intOf v15).toNat)
  case atStart => exact ⟨0, _, _, _, [], [], rfl, rfl, rfl, rfl, Nat.zero_le _, H0.out⟩
  case round =>
    obtain ⟨i, v7, v8, last, ns, rs, rfl, rfl, rfl, rfl, hiL, hP⟩ := hrel
    clear H0
    have HP := Lib.hid hP
    by_cases hlt : i < L
    · obtain ⟨x, hx⟩ : ∃ x, l[i]? = some x := ⟨_, List.getElem?_eq_getElem (by have := HL.out; omega)⟩
      have hcx := hP.nix.keep (Hcel1.out i x hx) (fun e => e)
      have hxs := Hs.out x (List.mem_of_getElem? hx)
      have hl4 := hP.l4
      have f1 : (i : Int) < L := by omega
      have f2 : (0 : Int) ≤ i := by omega
      have f3 : (i : Int).toNat = i := by omega
      have Hx := Lib.hid hx
      clear hP hx
      go_upto_block 2 with fail
      go_cut [12] (fun v12 wx => ∃ n : Nat, v12 = .int .i64 n ∧ n ≤ x.size ∧ n ≤ last.size ∧ (sbytes x).take n = (sbytes last).take n ∧ Chg Nix wr wx)
      case first =>
        obtain ⟨wb, hwb⟩ : ∃ wb, wb = wr := ⟨_, rfl⟩
        have Hwb := Lib.hid hwb
        go_wp2_with fail
        go_loopw [12] (fun v12 wx => ∃ n : Nat, v12 = .int .i64 n ∧ n ≤ x.size ∧ n ≤ last.size ∧ (sbytes x).take n = (sbytes last).take n ∧ Chg Nix wb wx) (fun v12 _ => x.size - (intOf v12).toNat)
        case atStart => exact ⟨0, rfl, Nat.zero_le _, Nat.zero_le _, rfl, hwb ▸ Chg.refl _ _⟩
        case round =>
          obtain ⟨n, rfl, hn1, hn2, hsh, hwd⟩ := hrel
          clear hwb
          have Hwd := Lib.hid hwd
          have Hsh := Lib.hid hsh
          have f6 : (0 : Int) ≤ n := by omega
          have f7 : (n : Int).toNat = n := by omega
          clear hwd hsh
          by_cases hc1 : n < x.size
          · by_cases hc2 : n < last.size
            · have f4 : (n : Int) < x.size := by omega
              have f5 : (n : Int) < last.size := by omega
              go_upto_region 8 with fail
              go_quiet (fail)
              have hxa : (sbytes x)[n]? = some (x[n].toNat) := sbytes_get x n hc1
              have hxb : (sbytes last)[n]? = some (last[n].toNat) := sbytes_get last n hc2
              by_cases heq : x[n].toNat = last[n].toNat
              · have heq1 : ((x[n].toNat : Int) == last[n].toNat) = true := by rw [heq]; exact beq_self_eq_true _
                have hnx : (sbytes x).take (n + 1) = (sbytes last).take (n + 1) := share_next Hsh.out hxa (by rw [hxb, heq])
                have Hnx := Lib.hid hnx
                clear heq hxa hxb hnx
                go_wp2_with fail
                go_roundw
                case rel => exact ⟨n + 1, by go_num, hc1, hc2, Hnx.out, Hwd.out.drewN _⟩
                case measure => simp [intOf]; omega
              · have heq1 : ((x[n].toNat : Int) == last[n].toNat) = false := beq_eq_false_iff_ne.2 (by omega)
                clear heq hxa hxb
                go_wp2_with fail
                go_meet
                exact ⟨n, rfl, hn1, hn2, Hsh.out, Hwb.out ▸ Hwd.out.drewN _⟩
            · have f4 : (n : Int) < x.size := by omega
              have f5 : ¬ (n : Int) < last.size := by omega
              go_upto_region 8 with fail
              go_quiet (fail)
              go_wp2_with fail
              go_meet
              exact ⟨n, rfl, hn1, hn2, Hsh.out, Hwb.out ▸ Hwd.out.drewN _⟩
          · have f4 : ¬ (n : Int) < x.size := by omega
            go_upto_region 8 with fail
            go_quiet (fail)
            go_wp2_with fail
            go_meet
            exact ⟨n, rfl, hn1, hn2, Hsh.out, Hwb.out ▸ Hwd.out.drewN _⟩
      case rest =>
        obtain ⟨n0, rfl, hn1, hn2, hsh, hcW⟩ := hcut
        have Hsh := Lib.hid hsh
        have HcW := Lib.hid hcW
        clear hsh hcW
        obtain ⟨n, hn⟩ : ∃ n, n = n0 - less := ⟨_, rfl⟩
        have hnn : (if less < n0 then (n0 : Int) - less else 0) = (n : Int) := by split <;> omega
        have hnx : n ≤ x.size := by omega
        have hnl : n ≤ last.size := by omega
        have hshn : (sbytes x).take n = (sbytes last).take n := by
          have := congrArg (List.take n) Hsh.out
          rwa [List.take_take, List.take_take, Nat.min_eq_left (by omega)] at this
        have Hnn := Lib.hid hnn
        have Hshn := Lib.hid hshn
        clear hn hnn hshn
        go_upto_region 11 with fail
        rw [Hnn.out]
        have f6 : (0 : Int) ≤ n := by omega
        have f7 : (n : Int).toNat = n := by omega
        have f8 : (n : Int) ≤ x.size := by omega
        go_cut [7, 8] (fun v7 v8 wx => ∃ (rest : ByteArray) (t7 t8 : Value), t7 = v7 ∧ t8 = v8 ∧ sbytes rest = (sbytes x).drop n ∧ rest.size ≤ x.size ∧ Owns wx w1.heap.size [(2, t7, ksOf .i64 (ints (ns ++ [n]))), (9, t8, (rs ++ [rest]).map Value.string)] ∧ Chg Nix w1 wx)
        case first =>
          have hOr := HP.out.own.nix HcW.out
          have hNr := HP.out.nix.trans HcW.out
          have hb7 := fun g hg => ((hOr.at 0 rfl).lt g hg).2
          have hb8 := fun g hg => ((hOr.at 1 rfl).lt g hg).2
          have hnsl := HP.out.nl
          have hrsl := HP.out.rl
          have hg8 : ∀ g, v8.ownBlock = some g → g < wc.heap.size := hb8
          have Hb7 := Lib.hid hb7
          have Hg8 := Lib.hid hg8
          have HOr := Lib.hid hOr
          have HNr := Lib.hid hNr
          clear hb7 hb8 hg8 hOr hNr
          go_region_law (first
            | (refine step_app info64 rfl (by decide) Tryz.underlying54 (by rfl) (.tmp 44) (.tmp 46) (by rfl) wc.heap.size 0 _ _ (by rfl) (HOr.out.nix (by repeat (first | exact Chg.refl _ _ | refine Chg.alloc ?_ _ | refine Chg.drew ?_))) (HNr.out.trans (by repeat (first | exact Chg.refl _ _ | refine Chg.alloc ?_ _ | refine Chg.drew ?_))) (by rfl) Hb7.out _ (.int .i64 n) (by rfl) (by simp) rfl (by rw [ksOf_len, ints_len]; omega) ?_; intro vA wA hOA hNA hfar; have HOA := Lib.hid hOA; have HNA := Lib.hid hNA; clear hOA hNA)
            | (refine step_app infoStr rfl (by decide) Tryz.underlying22 (by rfl) (.tmp 48) (.tmp 52) (by rfl) wc.heap.size 1 _ _ (by rfl) (HOA.out.nix (by repeat (first | exact Chg.refl _ _ | refine Chg.alloc ?_ _ | refine Chg.drew ?_))) (HNA.out.trans (by repeat (first | exact Chg.refl _ _ | refine Chg.alloc ?_ _ | refine Chg.drew ?_))) (by rfl) Hg8.out _ (.string (x.extract n x.size)) (by rfl) (by first | (simp; done) | exact hfar _ _ (by simp) (by simp)) rfl (by rw [List.length_map]; omega) ?_; intro vB wB hOB hNB hfar2; have HOB := Lib.hid hOB; have HNB := Lib.hid hNB; clear hOB hNB hfar2))
          all_goals (go_wp2_with fail; go_meet; exact ⟨x.extract n x.size, _, _, rfl, rfl, sbytes_extract x n, by rw [ByteArray.size_extract]; omega, by rw [kints_snoc, List.map_append]; exact HOB.out, HNB.out⟩)
        case rest =>
          obtain ⟨rest, z7, z8, rfl, rfl, hrest, hrsz, hO2, hN2⟩ := hcut
          have hnext : PutI w1 wc l (i + 1) z7 z8 x (ns ++ [n]) (rs ++ [rest]) := by
            have htk : (l.take (i + 1)).map sbytes = (l.take i).map sbytes ++ [sbytes x] := by
              rw [List.take_add_one, Hx.out, List.map_append]; rfl
            have hlen : ((l.take i).map sbytes).length = i := by rw [List.length_map, List.length_take]; have := HL.out; omega
            have hsx : sbytes x = (sbytes last).take n ++ sbytes rest := by rw [← Hshn.out, hrest, List.take_append_drop]
            have hp := HP.out.pre.snoc (sbytes last) n (sbytes rest) (by rw [hlen]; exact HP.out.lst) (by rw [sbytes_len]; exact hnl)
            refine ⟨hO2, hN2, ?_, ?_, by rw [List.length_append, HP.out.nl]; rfl, by rw [List.length_append, HP.out.rl]; rfl, fun m hm => ?_, fun r hr => ?_, hxs⟩
            · rw [htk, List.map_append, hsx]
              exact hp
            · rw [htk, List.getElem?_cons_succ, List.getElem?_append_right (by omega), hlen, Nat.sub_self]; rfl
            · rcases List.mem_append.1 hm with hm | hm
              · exact HP.out.ns4 m hm
              · rw [List.mem_singleton.1 hm]; omega
            · rcases List.mem_append.1 hr with hr | hr
              · exact HP.out.rs4 r hr
              · rw [List.mem_singleton.1 hr]; omega
          have Hnext := Lib.hid hnext
          clear hnext hrest hrsz hO2 hN2
          go_wp2_with fail
          go_roundw
          case rel => exact ⟨i + 1, _, _, x, _, _, by go_num, rfl, rfl, rfl, hlt, Hnext.out⟩
          case measure => simp [intOf]; omega
    · obtain rfl : i = L := by omega
      have f1 : ¬ (i : Int) < i := by omega
      have hti : l.take i = l := List.take_of_length_le (by have := HL.out; omega)
      have hL0 : 0 < i := by have := List.length_pos_iff.2 hne; have := HL.out; omega
      have hpre := hP.pre
      rw [hti] at hpre
      have hnl := hP.nl
      have hrl := hP.rl
      have hkk0 := hP.nix.keep k0 (fun e => e)
      have hkk1 := hP.nix.keep k1 (fun e => e)
      have hkk2 := hP.nix.keep k2 (fun e => e)
      have hkk3 := hP.nix.keep k3 (fun e => e)
      obtain ⟨gd, cap, rfl, hcap, hcapm, hcd⟩ := own_form (hP.own.at 0 rfl) (by intro e; have := congrArg List.length e; rw [ints_len, hnl] at this; simp at this; omega)
      obtain ⟨gr, capr, rfl, hcapr, hcr⟩ := own_str (hP.own.at 1 rfl) (by intro e; have := congrArg List.length e; rw [hrl] at this; simp at this; omega)
      rw [ints_len, hnl] at hcap ⊢
      rw [hrl] at hcapr ⊢
      have HX : ∃ x0 ys, ints ns = x0 :: ys := by
        cases h : ints ns with
        | nil =>
          have := congrArg List.length h
          rw [ints_len, hnl] at this
          simp at this
          omega
        | cons x0 ys => exact ⟨x0, ys, rfl⟩
      obtain ⟨x0, ys, hxy⟩ := HX
      have hlen2 : (x0 :: ys).length = i := by rw [← hxy, ints_len, hnl]
      have hrng : ∀ x ∈ x0 :: ys, 0 ≤ x ∧ x ≤ 4096 := by
        intro x hx
        rw [← hxy] at hx
        unfold ints at hx
        obtain ⟨r, hr, rfl⟩ := List.mem_map.1 hx
        have := hP.ns4 r hr
        omega
      have hcall := fun (W : World) (hW : Chg Nix wr W) => putDeltas_ok W gd 0 cap S M More odd x0 ys Hf.out hMore (by simp at hlen2; omega) hrng (by rw [hlen2]; exact hcap) (fun j x hx => by rw [Nat.zero_add]; rw [← hxy] at hx; exact hW.keep (hcd j x hx) (fun e => e))
      rw [hlen2] at hcall
      have hcall2 := fun (W : World) (hW : Chg Nix wr W) => putLengths_ok W gr 0 capr S M More odd rs (by intro e; rw [e] at hrl; simp at hrl; omega) Hf.out hMore (by omega) hP.rs4 (by omega) (fun j x hx => by rw [Nat.zero_add]; exact hW.keep (hcr j x hx) (fun e => e))
      rw [hrl] at hcall2
      have hns4 := hP.ns4
      have hrs4 := hP.rs4
      have hN := hP.nix
      have Hcall := Lib.hid hcall
      have Hcall2 := Lib.hid hcall2
      have Hpre := Lib.hid hpre
      have Hxy := Lib.hid hxy
      have Hns4 := Lib.hid hns4
      have Hrs4 := Lib.hid hrs4
      have HN := Lib.hid hN
      have HI : HR.InvL [(⟨bb, 0, none⟩, .int .i64 S), (⟨bb, 1, none⟩, .int .i64 M), (⟨bb, 2, none⟩, .int .i64 More), (⟨bb, 3, none⟩, .bool odd)] wr.drew := .cons hkk0 (.cons hkk1 (.cons hkk2 (.cons hkk3 (.nil _))))
      have hload : ∀ w', HR.InvL [(⟨bb, 0, none⟩, .int .i64 S), (⟨bb, 1, none⟩, .int .i64 M), (⟨bb, 2, none⟩, .int .i64 More), (⟨bb, 3, none⟩, .bool odd)] w' → w'.cell? ⟨bb, 0, none⟩ = some (.int .i64 S) ∧ w'.cell? ⟨bb, 1, none⟩ = some (.int .i64 M) ∧ w'.cell? ⟨bb, 2, none⟩ = some (.int .i64 More) ∧ w'.cell? ⟨bb, 3, none⟩ = some (.bool odd) := fun w' h => ⟨h.get 0 rfl, h.get 1 rfl, h.get 2 rfl, h.get 3 rfl⟩
      have Hload := Lib.hid hload
      have hI0 : HR.InvL [(⟨bb, 0, none⟩, .int .i64 S), (⟨bb, 1, none⟩, .int .i64 M), (⟨bb, 2, none⟩, .int .i64 More), (⟨bb, 3, none⟩, .bool odd)] wr := .cons hkk0 (.cons hkk1 (.cons hkk2 (.cons hkk3 (.nil _))))
      have Hrl := Lib.hid hrl
      have hinv : ∀ w' w'' : World, HR.InvL [(⟨bb, 0, none⟩, .int .i64 S), (⟨bb, 1, none⟩, .int .i64 M), (⟨bb, 2, none⟩, .int .i64 More), (⟨bb, 3, none⟩, .bool odd)] w' → Chg Nix w' w'' → HR.InvL [(⟨bb, 0, none⟩, .int .i64 S), (⟨bb, 1, none⟩, .int .i64 M), (⟨bb, 2, none⟩, .int .i64 More), (⟨bb, 3, none⟩, .bool odd)] w'' := fun w' w'' h hc => .cons (hc.keep (h.get 0 rfl) (fun e => e)) (.cons (hc.keep (h.get 1 rfl) (fun e => e)) (.cons (hc.keep (h.get 2 rfl) (fun e => e)) (.cons (hc.keep (h.get 3 rfl) (fun e => e)) (.nil _))))
      have Hinv := Lib.hid hinv
      clear hcall hcall2 hpre hxy hP HP hcd hcr hrng hti hlen2 hns4 hrs4 hN hcap hcapr hload hinv hnl hrl
      go_upto_region 14 with fail
      refine HR.region (HR.InvL [(⟨bb, 0, none⟩, .int .i64 S), (⟨bb, 1, none⟩, .int .i64 M), (⟨bb, 2, none⟩, .int .i64 More), (⟨bb, 3, none⟩, .bool odd)]) (by kernel_rfl) (by kernel_rfl) ?_
      repeat (first | (refine HR.pure rfl rfl (fun K hK => ?_); go_simp; refine hK _ ?_; clear hK K) | (refine HR.loadI HI 0 rfl rfl rfl ?_ ?_; (focus (intro w' hc; go_simp; done)); go_simp) | (refine HR.loadI HI 1 rfl rfl rfl ?_ ?_; (focus (intro w' hc; go_simp; done)); go_simp) | (refine HR.loadI HI 2 rfl rfl rfl ?_ ?_; (focus (intro w' hc; go_simp; done)); go_simp) | (refine HR.loadI HI 3 rfl rfl rfl ?_ ?_; (focus (intro w' hc; go_simp; done)); go_simp))
      refine HR.load rfl rfl HI (fun K hK => ⟨.agg #[.int .i64 S, .int .i64 M, .int .i64 More, .bool odd], fun w' hw' => (by obtain ⟨z0, z1, z2, z3⟩ := Hload.out w' hw'; go_simp), ?_⟩)
      refine hK _ ?_
      clear hK K
      repeat (first | (refine HR.pure rfl rfl (fun K hK => ?_); go_simp; refine hK _ ?_; clear hK K) | (refine HR.loadI HI 0 rfl rfl rfl ?_ ?_; (focus (intro w' hc; go_simp; done)); go_simp) | (refine HR.loadI HI 1 rfl rfl rfl ?_ ?_; (focus (intro w' hc; go_simp; done)); go_simp) | (refine HR.loadI HI 2 rfl rfl rfl ?_ ?_; (focus (intro w' hc; go_simp; done)); go_simp) | (refine HR.loadI HI 3 rfl rfl rfl ?_ ?_; (focus (intro w' hc; go_simp; done)); go_simp))
      (refine HR.effect rfl rfl HI (fun K hK => ?_); go_simp)
      refine (Hcall.out _ (Chg.refl _ _).drew).mono ?_
      rintro e wA ⟨vA, bsA, rfl, hoA, hencA, hltA, hblA, hcA⟩
      dsimp only
      have hcA' : Chg Nix wr wA := hcA.undrew
      refine HR.back hK (Hinv.out _ _ HI hcA) (fun HI2 => ?_)
      have HcA := Lib.hid hcA'
      have HoA := Lib.hid hoA
      have HencA := Lib.hid hencA
      have HltA := Lib.hid hltA
      clear hK K HI hoA hencA hltA hcA'
      have HI := HI2
      repeat (first | (refine HR.pure rfl rfl (fun K hK => ?_); go_simp; refine hK _ ?_; clear hK K) | (refine HR.loadI HI 0 rfl rfl rfl ?_ ?_; (focus (intro w' hc; go_simp; done)); go_simp) | (refine HR.loadI HI 1 rfl rfl rfl ?_ ?_; (focus (intro w' hc; go_simp; done)); go_simp) | (refine HR.loadI HI 2 rfl rfl rfl ?_ ?_; (focus (intro w' hc; go_simp; done)); go_simp) | (refine HR.loadI HI 3 rfl rfl rfl ?_ ?_; (focus (intro w' hc; go_simp; done)); go_simp))
      refine HR.load rfl rfl HI (fun K hK => ⟨.agg #[.int .i64 S, .int .i64 M, .int .i64 More, .bool odd], fun w' hw' => (by obtain ⟨z0, z1, z2, z3⟩ := Hload.out w' hw'; go_simp), ?_⟩)
      refine hK _ ?_
      clear hK K
      repeat (first | (refine HR.pure rfl rfl (fun K hK => ?_); go_simp; refine hK _ ?_; clear hK K) | (refine HR.loadI HI 0 rfl rfl rfl ?_ ?_; (focus (intro w' hc; go_simp; done)); go_simp) | (refine HR.loadI HI 1 rfl rfl rfl ?_ ?_; (focus (intro w' hc; go_simp; done)); go_simp) | (refine HR.loadI HI 2 rfl rfl rfl ?_ ?_; (focus (intro w' hc; go_simp; done)); go_simp) | (refine HR.loadI HI 3 rfl rfl rfl ?_ ?_; (focus (intro w' hc; go_simp; done)); go_simp))
      (refine HR.effect rfl rfl HI (fun K hK => ?_); go_simp)
      refine (Hcall2.out _ HcA.out).mono ?_
      rintro e wB ⟨vB, bsB, rfl, hoB, hencB, hltB, hblB, hcB⟩
      dsimp only
      refine HR.back hK (Hinv.out _ _ HI hcB) (fun HI3 => ?_)
      have HcB := Lib.hid hcB
      have HoB := Lib.hid hoB
      have HencB := Lib.hid hencB
      have HltB := Lib.hid hltB
      clear hK K HI HI2 hoB hencB hltB hcB
      have HI := HI3
      have hOA : Owns wB wr.heap.size [(5, vA, u8s bsA)] := ((Owns.empty wr _).cons HcA.out HoA.out (Nat.le_refl _)).nix HcB.out
      have hflat : ((rs.map sbytes).flatten).length ≤ 4096 * i := flat_len rs Hrs4.out Hrl.out
      refine hr_app info8 rfl (by decide) Tryz.underlying31 HI rfl (.tmp 58) (.tmp 61) rfl hOA (HcA.out.trans HcB.out) 0 vA _ rfl rfl vB (u8s (bsB ++ (rs.map sbytes).flatten)) rfl HoB.out.reads (u8s_one _) (by rw [u8s_len, u8s_len, List.length_append]; omega) ?_
      intro vE wE hOE hNE
      refine ⟨Hinv.out _ _ hI0 hNE, ?_⟩
      have hfin : Own1 wE wr.heap.size 5 vE (u8s (bsA ++ (bsB ++ (rs.map sbytes).flatten))) := by
        rw [u8s_app bsA]
        exact hOE.at 0 rfl
      have Hfin := Lib.hid hfin
      have HNE := Lib.hid hNE
      clear hfin hOE hNE HI HI3 hOA
      repeat (first | (refine HR.pure rfl rfl (fun K hK => ?_); go_simp; refine hK _ ?_; clear hK K) | (refine HR.loadI HI 0 rfl rfl rfl ?_ ?_; (focus (intro w' hc; go_simp; done)); go_simp) | (refine HR.loadI HI 1 rfl rfl rfl ?_ ?_; (focus (intro w' hc; go_simp; done)); go_simp) | (refine HR.loadI HI 2 rfl rfl rfl ?_ ?_; (focus (intro w' hc; go_simp; done)); go_simp) | (refine HR.loadI HI 3 rfl rfl rfl ?_ ?_; (focus (intro w' hc; go_simp; done)); go_simp))
      refine HR.nil ?_
      go_wp2_with fail
      go_ret
      have h1 := Hs1.out
      have h2 := Hbb.out
      have h3 := HN.out.size
      refine ⟨_, rfl, bsA, bsB, ns, rs, Hfin.out.lower (by omega), Hpre.out, ?_, HencB.out, Hns4.out, Hrs4.out, HltA.out, HltB.out, hblA, hblB, (Hc1.out.trans HN.out).trans HNE.out⟩
      have := HencA.out
      rw [← Hxy.out] at this
      exact this
end Go.Proofs.YtaageikelkcphaaGreatDoor
/- The plain law: what blocks fit, what batches take. -/
namespace Go.Proofs.YtaageikelkcphaaGreatDoor
open Go Go.RowKit Go.Proofs.YtaageikelkcphaaGreatDoor.PFnPrefixesRead Go.Proofs.YtaageikelkcphaaGreatDoorW.PrintWords
theorem fits_ev (a0 a1 a2 : Int) (a3 : Bool) : ∃ r, spec_Blocks_Fits.f a0 a1 a2 a3 = some r ∧ (r = true → ∃ S M W : Nat, a0 = S ∧ a1 = M ∧ a2 = W ∧ BlkFit S M ∧ W ≤ 8) := by
  unfold spec_Blocks_Fits.f
  by_cases c1 : a0 ≥ 128
  case neg => exact ⟨false, by rw [if_neg c1], nofun⟩
  by_cases c2 : a0 ≤ 1024
  case neg => exact ⟨false, by rw [if_pos c1, if_neg c2], nofun⟩
  by_cases c3 : Int.tmod a0 128 = 0
  case neg => exact ⟨false, by rw [if_pos c1, if_pos c2, if_neg c3], nofun⟩
  by_cases c4 : a1 ≥ 1
  case neg => exact ⟨false, by rw [if_pos c1, if_pos c2, if_pos c3, if_neg c4], nofun⟩
  have c5 : ¬ a1 = 0 := by clear c3; omega
  by_cases c6 : Int.tmod a0 a1 = 0
  case neg => exact ⟨false, by rw [if_pos c1, if_pos c2, if_pos c3, if_pos c4, if_neg c5, if_neg c6], nofun⟩
  by_cases c7 : Int.tmod (RowKit.wrap64 (Int.tdiv a0 a1)) 32 = 0
  case neg => exact ⟨false, by rw [if_pos c1, if_pos c2, if_pos c3, if_pos c4, if_neg c5, if_pos c6, if_neg c7], nofun⟩
  by_cases c8 : a2 ≥ 0
  case neg => exact ⟨false, by rw [if_pos c1, if_pos c2, if_pos c3, if_pos c4, if_neg c5, if_pos c6, if_pos c7, if_neg c8], nofun⟩
  refine ⟨decide (a2 ≤ 8), by rw [if_pos c1, if_pos c2, if_pos c3, if_pos c4, if_neg c5, if_pos c6, if_pos c7, if_pos c8], fun h => ?_⟩
  have c9 := of_decide_eq_true h
  obtain ⟨S, rfl⟩ := Int.eq_ofNat_of_zero_le (show (0 : Int) ≤ a0 by clear c3 c6 c7; omega)
  obtain ⟨M, rfl⟩ := Int.eq_ofNat_of_zero_le (show (0 : Int) ≤ a1 by clear c3 c6 c7; omega)
  obtain ⟨W, rfl⟩ := Int.eq_ofNat_of_zero_le c8
  have d1 : S ≤ 1024 := by clear c3 c6 c7; omega
  have d2 : S / M ≤ 1024 := Nat.le_trans (Nat.div_le_self S M) d1
  have c3' : S % 128 = 0 := Int.ofNat.inj c3
  have c6' : S % M = 0 := Int.ofNat.inj c6
  have e7 : RowKit.wrap64 (Int.tdiv (S : Int) (M : Int)) = ((S / M : Nat) : Int) := w64 (S / M) (by clear c3 c6 c7; omega)
  rw [e7] at c7
  have c7' : S / M % 32 = 0 := Int.ofNat.inj c7
  clear c3 c6 c7 e7
  exact ⟨S, M, W, rfl, rfl, rfl, ⟨by omega, c3', d1, by omega, c6', c7'⟩, by omega⟩
theorem takesT_eq {α : Type} : ∀ (ns : List Int) (l : List α), (∀ n ∈ ns, n ≠ 0) → takesT ns l = takesV ns l
  | [], _, _ => rfl
  | n :: ns, l, h => by
    have ih := takesT_eq ns (l.drop n.natAbs) (fun m hm => h m (List.mem_cons_of_mem _ hm))
    have h0 := h n List.mem_cons_self
    unfold takesT takesV
    congr 1
    · by_cases hp : n > 0
      · rw [if_pos hp, if_neg (by omega)]
      · rw [if_neg hp, if_pos (by omega)]
    · by_cases hs : l.length < n.natAbs
      · rw [if_pos hs, List.drop_of_length_le (by omega), takesV_nil]
      · rw [if_neg hs, ih]
theorem takesV_map {α β : Type} (f : α → β) : ∀ (ns : List Int) (l : List α), takesV ns (l.map f) = (takesV ns l).map f
  | [], _ => rfl
  | n :: ns, l => by
    unfold takesV
    rw [List.map_append, ← takesV_map f ns, List.map_drop]
    congr 1
    split <;> simp [List.map_take]
theorem asz_le : ∀ (rs ls : List (List Nat)), asz rs ls ≤ (ls.map List.length).sum
  | [], _ => by simp [asz]
  | _ :: _, [] => by simp [asz]
  | r :: rs, l :: ls => by
    have := asz_le rs ls
    unfold asz
    rw [List.map_cons, List.sum_cons]
    split <;> omega
theorem asz_tot (rs : List (List Nat)) (l : List ByteArray) : asz rs (l.map sbytes) ≤ totS l := by
  have h := asz_le rs (l.map sbytes)
  rw [List.map_map, show (List.length ∘ sbytes) = ByteArray.size from funext fun s => sbytes_len s] at h
  exact h
theorem strOf_sbytes (s : ByteArray) : strOf (sbytes s) = s := by
  unfold strOf strOfNums ints sbytes
  rw [List.map_map, List.map_map]
  have e : s.data.toList.map ((fun n : Int => UInt8.ofNat n.toNat) ∘ (fun n : Nat => (n : Int)) ∘ fun b : UInt8 => b.toNat) = s.data.toList := by
    conv => rhs; rw [← List.map_id s.data.toList]
    apply List.map_congr_left
    intro b _
    simp
  exact congrArg (fun x => ByteArray.mk (List.toArray x)) e
theorem takes_str (nb : List Int) (l : List ByteArray) : (takesV nb (l.map sbytes)).map strOf = takesV nb l := by
  rw [takesV_map, List.map_map, show strOf ∘ sbytes = id from funext strOf_sbytes, List.map_id]
theorem Prefs.short {last : List Nat} {ns : List Nat} {rs ls : List (List Nat)} (h : Prefs last ns rs ls) : rs.flatten.length ≤ (ls.map List.length).sum := by
  induction h with
  | nil => simp
  | cons hn h ih =>
    rw [List.flatten_cons, List.length_append, List.map_cons, List.sum_cons, List.length_append]
    omega
end Go.Proofs.YtaageikelkcphaaGreatDoor
