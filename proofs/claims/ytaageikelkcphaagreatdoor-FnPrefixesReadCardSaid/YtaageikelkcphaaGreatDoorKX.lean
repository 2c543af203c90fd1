/- 'laws.FnPrefixesRead': for every input the law returns true, and each argument and each named variable reads behind the call as it read before. The card ties the listed package-level variables to the program's text. No further condition. -/
import Derived.Test.YtaageikelkcphaaGreatDoorKW
import Derived.Test.YtaageikelkcphaaGreatDoorRows
import Derived.ChangeSlices
import Derived.Deep.Strs
import Derived.ProofKit
import Derived.LaidMore
import Derived.LaidLaws
import Derived.OpenShut
import Derived.OpenVars
import Derived.Lib.LaidTab
import Derived.Stop.LaidErr
import Derived.Stop.Joined
import Derived.Test.YtaageikelkcphaaGreatDoorTie
import Derived.Test.YtaageikelkcphaaGreatDoorCards
import Derived.SevenTiedAt
set_option linter.unusedVariables false
set_option linter.unusedSimpArgs false
/- The law's callees, as the law's walk asks them. -/
namespace Go.Proofs.YtaageikelkcphaaGreatDoor
open Go Go.RowKit Go.Proofs.YtaageikelkcphaaGreatDoor.PFnPrefixesRead Go.Proofs.YtaageikelkcphaaGreatDoorW.PrintWords
theorem zz4_ok (A : Option Addr) (c : Nat) (l : List ByteArray) (hc : l.length ≤ c) :
    ∃ b, (b = true → l.length ≤ 2147483647) ∧ ∀ w, Kd.C Kd.string w A l.length l → Calls Tryz.prog 4 #[.slice A l.length c] w fun e w' => e = .returned (.bool b) ∧ Chg Nix w w' := by
  obtain ⟨b, hev, hb⟩ := zz4_ev l
  obtain ⟨k, hk⟩ := hev.get
  refine ⟨b, hb, fun w h => Calls.mono (laws_zzFits4.calls k A c l b w h hc hk) ?_⟩
  rintro e w' ⟨rfl, hd⟩
  exact ⟨rfl, Chg.ofBelow hd.below⟩
theorem tf_ok (A : Option Addr) (c : Nat) (l : List ByteArray) (hc : l.length ≤ c) (hl : l.length ≤ 2147483647) :
    ∃ b, (b = true → l.length ≤ 2000 ∧ (∀ s ∈ l, s.size ≤ 4096) ∧ totS l ≤ 65536) ∧ ∀ w, Kd.C Kd.string w A l.length l → Calls Tryz.prog 5 #[.slice A l.length c] w fun e w' => e = .returned (.bool b) ∧ Chg Nix w w' := by
  obtain ⟨b, hev, hb⟩ := tf_ev l hl
  obtain ⟨k, hk⟩ := hev.get
  refine ⟨b, hb, fun w h => Calls.mono (laws_textsFit.calls k A c l b w h hc hk) ?_⟩
  rintro e w' ⟨rfl, hd⟩
  exact ⟨rfl, Chg.ofBelow hd.below⟩
theorem bf_ok (A : Option Addr) (c : Nat) (l : List Int) (hc : l.length ≤ c) (hl : l.length ≤ 2147483647) :
    ∃ b, (b = true → l.length ≤ 50 ∧ ∀ n ∈ l, n ≠ 0 ∧ -5000 ≤ n ∧ n ≤ 5000) ∧ ∀ w, Kd.C (Kd.int .i64) w A l.length l → Calls Tryz.prog 7 #[.slice A l.length c] w fun e w' => e = .returned (.bool b) ∧ Chg Nix w w' := by
  obtain ⟨b, hev, hb⟩ := bf_ev l hl
  obtain ⟨k, hk⟩ := hev.get
  refine ⟨b, hb, fun w h => Calls.mono (laws_batchesFit.calls k A c l b w h hc hk) ?_⟩
  rintro e w' ⟨rfl, hd⟩
  exact ⟨rfl, Chg.ofBelow hd.below⟩
theorem fit_ok (a0 a1 a2 : Int) (a3 : Bool) :
    ∃ b, (b = true → ∃ S M W : Nat, a0 = S ∧ a1 = M ∧ a2 = W ∧ BlkFit S M ∧ W ≤ 8) ∧ ∀ w, Calls Tryz.prog 6 #[.agg #[.int .i64 a0, .int .i64 a1, .int .i64 a2, .bool a3]] w fun e w' => e = .returned (.bool b) ∧ Chg Nix w w' := by
  obtain ⟨b, hk, hb⟩ := fits_ev a0 a1 a2 a3
  refine ⟨b, hb, fun w => Calls.mono (spec_Blocks_Fits.calls a0 a1 a2 a3 b w hk) ?_⟩
  rintro e w' ⟨rfl, hd⟩
  exact ⟨rfl, Chg.ofBelow hd⟩
theorem takenT_ok (A B : Option Addr) (c d : Nat) (l : List ByteArray) (ns : List Int) (w : World) (h : Kd.C Kd.string w A l.length l) (hc : l.length ≤ c) (h2 : Kd.C (Kd.int .i64) w B ns.length ns) (hd : ns.length ≤ d) (hl : l.length ≤ 2000) (hnl : ns.length ≤ 50) (hn : ∀ n ∈ ns, n ≠ 0 ∧ -5000 ≤ n ∧ n ≤ 5000) :
    Calls Tryz.prog 11 #[.slice A l.length c, .slice B ns.length d] w fun e w' => ∃ p q, e = .returned (.slice p (takesV ns l).length q) ∧ (takesV ns l).length ≤ q ∧ Kd.C Kd.string w' p (takesV ns l).length (takesV ns l) ∧ Chg Nix w w' := by
  obtain ⟨k, hk⟩ := (taken_ev l (by omega) ns hn (by omega)).get
  rw [takesT_eq ns l (fun n hm => (hn n hm).1)] at hk
  refine Calls.mono (laws_taken_string.calls k A c l B d ns _ w h hc h2 hd hk) ?_
  rintro e w' ⟨v, rfl, hR, hB⟩
  obtain ⟨p, q, rfl, hq, hK⟩ := Kd.R_reads hR
  exact ⟨p, q, rfl, hq, hK, Chg.ofBelow hB⟩
theorem sameT_ok (A B : Option Addr) (c d : Nat) (l : List ByteArray) (w : World) (h : Kd.C Kd.string w A l.length l) (hc : l.length ≤ c) (h2 : Kd.C Kd.string w B l.length l) (hd : l.length ≤ d) (hl : l.length ≤ 1000000000) :
    Calls Tryz.prog 10 #[.slice A l.length c, .slice B l.length d] w fun e w' => e = .returned (.bool true) ∧ Chg Nix w w' := by
  obtain ⟨k, hk⟩ := (sameT_ev l hl).get
  refine Calls.mono (spec_SameTexts.calls k A c l B d l true w h hc h2 hd hk) ?_
  rintro e w' ⟨rfl, hd⟩
  exact ⟨rfl, Chg.ofBelow hd.below⟩
theorem takesV_len {α : Type} : ∀ (ns : List Int) (l : List α), (takesV ns l).length ≤ l.length
  | [], _ => Nat.zero_le _
  | n :: ns, l => by
    have h := takesV_len ns (l.drop n.natAbs)
    unfold takesV
    rw [List.length_append]
    rw [List.length_drop] at h
    split
    · simp only [List.length_nil]; omega
    · rw [List.length_take]; omega
end Go.Proofs.YtaageikelkcphaaGreatDoor
/- The law's walk: FnPrefixesRead. -/
namespace Go.Proofs.YtaageikelkcphaaGreatDoor
open Go Go.RowKit Go.Proofs.YtaageikelkcphaaGreatDoor.PFnPrefixesRead Go.Proofs.YtaageikelkcphaaGreatDoorW.PrintWords Go.Proofs.YtaageikelkcphaaGreatDoorW.PrintMore
theorem fresh_cell {w : World} {cs : Array Value} {t : TypeId} {n i : Nat} {v : Value} (hn : n = w.heap.size) (hv : cs[i]? = some v) : (w.alloc (.cells cs t)).cell? ⟨n, i, none⟩ = some v := by
  subst hn; rw [World.cell?_alloc_new]; exact hv
theorem C_strs {w : World} {A : Option Addr} {l : List ByteArray} (h : Kd.C Kd.string w A l.length l) (hne : l ≠ []) : ∃ g o, A = some ⟨g, o, none⟩ ∧ ∀ (j : Nat) (x : ByteArray), l[j]? = some x → w.cell? ⟨g, o + j, none⟩ = some (.string x) := by
  have hpos : 0 < l.length := List.length_pos_iff.2 hne
  obtain ⟨ad, e, hc⟩ := h.2.2 (by omega)
  have hat : ∀ i (x : ByteArray), l[i]? = some x → w.cell? (ad.add i) = some (.string x) := fun i x hi => by
    obtain ⟨c, hl, hr, hcell⟩ := hc i x hi
    have hr' : c = [.string x] := hr
    subst hr'
    have := hcell 0 _ rfl
    rw [show Kd.string.sz = 1 from rfl, Nat.mul_one, Nat.add_zero] at this
    exact this
  have h0 := hat 0 _ (List.getElem?_eq_getElem hpos)
  have hz : ad.add 0 = ad := rfl
  rw [hz] at h0
  have hs := spot_none h0
  refine ⟨ad.block, ad.off, by rw [e, ← hs], fun j x hx => ?_⟩
  have := hat j x hx
  rw [hs] at this
  rwa [addr_add] at this
set_option maxRecDepth 100000 in
set_option maxHeartbeats 1000000 in
theorem law_ok (l : List ByteArray) (A0 : Option Addr) (c0 : Nat) (S M W less : Int) (odd : Bool) (ns : List Int) (A3 : Option Addr) (c3 : Nat) (ee eu : Addr) (w : World) (hr0 : Kd.C Kd.string w A0 l.length l) (hc0 : l.length ≤ c0) (hr3 : Kd.C (Kd.int .i64) w A3 ns.length ns) (hc3 : ns.length ≤ c3) (hE : Eofs w ee eu) (hg : 4 < w.heap.size) :
    Calls Tryz.prog 3 #[.slice A0 l.length c0, .agg #[.int .i64 S, .int .i64 M, .int .i64 W, .bool odd], .int .i64 less, .slice A3 ns.length c3] w fun e w' => e = .returned (.bool true) ∧ Chg Nix w w' := by
  have H0 := Lib.hid hr0
  have H3 := Lib.hid hr3
  have HE := Lib.hid hE
  obtain ⟨b4, hb4, hz4⟩ := zz4_ok A0 c0 l hc0
  obtain ⟨w1, hw1⟩ : ∃ w1, w1 = w.alloc (.cells #[.int .i64 S, .int .i64 M, .int .i64 W, .bool odd] 24) := ⟨_, rfl⟩
  have hC1 : Chg Nix w w1 := hw1 ▸ Chg.new _ _
  have Hcall4 := Lib.hid (hz4 w1 (Kd.C_below H0.out hC1.toBelow))
  have HC1 := Lib.hid hC1
  clear hr0 hr3 hE hz4 hC1
  go_enter Tryz.func3, Tryz.ntmps3
  go_wp2_with fail
  try rw [← hw1]
  refine Hcall4.out.mono ?_
  rintro e w4 ⟨rfl, hC4⟩
  dsimp only
  have HC4 := Lib.hid (HC1.out.trans hC4)
  have HC4b := Lib.hid hC4
  clear hC4 Hcall4
  cases b4 with
  | false =>
    go_wp2_with fail
    go_ret
    exact ⟨rfl, HC4.out⟩
  | true => ?_
  by_cases h2 : (2147483647 : Int) < ns.length
  · go_wp2_with fail
    go_ret
    exact ⟨rfl, HC4.out⟩
  have hl31 := hb4 rfl
  obtain ⟨b5, hb5, hz5⟩ := tf_ok A0 c0 l hc0 hl31
  obtain ⟨b7, hb7, hz7⟩ := bf_ok A3 c3 ns hc3 (by omega)
  obtain ⟨b6, hb6, hz6⟩ := fit_ok S M W odd
  have Hcall5 := Lib.hid (hz5 w4 (Kd.C_below H0.out HC4.out.toBelow))
  go_wp2_with fail
  refine Hcall5.out.mono ?_
  rintro e w5 ⟨rfl, hC5⟩
  dsimp only
  have HC5 := Lib.hid (HC4.out.trans hC5)
  have HC5b := Lib.hid (HC4b.out.trans hC5)
  clear hC5 Hcall5
  have y0 : w1.cell? ⟨w.heap.size, 0, none⟩ = some (.int .i64 S) := hw1 ▸ fresh_cell rfl rfl
  have y1 : w1.cell? ⟨w.heap.size, 1, none⟩ = some (.int .i64 M) := hw1 ▸ fresh_cell rfl rfl
  have y2 : w1.cell? ⟨w.heap.size, 2, none⟩ = some (.int .i64 W) := hw1 ▸ fresh_cell rfl rfl
  have y3 : w1.cell? ⟨w.heap.size, 3, none⟩ = some (.bool odd) := hw1 ▸ fresh_cell rfl rfl
  have z0 := HC5b.out.keep y0 (fun h => h)
  have z1 := HC5b.out.keep y1 (fun h => h)
  have z2 := HC5b.out.keep y2 (fun h => h)
  have z3 := HC5b.out.keep y3 (fun h => h)
  cases b5 with
  | false =>
    go_wp2_with fail
    go_ret
    exact ⟨rfl, HC5.out⟩
  | true => ?_
  by_cases h3 : l = []
  · subst h3
    go_wp2_with fail
    go_ret
    exact ⟨rfl, HC5.out⟩
  have h3a : ¬ (l.length : Int) = 0 := by have := List.length_pos_iff.2 h3; omega
  have h3b : ((l.length : Int) == 0) = false := beq_eq_false_iff_ne.2 h3a
  obtain ⟨hl2, hl4, hlt⟩ := hb5 rfl
  have Hcall6 := Lib.hid (hz6 w5)
  go_wp2_with fail
  refine Hcall6.out.mono ?_
  rintro e w6 ⟨rfl, hC6⟩
  dsimp only
  have HC6 := Lib.hid (HC5.out.trans hC6)
  have HC6b := Lib.hid (HC5b.out.trans hC6)
  clear hC6 Hcall6 z0 z1 z2 z3
  cases b6 with
  | false =>
    go_wp2_with fail
    go_ret
    exact ⟨rfl, HC6.out⟩
  | true => ?_
  by_cases h4 : less < 0
  · go_wp2_with fail
    go_ret
    exact ⟨rfl, HC6.out⟩
  by_cases h5 : 10 < less
  · go_wp2_with fail
    go_ret
    exact ⟨rfl, HC6.out⟩
  have Hcall7 := Lib.hid (hz7 w6 (Kd.C_below H3.out HC6.out.toBelow))
  go_wp2_with fail
  refine Hcall7.out.mono ?_
  rintro e w7 ⟨rfl, hC7⟩
  dsimp only
  have HC7 := Lib.hid (HC6.out.trans hC7)
  have HC7b := Lib.hid (HC6b.out.trans hC7)
  clear hC7 Hcall7
  cases b7 with
  | false =>
    go_wp2_with fail
    go_ret
    exact ⟨rfl, HC7.out⟩
  | true => ?_
  obtain ⟨hnl, hnb⟩ := hb7 rfl
  obtain ⟨s, m, u, rfl, rfl, rfl, hbf, hu⟩ := hb6 trivial
  obtain ⟨ls, rfl⟩ := Int.eq_ofNat_of_zero_le (show (0 : Int) ≤ less by omega)
  have z0 := HC7b.out.keep y0 (fun h => h)
  have z1 := HC7b.out.keep y1 (fun h => h)
  have z2 := HC7b.out.keep y2 (fun h => h)
  have z3 := HC7b.out.keep y3 (fun h => h)
  clear y0 y1 y2 y3
  obtain ⟨g, o, rfl, hcells⟩ : ∃ g o, A0 = some ⟨g, o, none⟩ ∧ ∀ (j : Nat) (x : ByteArray), l[j]? = some x → w7.cell? ⟨g, o + j, none⟩ = some (.string x) := C_strs (Kd.C_below H0.out HC7.out.toBelow) h3
  have Hcall9 := Lib.hid (putPrefixes_ok w7 g o c0 s m u ls odd l h3 hbf hu (by omega) hl2 hl4 hc0 hcells)
  go_wp2_with fail
  refine Hcall9.out.mono ?_
  rintro e w8 ⟨v, bs, bs2, ps, rs, rfl, hO, hP, hd1, hd2, hn4, hr4, hx1, hx2, hbl, hbl2, hC8⟩
  dsimp only
  have HC8 := Lib.hid (HC7.out.trans hC8)
  have eU : u8s (bs ++ (bs2 ++ (rs.map sbytes).flatten)) = ksOf .u8 (ints (bs ++ (bs2 ++ (rs.map sbytes).flatten))) := by
    rfl
  rw [eU] at hO
  have hfl := Prefs.short hP
  have hts : ((l.map sbytes).map List.length).sum = totS l := by
    rw [List.map_map, show (List.length ∘ sbytes) = ByteArray.size from funext fun s => sbytes_len s]; rfl
  have hLn : (bs ++ (bs2 ++ (rs.map sbytes).flatten)).length ≤ 10000000 := by
    rw [List.length_append, List.length_append]
    clear Hcall9
    omega
  obtain ⟨p8, c8, rfl, hc8, hK8⟩ := own1_Cint hO (by rw [show ∀ L : List Nat, (ints L).length = L.length from fun L => List.length_map _]; omega)
  have Hcall8 := Lib.hid (prefixesRead_ok c3 c8 s m p8 A3 ee eu bs bs2 ps (rs.map sbytes) (l.map sbytes) ns w8 (HE.out.keep HC8.out (fun h => h) (fun h => h)) (Nat.lt_of_lt_of_le hg HC8.out.size) hK8 hc8 (fun x hx => by
    rcases List.mem_append.1 hx with hx | hx
    · exact hx1 x hx
    rcases List.mem_append.1 hx with hx | hx
    · exact hx2 x hx
    obtain ⟨t, ht, hx⟩ := List.mem_flatten.1 hx
    obtain ⟨y, -, rfl⟩ := List.mem_map.1 ht
    exact sbytes_lt y x hx) hLn hd1 hd2 hbf hP (by simpa using h3) (by rw [List.length_map]; exact hl2) hn4 (fun r hr => by obtain ⟨t, ht, rfl⟩ := List.mem_map.1 hr; rw [sbytes_len]; exact hr4 t ht) (fun r hr => by obtain ⟨t, ht, rfl⟩ := List.mem_map.1 hr; rw [sbytes_len]; exact hl4 t ht) (Nat.le_trans (asz_tot _ l) (by clear hLn; omega)) (Kd.C_below H3.out HC8.out.toBelow) (by omega) hnb (takesV ns l) (takes_str ns l).symm)
  rw [List.length_map] at Hcall8
  clear Hcall9 hC8 hO hK8
  go_wp2_with fail
  refine Hcall8.out.mono ?_
  rintro e w9 ⟨p9, c9, rfl, hc9, hK9, hC9⟩
  dsimp only
  have HC9 := Lib.hid (HC8.out.trans hC9)
  have HK9 := Lib.hid hK9
  have Hcall11 := Lib.hid (takenT_ok (some ⟨g, o, none⟩) A3 c0 c3 l ns w9 (Kd.C_below H0.out HC9.out.toBelow) hc0 (Kd.C_below H3.out HC9.out.toBelow) hc3 hl2 hnl hnb)
  clear Hcall8 hC9 hK9
  go_wp2_with fail
  refine Hcall11.out.mono ?_
  rintro e w10 ⟨p10, c10, rfl, hc10, hK10, hC10⟩
  dsimp only
  have htl := takesV_len ns l
  have Hcall10 := Lib.hid (sameT_ok p9 p10 c9 c10 _ w10 (Kd.C_below HK9.out hC10.toBelow) hc9 hK10 hc10 (Nat.le_trans htl (Nat.le_trans hl2 (by decide))))
  have HC10 := Lib.hid (HC9.out.trans hC10)
  clear Hcall11 hC10 hK10
  go_wp2_with fail
  refine Hcall10.out.mono ?_
  rintro e w11 ⟨rfl, hC11⟩
  dsimp only
  have HC11 := Lib.hid (HC10.out.trans hC11)
  clear hC11
  go_wp2_with fail
  go_ret
  exact ⟨rfl, HC11.out⟩
end Go.Proofs.YtaageikelkcphaaGreatDoor
/- The row: what the listed variables give; a start that meets the condition; the law lifted to the row. -/
namespace Go.Proofs.YtaageikelkcphaaGreatDoor
open Go Go.ChangeShapes Go.WideShapes Go.ChangeAt Go.RowKit Go.Deep Go.Proofs.YtaageikelkcphaaGreatDoor.PFnPrefixesRead Go.Proofs.YtaageikelkcphaaGreatDoorW.PrintWords Go.Proofs.YtaageikelkcphaaGreatDoorW.PrintMore
section
variable {H : Type} {enc : TypeId × Value → H} {w : World} {base : Nat} {sp : Nat → Bool} {held : Bool}
/-- A row of numbers, as the print reads it. -/
theorem open_C {t e : TypeId} {k : IntKind} {fuel : Nat} {cs : List Value} {x : DataW H × List MemPlace} (ht : Tryz.prog.underlying t = some (.slice e)) (he : Tryz.prog.underlying e = some (.int k)) (hc : Tryz.prog.cellsOf e = 1)
    (h : DataW.trod enc Tryz.prog w base sp held fuel t cs = some x) : ∃ A c, ∃ xs : List Int, cs = [.slice A xs.length c] ∧ xs.length ≤ c ∧ Kd.C (Kd.int k) w A xs.length xs ∧ ∀ n ∈ xs, (Lit.int k n).wf = true := by
  rcases open_ints ht he hc h with ⟨rfl, -⟩ | ⟨a, len, cap, zs, rfl, -, hl, hm, hz, -, hcell, hwz⟩
  · exact ⟨none, 0, [], rfl, Nat.le_refl _, Kd.C_nil _ _, fun n hn => by cases hn⟩
  · have hlz : len ≤ zs.length := by rw [hz]; split <;> omega
    have hlt : (zs.take len).length = len := by rw [List.length_take]; omega
    refine ⟨some a, cap, zs.take len, by rw [hlt], by omega, ⟨rfl, by rw [hlt]; unfold maxLen at hm; omega, fun _ => ⟨a, rfl, fun j p hp => ⟨[.int k p], rfl, rfl, fun i u hu => ?_⟩⟩⟩, fun n hn => hwz n (List.mem_of_mem_take hn)⟩
    have hj : j < len := by rw [← hlt]; exact (List.getElem?_eq_some_iff.1 hp).1
    rw [List.getElem?_take_of_lt hj] at hp
    cases i with
    | succ i => simp at hu
    | zero =>
      have hu' : u = .int k p := by simpa using hu.symm
      subst hu'
      rw [show (Kd.int k).sz = 1 from rfl, Nat.mul_one, Nat.add_zero]
      have := hcell j (by omega)
      rw [List.getD_eq_getElem?_getD, hp] at this
      exact this
/-- A row of strings, as the print reads it. -/
theorem open_CS {t e : TypeId} {fuel : Nat} {cs : List Value} {x : DataW H × List MemPlace} (ht : Tryz.prog.underlying t = some (.slice e)) (he : Tryz.prog.underlying e = some .string) (hc : Tryz.prog.cellsOf e = 1)
    (h : DataW.trod enc Tryz.prog w base (fun _ => true) held fuel t cs = some x) : ∃ A c, ∃ xs : List ByteArray, cs = [.slice A xs.length c] ∧ xs.length ≤ c ∧ Kd.C Kd.string w A xs.length xs := by
  rcases open_strs ht he hc h with ⟨rfl, -⟩ | ⟨a, len, cap, m, B, rfl, -, hl, hm, hmm, -, hcell⟩
  · exact ⟨none, 0, [], rfl, Nat.le_refl _, Kd.C_nil _ _⟩
  · have hlt : ((List.range len).map B).length = len := by simp
    have hlm : len ≤ m := by rw [hmm]; split <;> omega
    refine ⟨some a, cap, (List.range len).map B, by rw [hlt], by omega, ⟨rfl, by rw [hlt]; unfold maxLen at hm; omega, fun _ => ⟨a, rfl, fun j p hp => ⟨[.string p], rfl, rfl, fun i u hu => ?_⟩⟩⟩⟩
    have hj : j < len := by rw [← hlt]; exact (List.getElem?_eq_some_iff.1 hp).1
    cases i with
    | succ i => simp at hu
    | zero =>
      have hu' : u = .string p := by simpa using hu.symm
      subst hu'
      rw [show Kd.string.sz = 1 from rfl, Nat.mul_one, Nat.add_zero]
      have := (hcell j (by omega)).1
      rw [List.getElem?_map, List.getElem?_range hj] at hp
      have hp' : B j = p := by simpa using hp
      rw [hp'] at this
      exact this
theorem len4 {α : Type} (l : List α) (h : l.length = 4) : ∃ a b c d, l = [a, b, c, d] := by
  match l, h with
  | [a, b, c, d], _ => exact ⟨a, b, c, d, rfl⟩
/-- Blocks, as they lie. -/
theorem open_blocks {fuel : Nat} {cs : List Value} {x : DataW H × List MemPlace} (h : DataW.trod enc Tryz.prog w base sp held fuel 24 cs = some x) : ∃ (S M W : Int) (odd : Bool), cs = [.int .i64 S, .int .i64 M, .int .i64 W, .bool odd] := by
  obtain ⟨xs, n, -, -, hl, hxl, hf⟩ := DataW.trod_struct Tryz.underlying24 h
  have hl4 : cs.length = 4 := hl.trans (by kernel_rfl)
  have hx4 : xs.length = 4 := hxl
  obtain ⟨c0, c1, c2, c3, rfl⟩ := len4 cs hl4
  have h0 := hf 0 _ rfl
  have h1 := hf 1 _ rfl
  have h2 := hf 2 _ rfl
  have h3 := hf 3 _ rfl
  rw [List.getElem?_eq_getElem (by omega)] at h0 h1 h2 h3
  obtain ⟨m0, e0, -, -⟩ := DataW.trod_int Tryz.underlying3 h0
  obtain ⟨m1, e1, -, -⟩ := DataW.trod_int Tryz.underlying3 h1
  obtain ⟨m2, e2, -, -⟩ := DataW.trod_int Tryz.underlying3 h2
  obtain ⟨b, e3, -⟩ := DataW.trod_bool Tryz.underlying4 h3
  have s4 : Tryz.prog.cellsOf 4 = 1 := by kernel_rfl
  have s3 : Tryz.prog.cellsOf 3 = 1 := by kernel_rfl
  change ([c0, c1, c2, c3].drop 0).take (Tryz.prog.cellsOf 3) = _ at e0
  change ([c0, c1, c2, c3].drop 1).take (Tryz.prog.cellsOf 3) = _ at e1
  change ([c0, c1, c2, c3].drop 2).take (Tryz.prog.cellsOf 3) = _ at e2
  change ([c0, c1, c2, c3].drop 3).take (Tryz.prog.cellsOf 4) = _ at e3
  rw [s3] at e0 e1 e2
  rw [s4] at e3
  have f0 : c0 = .int .i64 m0 := by simpa using e0
  have f1 : c1 = .int .i64 m1 := by simpa using e1
  have f2 : c2 = .int .i64 m2 := by simpa using e2
  have f3 : c3 = .bool b := by simpa using e3
  subst f0 f1 f2 f3
  exact ⟨m0, m1, m2, b, rfl⟩
end
theorem own : ownKnob Tryz.prog.godebug = none := by kernel_rfl
theorem laidOut : laidOutB Tryz.prog = true := by kernel_rfl
theorem starE : "*" ++ "errors.errorString" = "*errors.errorString" := by decide
theorem rowE (u : TypeId) (h : Tryz.prog.typeName? 3 u = some "*errors.errorString") : u = 99 :=
  typeName_ptr_named (nm := "errors.errorString") (by rw [starE]; kernel_rfl) (by kernel_rfl) (by decide) u (by rw [starE]; exact h)
/-- WHAT THE CONDITION GIVES. -/
theorem of_laid {W : World} (h : laidMetH Tryz.prog (Rows.fnPrefixesReadRow.laid) W) : ∃ ee eu, Eofs W ee eu := by
  rw [MakeChecks.laidMetH_plain _ _ _ (by kernel_rfl)] at h
  have h0 : laidMet Tryz.prog (_ :: _ :: _ :: _ :: []) W := h
  have h1 := laidMet.tail h0
  have h2 := laidMet.tail h1
  have n1 : Tryz.prog.globalNamed "io.EOF" = some 0 := by kernel_rfl
  have n2 : Tryz.prog.globalNamed "io.ErrUnexpectedEOF" = some 1 := by kernel_rfl
  obtain ⟨a1, s1, v1, -⟩ := laid_sentinel (nm := "*errors.errorString") (n := "io.EOF") h1 n1 (by kernel_rfl) Tryz.underlying44 rowE Tryz.underlying99 Tryz.underlying101 rfl rfl Tryz.underlying9 (by kernel_rfl) (by kernel_rfl)
  obtain ⟨a2, s2, v2, -⟩ := laid_sentinel (nm := "*errors.errorString") (n := "io.ErrUnexpectedEOF") h2 n2 (by kernel_rfl) Tryz.underlying44 rowE Tryz.underlying99 Tryz.underlying101 rfl rfl Tryz.underlying9 (by kernel_rfl) (by kernel_rfl)
  exact ⟨a1, a2, by simpa using World.var?_cell n1 v1 0, by simpa using World.var?_cell n2 v2 0⟩
/-- The last of the variables lies in the heap. -/
theorem glob_lt {W : World} (h : laidMetH Tryz.prog (Rows.fnPrefixesReadRow.laid) W) : 4 < W.heap.size := by
  rw [MakeChecks.laidMetH_plain _ _ _ (by kernel_rfl)] at h
  have h0 : laidMet Tryz.prog (_ :: _ :: _ :: _ :: []) W := h
  have n0 : Tryz.prog.globalNamed "io.ErrShortBuffer" = some 4 := by kernel_rfl
  obtain ⟨a0, s0, v0, -⟩ := laid_sentinel (nm := "*errors.errorString") (n := "io.ErrShortBuffer") h0 n0 (by kernel_rfl) Tryz.underlying44 rowE Tryz.underlying99 Tryz.underlying101 rfl rfl Tryz.underlying9 (by kernel_rfl) (by kernel_rfl)
  have h1 : W.cell? ⟨4, 0, none⟩ = some (.iface 99 (.pointer (some a0))) := by simpa using World.var?_cell n0 v0 0
  exact World.block_lt_of_cell? W _ h1
/-- The door's own heap meets the condition. -/
theorem door_met (os : Os) (args : Array Value) : laidMetH Tryz.prog Rows.fnPrefixesReadRow.laid ((World.doorLaid Tryz.prog 100 os).forCall (fun _ _ => 0) ⟨#[], args, []⟩).memory :=
  laidMetH_of_parts3 (fuel := 8) (laidMet_of_run' 8 (by kernel_rfl) (by kernel_rfl)) (by kernel_rfl) (by kernel_rfl)
theorem vars_len {H : Type} {enc : TypeId × Value → H} {W : World} {sp : Nat → Bool} : ∀ {ns : List String} {gs : List (DataW H)} {ps : List MemPlace}, DataW.TrodVars enc Tryz.prog W sp ns gs ps → gs.length = ns.length
  | [], [], _, _ => rfl
  | [], _ :: _, _, h => h.elim
  | _ :: _, [], _, h => h.elim
  | n :: ns, d :: ds, _, ⟨_, _, _, _, _, _, _, _, _, _, hs, _⟩ => congrArg (· + 1) (vars_len hs)
set_option maxRecDepth 100000 in
theorem lifted (os : Os) (started : os.Started) (H : Type) (enc : TypeId × Value → H) :
    ReturnsInHanded {} Tryz.checked os 3 .any (fun w args => (Rows.fnPrefixesReadSpec.pre enc Tryz.prog Tryz.f3 [] false w args ∧ laidMetH Tryz.prog Rows.fnPrefixesReadRow.laid w) ∧ sizedMet enc Tryz.prog Tryz.f3 (OpenSpec.ofChange Rows.fnPrefixesReadSpec) false w args)
      (Rows.fnPrefixesReadSpec.post enc Tryz.prog Tryz.f3 false true false false) := by
  refine returnsInHanded_of_change_and (C := Tryz.checked) (X := fun w _ => laidMetH Tryz.prog Rows.fnPrefixesReadRow.laid w) (fun _ _ _ hh h => h.of_heap hh) own started (by kernel_rfl) Tryz.func3
    (ChangeSpec.witness_shaped (enc := enc) (C := Tryz.checked) (os := os) (X := fun w _ => laidMetH Tryz.prog Rows.fnPrefixesReadRow.laid w) false (World.doorLaid Tryz.prog 100 os) #[.slice none 0 0, .agg #[.int .i64 0, .int .i64 0, .int .i64 0, .bool false], .int .i64 0, .slice none 0 0] 8 rfl (World.shaped_of_RefB (by kernel_rfl) (by kernel_rfl)) (by kernel_rfl) (by kernel_rfl) (by kernel_rfl) (door_met os _)) ?_
  intro W base args ds gs before hval0 hW _ _ hL _
  have hval : ∀ (j : Nat) t v, Tryz.f3.params[j]? = some t → args[j]? = some v → Value.okWide Tryz.prog W .any base t v := hval0
  have hW' := hW
  obtain ⟨p, q, hA0, hV, rfl, hfz, hnd⟩ := hW
  have hA : DataW.TrodAll enc Tryz.prog W 0 (fun _ => true) true Tryz.f3.params.toList args.toList ds p := hA0
  rw [Tryz.params3] at hA hval
  obtain ⟨v0, vs0, d0, ds0, p0, q0, hargs, rfl, rfl, h0, r0⟩ := trodAll_cons hA
  obtain ⟨v1, vs1, d1, ds1, p1, q1, rfl, rfl, rfl, h1, r1⟩ := trodAll_cons r0
  obtain ⟨v2, vs2, d2, ds2, p2, q2, rfl, rfl, rfl, h2, r2⟩ := trodAll_cons r1
  obtain ⟨v3, vs3, d3, ds3, p3, q3, rfl, rfl, rfl, h3, r3⟩ := trodAll_cons r2
  obtain ⟨rfl, rfl, rfl⟩ := trodAll_nil r3
  obtain rfl : args = #[v0, v1, v2, v3] := by cases args; simp_all
  obtain rfl : gs = [] := List.length_eq_zero_iff.1 (vars_len hV)
  have k0 := h0
  have k1 := h1
  have k3 := h3
  have lt0 : ∀ x ∈ p0, x.block < W.heap.size := by obtain ⟨m, hm⟩ := k0; exact DataW.trod_lt m _ _ _ hm
  have lt1 : ∀ x ∈ p1, x.block < W.heap.size := by obtain ⟨m, hm⟩ := k1; exact DataW.trod_lt m _ _ _ hm
  have lt3 : ∀ x ∈ p3, x.block < W.heap.size := by obtain ⟨m, hm⟩ := k3; exact DataW.trod_lt m _ _ _ hm
  obtain ⟨a0, len0, cap0, rfl⟩ := okWide_slice Tryz.underlying22 (hval 0 22 v0 rfl rfl)
  obtain ⟨cs1, rfl, hcs1⟩ := okWide_struct Tryz.underlying24 (hval 1 24 v1 rfl rfl)
  obtain ⟨a2, rfl, rfl, rfl, w2⟩ := open_int Tryz.underlying3 (hval 2 3 v2 rfl rfl) h2
  obtain ⟨a3, len3, cap3, rfl⟩ := okWide_slice Tryz.underlying25 (hval 3 25 v3 rfl rfl)
  obtain ⟨f0, hf0⟩ := h0
  obtain ⟨f1, hf1⟩ := h1
  obtain ⟨f3, hf3⟩ := h3
  obtain ⟨A0, c0, l, e0, hc0, hK0⟩ := open_CS Tryz.underlying22 Tryz.underlying9 (by kernel_rfl) hf0
  obtain ⟨S, M, U, odd, e1⟩ := open_blocks hf1
  obtain ⟨A3, c3, ns, e3, hc3, hK3, hR3⟩ := open_C Tryz.underlying25 Tryz.underlying3 (by kernel_rfl) hf3
  simp only [Value.cells, List.cons.injEq, Value.slice.injEq, and_true] at e0 e3
  obtain ⟨rfl, rfl, rfl⟩ := e0
  obtain ⟨rfl, rfl, rfl⟩ := e3
  have e1' : cs1 = #[.int .i64 S, .int .i64 M, .int .i64 U, .bool odd] := Array.toList_inj.1 e1
  subst e1'
  obtain ⟨ee, eu, hE⟩ := of_laid hL
  have hg : 4 < W.heap.size := glob_lt hL
  clear hA0 hval0 hval
  refine (law_ok l a0 cap0 S M U a2 odd ns a3 cap3 ee eu W hK0 hc0 hK3 hc3 hE hg).mono fun e W' ⟨he, hC⟩ => ?_
  subst he
  have bel : Below W.heap.size W W' := hC.toBelow
  exact ⟨_, rfl, _, _, _, [], _, _, hW', trodAll_mk1 (shut_bool Tryz.underlying4 _), trodAll_mk4 (Below.trod laidOut (by kernel_rfl) (of_decide_eq_true (by kernel_rfl)) k0 bel lt0) (Below.trod laidOut (by kernel_rfl) (of_decide_eq_true (by kernel_rfl)) k1 bel lt1) (shut_int Tryz.underlying3 w2) (Below.trod laidOut (by kernel_rfl) (of_decide_eq_true (by kernel_rfl)) k3 bel lt3), Below.trodVars laidOut bel (by kernel_rfl) hV, bel.frame _, fun h => by cases h⟩
theorem law_row : Rows.FnPrefixesReadSaid :=
  OpenClaim.holds_of_wide 3 Tryz.f3 rfl rfl rfl rfl rfl rfl rfl ⟨rfl, rfl, rfl, rfl, rfl⟩ rfl rfl rfl rfl rfl (by kernel_rfl) Tryz.func3 (by kernel_rfl)
    (of_decide_eq_true (by kernel_rfl)) (by unfold Func.isWrapper; first | (rw [if_pos (by decide +kernel)]; kernel_rfl) | (rw [if_neg (by decide +kernel)]; exact ⟨rfl, rfl⟩))
    (fun os started H enc _ => lifted os started H enc)
end Go.Proofs.YtaageikelkcphaaGreatDoor
/- 'laws.FnPrefixesRead': for every input the law returns true, and each argument and each named variable reads behind the call as it read before. The card ties the listed package-level variables to the program's text. No further condition. -/
namespace Go.Proofs.YtaageikelkcphaaGreatDoor
open Go
theorem fnPrefixesRead_card : Rows.FnPrefixesReadCardSaid :=
  Claim7.holds_tied_plain_at .later [] [.sentinel, .sentinel, .sentinel, .sentinel] true _ true
    law_row (fun _ h => by cases h) (by kernel_rfl) (fun _ h => by cases h) fnPrefixesRead_row_tie rfl ⟨rfl, rfl⟩ (by kernel_rfl) rfl
    (fun f fn hf hfn => by
      obtain rfl : f = 3 := Option.some.inj ((show Tryz.prog.funcNamed "given.example/pub-arrowroot/laws.FnPrefixesRead" = some 3 by kernel_rfl).symm.trans hf) |>.symm
      obtain rfl : fn = Tryz.f3 := (Option.some.inj (Tryz.func3.symm.trans hfn)).symm
      exact ⟨by kernel_rfl, fun j t ht => by
        rw [Tryz.params3] at ht
        have hm : t ∈ [22, 24, 3, 25] := by simpa using Array.mem_of_getElem? ht
        have hall : ([22, 24, 3, 25].all fun u => !Tryz.prog.wantsStandIn u) = true := by kernel_rfl
        exact (show Tryz.prog.wantsStandIn t = false by simpa using List.all_eq_true.1 hall t hm)⟩)
    (by kernel_rfl)
#print axioms fnPrefixesRead_card
end Go.Proofs.YtaageikelkcphaaGreatDoor
