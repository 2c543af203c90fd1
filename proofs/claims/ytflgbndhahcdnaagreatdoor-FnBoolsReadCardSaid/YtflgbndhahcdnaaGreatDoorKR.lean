/- Part 18 of the proof: the texts OG, OH, OM, joined. What each proves stands ahead of it. -/
import Derived.Test.YtflgbndhahcdnaaGreatDoorKQ
import Derived.Test.YtflgbndhahcdnaaGreatDoorKH
import Derived.Test.YtflgbndhahcdnaaGreatDoorKO
set_option linter.unusedVariables false
set_option linter.unusedSimpArgs false
/- A bitmap is copied from a bit that begins no byte to the beginning of another. -/
namespace Go.Proofs.YtflgbndhahcdnaaGreatDoor
open Go Go.RowKit
/-- Behind some bytes that are copied. -/
structure Tq (sb so m b off n A Z rs len : Nat) (σ : Nat → Bool) (w0 wx : World) (j tb ty nw L C L2 C2 cu : Nat) (γ : Nat → Bool) : Prop where
  wr : WR wx A sb so rs j L C nw tb ty cu
  lo : Lo8 σ (8 * j) cu
  ww : WW wx Z b off 0 j L2 C2 0 len 0
  bs : Bmp wx sb so m σ
  bd : Bmp wx b off n γ
  dn : ∀ i, i < 8 * j → γ i = σ (rs + i)
  chg : Chg (fun k x => k = A ∨ k = Z ∨ RowS b off n k x) w0 wx
  sb' : sb ≠ b
  Ab : A ≠ b
  Zb : Z ≠ b
  As : A ≠ sb
  Zs : Z ≠ sb
  AZ : A ≠ Z
theorem paste_at {γ σ : Nat → Bool} {j g rs v : Nat} (hd : ∀ i, i < 8 * j → γ i = σ (rs + i)) (hv : ∀ t, t < 8 * g → v.testBit t = σ (8 * j + rs + t)) : ∀ i, i < 8 * (j + g) → paste γ (8 * j) (8 * g) v i = σ (rs + i) := by
  intro i hi
  unfold paste
  by_cases h : 8 * j ≤ i ∧ i < 8 * j + 8 * g
  · rw [if_pos h, hv _ (by omega), show 8 * j + rs + (i - 8 * j) = rs + i by omega]
  · rw [if_neg h]; exact hd i (by omega)
theorem Tq.step {sb so m b off n A Z rs len : Nat} {σ : Nat → Bool} {w0 wx w1 w2 : World} {j tb ty nw L C L2 C2 cu : Nat} {γ : Nat → Bool} (h : Tq sb so m b off n A Z rs len σ w0 wx j tb ty nw L C L2 C2 cu γ)
    (g v V tb' ty' L' C' L2' C2' : Nat) (hv : ∀ t, t < 8 * g → v.testBit t = σ (8 * j + rs + t)) (c1 : Chg (Own A) wx w1) (r1 : WR w1 A sb so rs (j + g) L' C' nw tb' ty' V) (n1 : Lo8 σ (8 * (j + g)) V)
    (c2 : Chg (WS Z b off n) w1 w2) (b2 : Bmp w2 b off n (paste γ (8 * j) (8 * g) v)) (r2 : WW w2 Z b off 0 (j + g) L2' C2' 0 len 0) :
    Tq sb so m b off n A Z rs len σ w0 w2 (j + g) tb' ty' nw L' C' L2' C2' V (paste γ (8 * j) (8 * g) v) := by
  have hA : ∀ x, ¬ WS Z b off n A x := by
    rintro x (hh | hh)
    · exact h.AZ hh
    · exact h.Ab hh.1
  have hs : ∀ x, ¬ WS Z b off n sb x := by
    rintro x (hh | hh)
    · exact h.Zs hh.symm
    · exact h.sb' hh.1
  exact ⟨r1.keep c2 hA, n1, r2, (h.bs.keep c1 (fun _ _ hh => h.As hh.symm)).keep c2 (fun _ _ => hs _), b2, paste_at h.dn hv, (h.chg.trans (c1.mono (fun _ _ _ hh => .inl hh))).trans (c2.mono (fun _ _ _ hh => .inr hh)), h.sb', h.Ab, h.Zb, h.As, h.Zs, h.AZ⟩
theorem Tq.ww1 {sb so m b off n A Z rs len : Nat} {σ : Nat → Bool} {w0 wx w1 : World} {j tb ty nw L C L2 C2 cu : Nat} {γ : Nat → Bool} (h : Tq sb so m b off n A Z rs len σ w0 wx j tb ty nw L C L2 C2 cu γ) (c1 : Chg (Own A) wx w1) :
    WW w1 Z b off 0 j L2 C2 0 len 0 ∧ Bmp w1 b off n γ ∧ Bmp w1 sb so m σ :=
  ⟨h.ww.keep c1 (fun _ hh => h.AZ hh.symm), h.bd.keep c1 (fun _ _ hh => h.Ab hh.symm), h.bs.keep c1 (fun _ _ hh => h.As hh.symm)⟩
/-- The bits are there. -/
def Done (wx : World) (b off n rs length : Nat) (σ : Nat → Bool) : Prop := ∃ γ, Bmp wx b off n γ ∧ ∀ i, i < length → γ i = σ (rs + i)
/-- What a byte's step does. -/
def ByteEnd (sb so m b off n A Z rs len : Nat) (σ : Nat → Bool) (w0 : World) (j tb ty nw L C L2 C2 : Nat) (last : Prop) (w' : World) : Prop :=
  Chg (fun k x => k = A ∨ k = Z ∨ RowS b off n k x) w0 w' ∧ (¬ last → ∃ cu γ, Tq sb so m b off n A Z rs len σ w0 w' (j + 1) (tb - 8) (ty - 1) nw (L - 1) (C - 1) (L2 - 1) (C2 - 1) cu γ) ∧ (last → Done w' b off n rs (8 * j + tb) σ)
set_option maxRecDepth 100000 in
set_option maxHeartbeats 1000000 in
theorem transferR_ok (sb so m slen scap b off n cap rs length : Nat) (β σ : Nat → Bool) (w : World) (hT : Tabs w) (hgA : 5 < w.heap.size) (hS : Bmp w sb so m σ) (hB : Bmp w b off n β) (hgb : 5 < b) (hsb : sb ≠ b) (hr1 : 1 ≤ rs) (hr8 : rs < 8) (h1 : 1 ≤ length) (hl : length ≤ 1000000000) (hm : (rs + length + 7) / 8 ≤ m) (hms : m ≤ slen) (hsc : slen ≤ scap) (hscap : scap ≤ 9223372036854775807) (hn : length ≤ 8 * n) (hnb : n ≤ 1000000000) (hnc : n ≤ cap) (hcap : cap ≤ 9223372036854775807) :
    Calls Tryz.prog 49 #[.int .i8 0, .slice (some ⟨sb, so, none⟩) slen scap, .int .i64 rs, .int .i64 length, .slice (some ⟨b, off, none⟩) n cap, .int .i64 0] w fun e w' => e = .returned (.tuple #[]) ∧ Chg (RowS b off n) w w' ∧ Done w' b off n rs length σ := by
  have hc1 := newWR_ok sb so m 0 rs slen scap length σ w hS hr8 h1 hl (by omega) hms hsc hscap
  rw [show 8 * 0 + rs = rs by omega] at hc1
  have hc2 := fun W => newWW0_ok b off n cap length W (by omega) hnc hl
  have e1 : (rs : Int) % 8 = rs := by omega
  have hrs0 : ¬ (rs : Int) = 0 := by omega
  have hl0 : ¬ (length : Int) = 0 := by omega
  have hsl : sb < w.heap.size := by obtain ⟨x, hx, -⟩ := hS.cell 0 (by omega); exact World.block_lt_of_cell? w _ hx
  have hbl : b < w.heap.size := by obtain ⟨x, hx, -⟩ := hB.cell 0 (by omega); exact World.block_lt_of_cell? w _ hx
  have Hc1 := Lib.hid hc1
  have Hc2 := Lib.hid hc2
  have HS := Lib.hid hS
  have HB := Lib.hid hB
  have HTb := Lib.hid hT
  clear hc1 hc2 hS hB hT
  go_enter Tryz.func49, Tryz.ntmps49
  go_wp2_with fail
  refine Hc1.out.mono ?_
  rintro e w1 ⟨rfl, k1, hA1, cu, kW, kC⟩
  obtain ⟨A, hA⟩ : ∃ A, A = w.heap.size := ⟨_, rfl⟩
  rw [← hA] at hA1 kW hsl hbl hgA ⊢
  have HA := Lib.hid hA
  have HB1 := Lib.hid (HB.out.keep k1 (fun _ _ h => h))
  have HS1 := Lib.hid (HS.out.keep k1 (fun _ _ h => h))
  have K1 := Lib.hid k1
  have KW := Lib.hid kW
  have KC := Lib.hid kC
  clear k1 kW kC hA
  go_wp2_with fail
  refine (Hc2.out w1).mono ?_
  rintro e w2 ⟨rfl, k2, hZ1, jW⟩
  obtain ⟨Z, hZ⟩ : ∃ Z, Z = w1.heap.size := ⟨_, rfl⟩
  rw [← hZ] at hZ1 jW hA1 ⊢
  have HZ := Lib.hid hZ
  have HAZ : Hid (A < Z) := Lib.hid hA1
  have hAw : Hid (A < w2.heap.size) := Lib.hid (Nat.lt_trans hA1 hZ1)
  have KW2 := KW.out.keep k2 (fun _ h => h)
  obtain ⟨nw, hnw⟩ : ∃ nw, nw = length / 64 - 1 := ⟨_, rfl⟩
  obtain ⟨tb, htb⟩ : ∃ tb, tb = length - nw * 64 := ⟨_, rfl⟩
  obtain ⟨ty, hty⟩ : ∃ ty, ty = (tb + 7) / 8 := ⟨_, rfl⟩
  obtain ⟨L, hL⟩ : ∃ L, L = (rs + length + 7) / 8 := ⟨_, rfl⟩
  rw [← hnw, ← htb, ← hty, ← hL] at KW2
  have hT : Tq sb so m b off n A Z rs length σ w w2 0 tb ty nw L scap n cap cu β :=
    ⟨KW2, KC.out.lo8, jW, HS1.out.keep k2 (fun _ _ h => h), HB1.out.keep k2 (fun _ _ h => h), fun i hi => by omega, ((K1.out.trans k2).mono (fun _ _ _ h => h.elim)), hsb, by omega, by omega, by omega, by omega, by omega⟩
  have hfirst : 0 < nw → Num64 σ 0 cu := fun h0 => KC.out.hi (by omega)
  have HT := Lib.hid hT
  have Hf := Lib.hid hfirst
  have Hnw := Lib.hid hnw
  have Htb := Lib.hid htb
  have Hty := Lib.hid hty
  have HL := Lib.hid hL
  have c2 := hT.wr.nw
  have c4 := hT.wr.ty
  have hwords := words_ok A sb so rs 0 L scap nw tb ty cu w2 hT.wr
  have Hwords := Lib.hid hwords
  clear k2 jW hZ KW2 hnw htb hty hL hT hfirst hwords KW KC HB1 HS1 K1 hA1 hZ1
  go_wp2_with fail
  refine Hwords.out.mono ?_
  rintro e w3 ⟨rfl, rfl⟩
  go_upto_block 0 with fail
  go_cut [16] (fun s wx => ∃ cu γ, Tq sb so m b off n A Z rs length σ w wx (8 * nw) tb ty nw (L - 8 * nw) (scap - 8 * nw) (n - 8 * nw) (cap - 8 * nw) cu γ)
  case first =>
    go_wp2_with fail
    go_loopw [16] (fun s wx => ∃ k cu γ, k ≤ nw ∧ s = .int .i64 (nw - k : Nat) ∧ Tq sb so m b off n A Z rs length σ w wx (8 * k) tb ty nw (L - 8 * k) (scap - 8 * k) (n - 8 * k) (cap - 8 * k) cu γ ∧ (k < nw → Num64 σ (8 * (8 * k)) cu)) (fun s _ => (intOf s).toNat)
    case atStart => exact ⟨0, cu, β, Nat.zero_le _, rfl, HT.out, fun h0 => Hf.out h0⟩
    case round =>
      clear HT Hf
      obtain ⟨k, cu, γ, hk, rfl, hT, hN⟩ := hrel
      by_cases hlt : k < nw
      · have N1 := hN hlt
        have hk1 : (0 : Int) < (nw - k : Nat) := by omega
        have hkb : ((nw - k : Nat) : Int) ≤ 1000000000 := by have := Hnw.out; omega
        have hk2 : ((nw - k : Nat) : Int) - 1 = (nw - (k + 1) : Nat) := by omega
        have Hk2 := Lib.hid hk2
        have hd1 := nextWordR_ok A sb so m rs (8 * k) (L - 8 * k) (scap - 8 * k) nw tb ty cu σ wr hT.bs hT.wr hT.As hr1 hr8 (by have := HL.out; have := Hnw.out; omega) (by have := HL.out; omega) (by have := HL.out; have := Hnw.out; omega) N1
        have Hd1 := Lib.hid hd1
        have HT := Lib.hid hT
        clear hT hN N1 hk2 hd1
        go_wp2_with fail
        refine Hd1.out.mono ?_
        rintro e w4 ⟨v, V, rfl, hv64, hv, h4, hV, nV⟩
        obtain ⟨q1, q2, q3⟩ := HT.out.ww1 h4
        have hd2 := putWord0_ok Z b off n (8 * k) (n - 8 * k) (cap - 8 * k) length 0 v _ w4 q2 q1 HT.out.Zb (by have := Hnw.out; omega) (by omega) (by have := Hnw.out; omega) hv64
        have Hd2 := Lib.hid hd2
        have H4 := Lib.hid h4
        have HV := Lib.hid hV
        have HnV := Lib.hid nV
        have Hv := Lib.hid hv
        clear h4 hV nV q1 q2 q3 hd2 hv
        go_wp2_with fail
        refine Hd2.out.mono ?_
        rintro e w5 ⟨rfl, h5, b5, hX⟩
        have hT5 := HT.out.step 8 v V tb ty (L - 8 * k - 8) (scap - 8 * k - 8) (n - 8 * k - 8) (cap - 8 * k - 8) (fun t ht => Hv.out t (by omega)) H4.out HV.out HnV.out.lo8 h5 b5 hX
        have hT6 : Tq sb so m b off n A Z rs length σ w w5 (8 * (k + 1)) tb ty nw (L - 8 * (k + 1)) (scap - 8 * (k + 1)) (n - 8 * (k + 1)) (cap - 8 * (k + 1)) V (paste γ (8 * (8 * k)) (8 * 8) v) := by
          rw [show L - 8 * (k + 1) = L - 8 * k - 8 by omega, show scap - 8 * (k + 1) = scap - 8 * k - 8 by omega, show n - 8 * (k + 1) = n - 8 * k - 8 by omega, show cap - 8 * (k + 1) = cap - 8 * k - 8 by omega]
          exact hT5
        have HT6 := Lib.hid hT6
        clear h5 b5 hX hT5 hT6
        go_wp2_with fail
        go_roundw
        case rel => exact ⟨k + 1, V, _, hlt, by rw [← Hk2.out], HT6.out, fun _ => HnV.out⟩
        case measure => simp [intOf]; omega
      · obtain rfl : k = nw := by omega
        have hk0 : ((k - k : Nat) : Int) = 0 := by omega
        have HT := Lib.hid hT
        clear hT hN
        go_wp2_with fail
        go_meet
        exact ⟨cu, γ, HT.out⟩
  case rest =>
  clear HT Hf c2 c4 cu
  obtain ⟨cu, γ, hT⟩ := hcut
  have c4' := trailing_count A sb so rs (8 * nw) (L - 8 * nw) (scap - 8 * nw) nw tb ty cu wc hT.wr
  have Hc4 := Lib.hid c4'
  have HT := Lib.hid hT
  clear hT c4'
  go_wp2_with fail
  refine Hc4.out.mono ?_
  rintro e w4 ⟨rfl, rfl⟩
  go_wp2_with fail
  go_loopw [17] (fun s wx => ∃ k, k ≤ ty ∧ s = .int .i64 (ty - k : Nat) ∧ Chg (fun k x => k = A ∨ k = Z ∨ RowS b off n k x) w wx ∧ (k < ty → ∃ cu γ, Tq sb so m b off n A Z rs length σ w wx (8 * nw + k) (tb - 8 * k) (ty - k) nw (L - 8 * nw - k) (scap - 8 * nw - k) (n - 8 * nw - k) (cap - 8 * nw - k) cu γ) ∧ (k = ty → Done wx b off n rs length σ)) (fun s _ => (intOf s).toNat)
  case atStart => exact ⟨0, Nat.zero_le _, rfl, HT.out.chg, fun _ => ⟨cu, γ, HT.out⟩, fun h => by have := Hty.out; have := Htb.out; have := Hnw.out; omega⟩
  case round =>
    clear HT
    clear cu γ
    obtain ⟨k, hk, rfl, hch, ht, hdn⟩ := hrel
    by_cases hlt : k < ty
    · obtain ⟨cu, γ, hT⟩ := ht hlt
      clear ht hdn hch
      have hk1 : (0 : Int) < (ty - k : Nat) := by omega
      have hkb : ((ty - k : Nat) : Int) ≤ 1000000000 := by have := Hty.out; have := Htb.out; omega
      have hk2 : ((ty - k : Nat) : Int) - 1 = (ty - (k + 1) : Nat) := by omega
      have Hk2 := Lib.hid hk2
      have HT := Lib.hid hT
      clear hT hk2
      have hjn : 8 * nw + k + 1 ≤ n := by have := Hty.out; have := Htb.out; have := Hnw.out; omega
      have hnL : n - 8 * nw - k ≤ 1000000000 := by omega
      by_cases hlast : k + 1 < ty
      · have hd1 := nextTrailR_ok A sb so m rs (8 * nw + k) (L - 8 * nw - k) (scap - 8 * nw - k) nw (tb - 8 * k) (ty - k) cu σ wr HT.out.bs HT.out.wr HT.out.As hr1 hr8 (by have := HL.out; have := Hty.out; have := Htb.out; have := Hnw.out; omega) (by have := HL.out; omega) (by have := HL.out; have := Hty.out; have := Htb.out; have := Hnw.out; omega) HT.out.lo (by have := Hty.out; omega) (by omega) (by have := Htb.out; omega) (by omega)
        have Hd1 := Lib.hid hd1
        clear hd1
        go_wp2_with fail
        refine Hd1.out.mono ?_
        rintro e w5 ⟨v, V, rfl, hv, h5, hWR, hLo⟩
        obtain ⟨q1, q2, q3⟩ := HT.out.ww1 h5
        have hd2 := putTrail80_ok Z b off n (8 * nw + k) (n - 8 * nw - k) (cap - 8 * nw - k) length 0 v _ w5 q2 q1 HT.out.Zb (by omega) (by omega) hjn hv.lt
        have Hd2 := Lib.hid hd2
        have H5 := Lib.hid h5
        have Hv := Lib.hid hv
        have HWR := Lib.hid hWR
        have HLo := Lib.hid hLo
        clear h5 hv hWR hLo q1 q2 q3 hd2
        go_wp2_with fail
        refine Hd2.out.mono ?_
        rintro e w6 ⟨rfl, h6, b6, hX⟩
        have hX2 := hX (by have := Hty.out; have := Htb.out; have := Hnw.out; omega)
        have hT7 := HT.out.step 1 v V (tb - 8 * k - 8) (ty - k - 1) (L - 8 * nw - k - 1) (scap - 8 * nw - k - 1) (n - 8 * nw - k - 1) (cap - 8 * nw - k - 1) (fun t ht => by rw [Hv.out.tb t (by omega), decide_eq_true (by omega), Bool.true_and]) H5.out HWR.out HLo.out h6 b6 hX2
        have hc7 := hT7.chg
        have HT7 := Lib.hid hT7
        have Hc7 := Lib.hid hc7
        clear h6 b6 hX hX2 hT7 hc7
        go_wp2_with fail
        go_roundw
        case rel => exact ⟨k + 1, hlt, by rw [← Hk2.out], Hc7.out, fun _ => ⟨V, _, HT7.out⟩, fun h => by omega⟩
        case measure => simp [intOf]; omega
      · obtain ⟨vb, hvb⟩ : ∃ vb, vb = tb - 8 * k := ⟨_, rfl⟩
        have hvb1 : 1 ≤ vb ∧ vb ≤ 8 := by have := Hty.out; omega
        have hlen : length = 8 * (8 * nw + k) + vb := by have := Hty.out; have := Htb.out; have := Hnw.out; omega
        have hd1 := lastTrail_ok A sb so m rs (8 * nw + k) (L - 8 * nw - k) (scap - 8 * nw - k) nw (tb - 8 * k) (ty - k) cu σ wr HT.out.bs HT.out.wr HT.out.As hr8 (by omega) (by omega) (by have := HL.out; omega) (by have := HL.out; omega) (by have := HL.out; omega)
        rw [← hvb] at hd1
        have Hd1 := Lib.hid hd1
        have Hlen := Lib.hid hlen
        have Hvb := Lib.hid hvb
        clear hd1 hlen hvb
        have fin : ∀ (w5 w6 : World) (γ2 : Nat → Bool), Chg (Own A) wr w5 → Chg (WS Z b off n) w5 w6 → Bmp w6 b off n γ2 → (∀ i, i < length → γ2 i = σ (rs + i)) → Chg (fun k x => k = A ∨ k = Z ∨ RowS b off n k x) w w6 ∧ Done w6 b off n rs length σ := fun w5 w6 γ2 h5 h6 hb h => ⟨(HT.out.chg.trans (h5.mono (fun _ _ _ hh => .inl hh))).trans (h6.mono (fun _ _ _ hh => .inr hh)), γ2, hb, h⟩
        have Hfin := Lib.hid fin
        clear fin
        by_cases hv8 : vb = 8
        · subst hv8
          go_wp2_with fail
          refine Hd1.out.mono ?_
          rintro e w5 ⟨v, rfl, hv, h5, -⟩
          obtain ⟨q1, q2, q3⟩ := HT.out.ww1 h5
          have hd2 := putTrail80_ok Z b off n (8 * nw + k) (n - 8 * nw - k) (cap - 8 * nw - k) length 0 v _ w5 q2 q1 HT.out.Zb (by omega) (by omega) hjn hv.lt
          have Hd2 := Lib.hid hd2
          have H5 := Lib.hid h5
          have Hv := Lib.hid hv
          clear h5 hv q1 q2 q3 hd2
          go_wp2_with fail
          refine Hd2.out.mono ?_
          rintro e w6 ⟨rfl, h6, b6, hX⟩
          have hf := Hfin.out w5 w6 _ H5.out h6 b6 (fun i hi => paste_at (g := 1) HT.out.dn (fun t ht => by rw [Hv.out.tb t (by omega), decide_eq_true (by omega), Bool.true_and]) i (by have := Hlen.out; omega))
          have Hf2 := Lib.hid hf
          clear hf h6 b6 hX
          go_wp2_with fail
          go_roundw
          case rel => exact ⟨k + 1, hlt, by rw [← Hk2.out], Hf2.out.1, fun h => absurd h hlast, fun _ => Hf2.out.2⟩
          case measure => simp [intOf]; omega
        · go_wp2_with fail
          refine Hd1.out.mono ?_
          rintro e w5 ⟨v, rfl, hv, h5, -⟩
          obtain ⟨q1, q2, q3⟩ := HT.out.ww1 h5
          have hT5 : Tabs w5 := HTb.out.keep (HT.out.chg.trans (h5.mono (fun _ _ _ hh => .inl hh))) (by
            have := HAZ.out
            rintro a x (hh | hh | hh)
            · omega
            · omega
            · have := hh.1; omega)
          have hd2 := putTrailM_ok Z b off n (8 * nw + k) (n - 8 * nw - k) (cap - 8 * nw - k) length 0 v vb _ w5 q2 hT5 q1 HT.out.Zb (by omega) (by omega) hnL hjn hv.lt (by omega) (by omega)
          have Hd2 := Lib.hid hd2
          have H5 := Lib.hid h5
          have Hv := Lib.hid hv
          clear h5 hv q1 q2 q3 hd2 hT5
          go_wp2_with fail
          refine Hd2.out.mono ?_
          rintro e w6 ⟨rfl, h6, x, hxt, b6⟩
          have hf := Hfin.out w5 w6 _ H5.out h6 b6 (fun i hi => by
            have := Hlen.out
            unfold byt
            by_cases hj : i / 8 = 8 * nw + k
            · rw [if_pos hj, hxt _ (by omega), Hv.out.tb _ (by omega), decide_eq_true (by omega), Bool.true_and, show 8 * (8 * nw + k) + rs + i % 8 = rs + i by omega]
            · rw [if_neg hj]; exact HT.out.dn i (by omega))
          have Hf2 := Lib.hid hf
          clear hf h6 b6 hxt
          go_wp2_with fail
          go_roundw
          case rel => exact ⟨k + 1, hlt, by rw [← Hk2.out], Hf2.out.1, fun h => absurd h hlast, fun _ => Hf2.out.2⟩
          case measure => simp [intOf]; omega
    · obtain rfl : k = ty := by omega
      have hk0 : ((k - k : Nat) : Int) = 0 := by omega
      have Hdn := Lib.hid (hdn rfl)
      have Hch := Lib.hid hch
      clear ht hdn hch
      go_wp2_with fail
      refine bodyPost_ret (results_none rfl _ _ _) rfl ?_
      refine ⟨rfl, Hch.out.mono (fun a x ha hh => ?_), Hdn.out⟩
      rcases hh with hh | hh | hh
      · have := HA.out; omega
      · have := HA.out; have := HAZ.out; omega
      · exact hh
set_option maxRecDepth 100000 in
set_option maxHeartbeats 1000000 in
theorem copyR_ok (sb so m slen scap b off n cap rs length : Nat) (β σ : Nat → Bool) (w : World) (hT : Tabs w) (hgA : 5 < w.heap.size) (hS : Bmp w sb so m σ) (hB : Bmp w b off n β) (hgb : 5 < b) (hsb : sb ≠ b) (hr1 : 1 ≤ rs) (hr8 : rs < 8) (h1 : 1 ≤ length) (hl : length ≤ 1000000000) (hm : (rs + length + 7) / 8 ≤ m) (hms : m ≤ slen) (hsc : slen ≤ scap) (hscap : scap ≤ 9223372036854775807) (hn : length ≤ 8 * n) (hnb : n ≤ 1000000000) (hnc : n ≤ cap) (hcap : cap ≤ 9223372036854775807) :
    Calls Tryz.prog 42 #[.slice (some ⟨sb, so, none⟩) slen scap, .int .i64 rs, .int .i64 length, .slice (some ⟨b, off, none⟩) n cap, .int .i64 0] w fun e w' => e = .returned (.tuple #[]) ∧ Chg (RowS b off n) w w' ∧ Done w' b off n rs length σ := by
  have H := Lib.hid (transferR_ok sb so m slen scap b off n cap rs length β σ w hT hgA hS hB hgb hsb hr1 hr8 h1 hl hm hms hsc hscap hn hnb hnc hcap)
  clear hS hB hT
  go_enter Tryz.func42, Tryz.ntmps42
  go_wp2_with fail
  refine H.out.mono ?_
  rintro e w1 ⟨rfl, h1, h2⟩
  have H1 := Lib.hid h1
  have H2 := Lib.hid h2
  clear h1 h2
  go_wp2_with fail
  go_end0
  exact ⟨rfl, H1.out, H2.out⟩
end Go.Proofs.YtflgbndhahcdnaaGreatDoor
/- The plain decoder of bools: to a bitmap. -/
namespace Go.Proofs.YtflgbndhahcdnaaGreatDoor
open Go Go.RowKit
theorem Bmp.sub {w : World} {b off L : Nat} {β : Nat → Bool} (h : Bmp w b off L β) (q m : Nat) (hq : q + m ≤ L) : Bmp w b (off + q) m (fun i => β (8 * q + i)) :=
  ⟨fun j hj => by
    obtain ⟨x, h1, h2, h3⟩ := h.cell (q + j) (by omega)
    exact ⟨x, by rwa [← Nat.add_assoc] at h1, h2, fun t ht => by rw [h3 t ht]; congr 1; omega⟩,
   fun j hj => by have := h.fr (q + j) (by omega); rwa [← Nat.add_assoc] at this⟩
theorem Bmp.ofBytes {w : World} {b off n : Nat} {β : Nat → Bool} (hc : ∀ j, j < n → ∃ x : Nat, w.cell? ⟨b, off + j, none⟩ = some (.int .u8 x) ∧ x < 256 ∧ ∀ t, t < 8 → x.testBit t = β (8 * j + t)) (hf : ∀ j, j < n → w.frozen? ⟨b, off + j, none⟩ = false) : Bmp w b off n β := ⟨hc, hf⟩
/-- What turns where bools are decoded to a bitmap. -/
def BmS (d ob nb : Nat) : Nat → Nat → Prop := fun a x => a = d ∨ RowS ob 0 nb a x
/-- The decoder's cells behind what was read. -/
theorem PX.fin {w w' : World} {d b p N L n : Nat} {β : Nat → Bool} (h : PX w d b p N N L β) (hn : n ≤ N) {S : Nat → Nat → Prop} (hc : Chg S w w') (hb : ∀ j, j < L → ¬ S b j) {a : Option Addr} {K c : Nat} (k0 : w'.cell? ⟨d, 0, none⟩ = some (.int .i64 (N - n : Nat))) (k1 : w'.cell? ⟨d, 1, none⟩ = some (.slice a K c)) (hK : K = L - (p + n) / 8) (hKc : K ≤ c) (hcm : c ≤ 9223372036854775807) (ha : (p + n) / 8 < L → a = some ⟨b, (p + n) / 8, none⟩) (k3 : w'.cell? ⟨d, 3, none⟩ = some (.int .i64 ((p + n) % 8 : Nat))) : PB w' d b (p + n) (N - n) L β :=
  ⟨k0, ⟨a, c, by rw [← hK]; exact k1, by rw [← hK]; exact hKc, hcm, ha⟩, k3, fun j hj => (hc.frozen _ _ h.lt).trans (h.fr j hj), h.dt.keep hc (fun j hj => by rw [Nat.zero_add]; exact hb j hj), by have := h.room; omega, h.big, h.ne⟩
set_option maxRecDepth 100000 in
set_option maxHeartbeats 1000000 in
theorem pbToBitmap_ok (d b ob p N L n cp nb : Nat) (β γ0 : Nat → Bool) (w : World) (h : PB w d b p N L β) (hT : Tabs w) (hB : Bmp w ob 0 nb γ0) (hnb : nb = (n + 7) / 8) (hcp : nb ≤ cp) (hcb : cp ≤ 9223372036854775807) (hn : n ≤ N) (hm : n ≤ 1000000) (hbo : b ≠ ob) (hdo : d ≠ ob) (hgo : 5 < ob) (hgw : 5 < w.heap.size) :
    Calls Tryz.prog 23 #[.pointer (some ⟨d, 0, none⟩), .slice (some ⟨ob, 0, none⟩) nb cp, .int .i64 0, .int .i64 n] w fun e w' =>
      e = .returned (.tuple #[.int .i64 n, .nilIface]) ∧ Chg (BmS d ob nb) w w' ∧ Done w' ob 0 nb p n β ∧ PB w' d b (p + n) (N - n) L β := by
  have c0 := h.nv
  have hNb : N ≤ 8000000 := by have := h.room; have := h.big; omega
  have H := Lib.hid h
  have HT := Lib.hid hT
  have HB := Lib.hid hB
  have Hnb := Lib.hid hnb
  have Hcp := Lib.hid hcp
  have Hcb := Lib.hid hcb
  have Hgo := Lib.hid hgo
  have Hgw := Lib.hid hgw
  clear h hT hB hnb hcp hcb hgo hgw
  by_cases hn0 : n = 0
  · subst hn0
    go_enter Tryz.func23, Tryz.ntmps23
    go_wp2_with fail
    refine (minN_ok 0 N _).mono ?_
    rintro e w1 ⟨rfl, rfl⟩
    rw [show min 0 N = 0 by omega]
    go_wp2_with fail
    go_ret2
    exact ⟨rfl, Chg.refl _ _, ⟨γ0, HB.out, fun i hi => by omega⟩, H.out⟩
  · have hn1 : ¬ (n : Int) = 0 := by omega
    have hmin : min n N = n := by omega
    go_enter Tryz.func23, Tryz.ntmps23
    go_wp2_with fail
    refine (minN_ok n N _).mono ?_
    rintro e w0 ⟨rfl, rfl⟩
    rw [hmin]
    clear hmin
    go_wp2_with fail
    refine (ensure_ok d b p N N L n β w0 H.out hn).mono ?_
    rintro e w1 ⟨rfl, hc1⟩
    dsimp only
    have h1 := H.out.keep hc1 (fun _ h => h) (fun _ _ h => h)
    have hB1 := HB.out.keep hc1 (fun _ _ h => h)
    have hT1 := HT.out.keep hc1 (fun _ _ h => h.elim)
    have c0' := h1.nv
    obtain ⟨a, c, c1, hKc, hcc, hca⟩ := h1.da
    have c3 := h1.bo
    have hroom := h1.room
    have f0 := h1.fr 0 (by omega)
    have f1 := h1.fr 1 (by omega)
    have f3 := h1.fr 3 (by omega)
    obtain ⟨q, hq⟩ : ∃ q, q = p / 8 := ⟨_, rfl⟩
    obtain ⟨f, hf⟩ : ∃ f, f = p % 8 := ⟨_, rfl⟩
    rw [← hq] at c1 hKc hca
    rw [← hf] at c3
    have hqL : q < L := by omega
    obtain rfl := hca hqL
    obtain ⟨K, hK⟩ : ∃ K, K = L - q := ⟨_, rfl⟩
    rw [← hK] at c1 hKc
    have hgw1 : 5 < w1.heap.size := Nat.lt_of_lt_of_le Hgw.out hc1.size
    have Hgw1 := Lib.hid hgw1
    have Hcc := Lib.hid hcc
    have Hc1 := Lib.hid hc1
    have H1 := Lib.hid h1
    have HB1 := Lib.hid hB1
    have HT1 := Lib.hid hT1
    have Hq := Lib.hid hq
    have Hf := Lib.hid hf
    have HK := Lib.hid hK
    have Hroom := Lib.hid hroom
    have hf8 : f < 8 := by omega
    clear hgw1 hcc hc1 h1 hB1 hT1 hca hq hf hK hroom c0 hn0
    by_cases hf0 : f = 0
    · subst hf0
      have hpq : p = 8 * q := by have := Hq.out; have := Hf.out; omega
      have hnb1 : 1 ≤ nb := by have := Hnb.out; omega
      have hnbK : nb ≤ K := by have := Hnb.out; have := HK.out; have := Hroom.out; omega
      have hnbc : (nb : Int) ≤ c := by omega
      have hnbcp : (nb : Int) ≤ cp := by have := Hcp.out; omega
      have hnbb : nb ≤ 1000000 := by have := Hnb.out; omega
      have hcp0 : ¬ cp = 0 := by have := Hcp.out; omega
      obtain ⟨fb, hfb⟩ : ∃ fb, fb = n / 8 := ⟨_, rfl⟩
      obtain ⟨tr, htr⟩ : ∃ tr, tr = n % 8 := ⟨_, rfl⟩
      have e1 : (n : Int) / 8 = fb := by omega
      have e2 : (n : Int) % 8 = tr := by omega
      have hfbn : fb ≤ nb := by have := Hnb.out; omega
      have htr8 : tr < 8 := by omega
      have Hpq := Lib.hid hpq
      have Hfb := Lib.hid hfb
      have Htr := Lib.hid htr
      clear hpq hfb htr
      go_wp2_with fail
      refine (bytesFor_ok n _ (by omega)).mono ?_
      rintro e w2 ⟨rfl, rfl⟩
      rw [← Hnb.out]
      go_upto_if 67 with fail
      go_cut [] (fun wx => ∃ γ, Bmp wx ob 0 nb γ ∧ (∀ i, i < 8 * fb → γ i = β (p + i)) ∧ Chg (RowS ob 0 nb) w2 wx)
      case first =>
        by_cases hfb0 : fb = 0
        · subst hfb0
          go_wp2_with fail
          go_meet
          exact ⟨γ0, HB1.out, fun i hi => by omega, Chg.refl _ _⟩
        · have hfb0' : (0 : Int) < fb := by omega
          have hfbnb : (fb : Int) ≤ nb := by omega
          have hfbc : (fb : Int) ≤ c := by omega
          obtain ⟨E, hE8, hEb, hEt⟩ := H1.out.dt.bytes
          have HE8 := Lib.hid hE8
          have HEb := Lib.hid hEb
          have HEt := Lib.hid hEt
          clear hE8 hEb hEt
          have h67 : (Nat.min fb nb) = fb := Nat.min_eq_left hfbn
          go_wp2_with (with_reducible refine wpList_copy_chg rfl (.tmp 68) (.tmp 71) 26 26 rfl 5 Tryz.underlying26 (by kernel_rfl) _ _ _ _ _ _ rfl rfl fb h67 ob 0 b q (fun j => .int .u8 (E (q + j))) ?c1 ?c2 ?c3 ?c4 ?c5 ?_)
          case c2 =>
            intro j hj
            have := HEb.out (q + j) (by have := HK.out; omega)
            rwa [Nat.zero_add] at this
          case c3 =>
            intro j hj
            obtain ⟨x, hx, -⟩ := HB1.out.cell j (by omega)
            exact ⟨_, hx⟩
          case c4 => exact fun j hj => HB1.out.fr j (by omega)
          case c5 => exact fun _ _ => rfl
          intro w3 hch hv
          have hB3 : Bmp w3 ob 0 nb (fun i => if i / 8 < fb then β (p + i) else γ0 i) := by
            refine ⟨fun j hj => ?_, fun j hj => ?_⟩
            · by_cases hjf : j < fb
              · refine ⟨E (q + j), by rw [Nat.zero_add]; exact hv j hjf, HE8.out _, fun t ht => ?_⟩
                rw [HEt.out (q + j) (by have := HK.out; omega) t ht]
                show _ = if (8 * j + t) / 8 < fb then β (p + (8 * j + t)) else γ0 (8 * j + t)
                rw [if_pos (by omega), show 8 * (q + j) + t = p + (8 * j + t) by have := Hpq.out; omega]
              · obtain ⟨x, hx, hx8, hxt⟩ := HB1.out.cell j hj
                refine ⟨x, hch.keep hx (fun h => by have := h.2; omega), hx8, fun t ht => ?_⟩
                rw [hxt t ht]
                show _ = if (8 * j + t) / 8 < fb then β (p + (8 * j + t)) else γ0 (8 * j + t)
                rw [if_neg (by omega)]
            · have : ob < w2.heap.size := by obtain ⟨x, hx, -⟩ := HB1.out.cell j hj; exact World.block_lt_of_cell? _ _ hx
              exact (hch.frozen _ _ this).trans (HB1.out.fr j hj)
          have hc3 : Chg (RowS ob 0 nb) w2 w3 := hch.mono (fun a x _ h => ⟨h.1, Nat.zero_le _, by have := h.2; omega⟩)
          have HB3 := Lib.hid hB3
          have Hc3 := Lib.hid hc3
          clear hch hv hB3 hc3
          go_wp2_with fail
          go_meet
          exact ⟨_, HB3.out, fun i hi => by rw [if_pos (by omega)], Hc3.out⟩
      case rest =>
      obtain ⟨γ, hBc, hγ, hcc⟩ := hcut
      have HBc := Lib.hid hBc
      have Hγ := Lib.hid hγ
      have Hcc2 := Lib.hid hcc
      clear hBc hγ hcc
      go_upto_if 76 with fail
      go_cut [] (fun wx => ∃ γ, Bmp wx ob 0 nb γ ∧ (∀ i, i < n → γ i = β (p + i)) ∧ Chg (RowS ob 0 nb) w2 wx)
      case first =>
        by_cases htr0 : tr = 0
        · subst htr0
          go_wp2_with fail
          go_meet
          exact ⟨γ, HBc.out, fun i hi => Hγ.out i (by have := Hfb.out; have := Htr.out; omega), Hcc2.out⟩
        · have htr0' : (0 : Int) < tr := by omega
          have hfbl : fb < nb := by have := Hnb.out; have := Hfb.out; have := Htr.out; omega
          have hfbi : (fb : Int) < nb := by omega
          have hfb0 : (0 : Int) ≤ fb := by omega
          have hfbt : ((fb : Nat) : Int).toNat = fb := by omega
          obtain ⟨x, hx, hx8, hxt⟩ := H1.out.dt.cell (q + fb) (by have := HK.out; omega)
          rw [Nat.zero_add] at hx
          have hx2 := Hcc2.out.keep hx (by rintro ⟨h, -⟩; exact hbo h)
          obtain ⟨y, hy, hy8, hyt⟩ := HBc.out.cell fb hfbl
          rw [Nat.zero_add] at hy
          have hyf := HBc.out.fr fb hfbl
          rw [Nat.zero_add] at hyf
          have hP := pow8 tr htr8
          have hP1 : 1 ≤ 2 ^ tr := Nat.two_pow_pos tr
          have hs : IntKind.u8.wrap (2 ^ tr) = (2 ^ tr : Nat) := by have := shl1 ⟨tr, htr8⟩; rwa [Int.one_mul] at this
          obtain ⟨M, hM⟩ : ∃ M, M = 2 ^ tr - 1 := ⟨_, rfl⟩
          have hM8 : M < 256 := by omega
          have hsub : ((2 ^ tr : Nat) : Int) - 1 = (M : Nat) := by omega
          have hsubw : IntKind.u8.wrap (((2 ^ tr : Nat) : Int) - 1) = (M : Nat) := by rw [hsub]; exact IntWalk.u8_in _ (by omega)
          obtain ⟨P, hPe⟩ : ∃ P, P = 2 ^ tr := ⟨_, rfl⟩
          rw [← hPe] at hs hsub hsubw
          have d1 := u8_andNot_nat y M hy8 hM8
          have d2 := u8_and_nat x M hx8 hM8
          have l1 : y &&& (255 - M) < 256 := and_lt y _ hy8
          have l2 : x &&& M < 256 := and_lt x M hx8
          have d3 := u8_or_nat _ _ l1 l2
          have l3 := or_lt _ _ l1 l2
          have htb : ∀ t, t < 8 → ((y &&& (255 - M)) ||| (x &&& M)).testBit t = if t < tr then x.testBit t else y.testBit t := by
            intro t ht
            rw [Nat.testBit_or, Nat.testBit_and, Nat.testBit_and, tb_not M t hM8 ht, hM, tb_ones]
            by_cases h : t < tr <;> simp [h]
          obtain ⟨D1, hD1⟩ : ∃ D1, D1 = y &&& (255 - M) := ⟨_, rfl⟩
          obtain ⟨D2, hD2⟩ : ∃ D2, D2 = x &&& M := ⟨_, rfl⟩
          obtain ⟨D3, hD3⟩ : ∃ D3, D3 = D1 ||| D2 := ⟨_, rfl⟩
          rw [← hD1] at d1 d3 l3 htb
          rw [← hD2] at d2 d3 l3 htb
          rw [← hD3] at d3 l3 htb
          have r0 : 0 ≤ (tr : Int) := by omega
          have r8 : (tr : Int) ≤ 8 := by omega
          have hrt : ((tr : Nat) : Int).toNat = tr := by omega
          have hB4 : Bmp (wc.setCell ⟨ob, fb, none⟩ (.int .u8 D3)) ob 0 nb (byt γ fb D3) := by
            have := HBc.out.byte fb D3 l3
            rwa [Nat.zero_add] at this
          have hc4 : Chg (RowS ob 0 nb) w2 (wc.setCell ⟨ob, fb, none⟩ (.int .u8 D3)) := Hcc2.out.setCell _ _ (fun _ => ⟨rfl, by omega, by omega⟩) _
          have hγ4 : ∀ i, i < n → byt γ fb D3 i = β (p + i) := by
            intro i hi
            have := Hfb.out
            have := Htr.out
            unfold byt
            by_cases hj : i / 8 = fb
            · rw [if_pos hj, htb _ (by omega), if_pos (by omega), hxt _ (by omega), show 8 * (q + fb) + i % 8 = p + i by have := Hpq.out; omega]
            · rw [if_neg hj]; exact Hγ.out i (by omega)
          have HB4 := Lib.hid hB4
          have Hc4 := Lib.hid hc4
          have Hγ4 := Lib.hid hγ4
          clear hx hxt hyt hM hD1 hD2 hD3 hPe l1 l2 l3 htb hB4 hc4 hγ4 hP hP1
          go_wp2_with fail
          go_meet
          exact ⟨_, HB4.out, Hγ4.out, Hc4.out⟩
      case rest =>
      obtain ⟨γ2, hB5, hγ5, hc5⟩ := hcut
      have d0 := hc5.keep c0' (by rintro ⟨h, -⟩; exact hdo h)
      have d1 := hc5.keep c1 (by rintro ⟨h, -⟩; exact hdo h)
      have g0 := (hc5.frozen d 0 H1.out.lt).trans f0
      have g1 := (hc5.frozen d 1 H1.out.lt).trans f1
      have g3 := (hc5.frozen d 3 H1.out.lt).trans f3
      have d3 := hc5.keep c3 (by rintro ⟨h, -⟩; exact hdo h)
      have H5 := Lib.hid hc5
      have HB5 := Lib.hid hB5
      have Hγ5 := Lib.hid hγ5
      have hfbK : (fb : Int) ≤ K := by omega
      clear c0' c1 c3 f0 f1 f3 hc5 hB5 hγ5
      by_cases hcA : c = fb
      · subst hcA
        go_wp2_with fail
        go_ret2
        have hc3 := (((Chg.refl (Own d) wc).own 1 (.slice (some ⟨b, q, none⟩) 0 0)).own 3 (.int .i64 tr)).own 0 (.int .i64 ((N : Int) - n))
        have hcw := ((Hc1.out.mono (S' := BmS d ob nb) (fun _ _ _ h => h.elim)).trans (H5.out.mono (fun _ _ _ h => .inr h))).trans (hc3.mono (fun _ _ _ h => .inl h))
        refine ⟨rfl, hcw, ⟨γ2, HB5.out.keep hc3 (fun j hj h => hdo h.symm), Hγ5.out⟩, PX.fin H.out hn hcw (fun j hj => by rintro (h | ⟨h, -⟩); exact H.out.ne h.symm; exact hbo h) (a := some ⟨b, q, none⟩) (K := 0) (c := 0) ?_ (by go_cell) (by (have := HK.out; have := Hfb.out; have := Htr.out; have := Hq.out; have := Hf.out; have := Hpq.out; omega)) (by omega) (by have := Hcc.out; omega) (fun h => ?_) ?_⟩
        · rw [show ((N - n : Nat) : Int) = (N : Int) - n by omega]; go_cell
        · (have := HK.out; have := Hfb.out; have := Htr.out; have := Hq.out; have := Hf.out; have := Hpq.out; omega)
        · rw [show (p + n) % 8 = tr by (have := HK.out; have := Hfb.out; have := Htr.out; have := Hq.out; have := Hf.out; have := Hpq.out; omega)]; go_cell
      · go_wp2_with fail
        go_ret2
        have hc3 := (((Chg.refl (Own d) wc).own 1 (.slice (some ⟨b, (q + fb), none⟩) (K - fb) (c - fb))).own 3 (.int .i64 tr)).own 0 (.int .i64 ((N : Int) - n))
        have hcw := ((Hc1.out.mono (S' := BmS d ob nb) (fun _ _ _ h => h.elim)).trans (H5.out.mono (fun _ _ _ h => .inr h))).trans (hc3.mono (fun _ _ _ h => .inl h))
        refine ⟨rfl, hcw, ⟨γ2, HB5.out.keep hc3 (fun j hj h => hdo h.symm), Hγ5.out⟩, PX.fin H.out hn hcw (fun j hj => by rintro (h | ⟨h, -⟩); exact H.out.ne h.symm; exact hbo h) (a := some ⟨b, (q + fb), none⟩) (K := (K - fb)) (c := (c - fb)) ?_ (by go_cell) (by (have := HK.out; have := Hfb.out; have := Htr.out; have := Hq.out; have := Hf.out; have := Hpq.out; omega)) (by omega) (by have := Hcc.out; omega) (fun h => ?_) ?_⟩
        · rw [show ((N - n : Nat) : Int) = (N : Int) - n by omega]; go_cell
        · rw [show (p + n) / 8 = q + fb by (have := HK.out; have := Hfb.out; have := Htr.out; have := Hq.out; have := Hf.out; have := Hpq.out; omega)]
        · rw [show (p + n) % 8 = tr by (have := HK.out; have := Hfb.out; have := Htr.out; have := Hq.out; have := Hf.out; have := Hpq.out; omega)]; go_cell
    · have hf0' : ¬ (f : Int) = 0 := by omega
      have hKK : K ≤ 1000000 := by have := H1.out.big; have := HK.out; omega
      have hcopy := copyR_ok b q K K c ob 0 nb cp f n γ0 (fun i => β (8 * q + i)) w1 HT1.out Hgw1.out (by have := H1.out.dt.sub q K (by have := HK.out; omega); rwa [Nat.zero_add] at this) HB1.out Hgo.out hbo (by omega) hf8 (by omega) (by omega) (by have := HK.out; have := Hq.out; have := Hf.out; have := Hroom.out; omega) (Nat.le_refl _) hKc Hcc.out (by have := Hnb.out; omega) (by have := Hnb.out; omega) Hcp.out Hcb.out
      have Hcopy := Lib.hid hcopy
      clear hcopy hKK
      go_wp2_with fail
      refine Hcopy.out.mono ?_
      rintro e w2 ⟨rfl, h2, hD⟩
      have d0 := h2.keep c0' (by rintro ⟨h, -⟩; exact hdo h)
      have d1 := h2.keep c1 (by rintro ⟨h, -⟩; exact hdo h)
      have g0 := (h2.frozen d 0 H1.out.lt).trans f0
      have g1 := (h2.frozen d 1 H1.out.lt).trans f1
      have g3 := (h2.frozen d 3 H1.out.lt).trans f3
      have d3 := h2.keep c3 (by rintro ⟨h, -⟩; exact hdo h)
      have H2 := Lib.hid h2
      have HD := Lib.hid hD
      clear c0' c1 c3 f0 f1 f3 h2 hD
      obtain ⟨A, hA⟩ : ∃ A, A = (f + n) / 8 := ⟨_, rfl⟩
      have eA : ((f : Int) + n) / 8 = A := by omega
      have eR : ((f : Int) + n) % 8 = ((p + n) % 8 : Nat) := by have := Hf.out; omega
      have hAK : A ≤ K := by have := HK.out; have := Hq.out; have := Hf.out; have := Hroom.out; omega
      have hAKi : (A : Int) ≤ K := by omega
      have HA := Lib.hid hA
      have hfb : f ≤ 8 := by omega
      clear hA
      by_cases hcA : c = A
      · subst hcA
        go_wp2_with fail
        go_ret2
        have hc3 := (((Chg.refl (Own d) w2).own 1 (.slice (some ⟨b, q, none⟩) 0 0)).own 3 (.int .i64 (((p : Int) + n) % 8))).own 0 (.int .i64 ((N : Int) - n))
        have hcw := ((Hc1.out.mono (S' := BmS d ob nb) (fun _ _ _ h => h.elim)).trans (H2.out.mono (fun _ _ _ h => .inr h))).trans (hc3.mono (fun _ _ _ h => .inl h))
        refine ⟨rfl, hcw, ?_, PX.fin H.out hn hcw (fun j hj => by rintro (h | ⟨h, -⟩); exact H.out.ne h.symm; exact hbo h) (a := some ⟨b, q, none⟩) (K := 0) (c := 0) ?_ (by go_cell) (by have := HK.out; have := HA.out; have := Hq.out; have := Hf.out; omega) (by omega) (by have := Hcc.out; omega) (fun h => ?_) ?_⟩
        · obtain ⟨γ, k1, k2⟩ := HD.out
          exact ⟨γ, k1.keep hc3 (fun j hj h => hdo h.symm), fun i hi => by rw [k2 i hi]; show β (8 * q + (f + i)) = β (p + i); rw [show 8 * q + (f + i) = p + i by have := Hq.out; have := Hf.out; omega]⟩
        · rw [show ((N - n : Nat) : Int) = (N : Int) - n by omega]; go_cell
        · have := HK.out; have := HA.out; have := Hq.out; have := Hf.out; omega
        · rw [show (((p + n) % 8 : Nat) : Int) = ((p : Int) + n) % 8 by omega]; go_cell
      · go_wp2_with fail
        go_ret2
        have hc3 := (((Chg.refl (Own d) w2).own 1 (.slice (some ⟨b, (q + A), none⟩) (K - A) (c - A))).own 3 (.int .i64 (((p : Int) + n) % 8))).own 0 (.int .i64 ((N : Int) - n))
        have hcw := ((Hc1.out.mono (S' := BmS d ob nb) (fun _ _ _ h => h.elim)).trans (H2.out.mono (fun _ _ _ h => .inr h))).trans (hc3.mono (fun _ _ _ h => .inl h))
        refine ⟨rfl, hcw, ?_, PX.fin H.out hn hcw (fun j hj => by rintro (h | ⟨h, -⟩); exact H.out.ne h.symm; exact hbo h) (a := some ⟨b, (q + A), none⟩) (K := (K - A)) (c := (c - A)) ?_ (by go_cell) (by have := HK.out; have := HA.out; have := Hq.out; have := Hf.out; omega) (by omega) (by have := Hcc.out; omega) (fun h => ?_) ?_⟩
        · obtain ⟨γ, k1, k2⟩ := HD.out
          exact ⟨γ, k1.keep hc3 (fun j hj h => hdo h.symm), fun i hi => by rw [k2 i hi]; show β (8 * q + (f + i)) = β (p + i); rw [show 8 * q + (f + i) = p + i by have := Hq.out; have := Hf.out; omega]⟩
        · rw [show ((N - n : Nat) : Int) = (N : Int) - n by omega]; go_cell
        · rw [show (p + n) / 8 = q + A by have := HA.out; have := Hq.out; have := Hf.out; omega]
        · rw [show (((p + n) % 8 : Nat) : Int) = ((p : Int) + n) % 8 by omega]; go_cell
end Go.Proofs.YtflgbndhahcdnaaGreatDoor
/- New decoders of bools; their data. -/
namespace Go.Proofs.YtflgbndhahcdnaaGreatDoor
open Go Go.RowKit
/-- A decoder as it is made. -/
structure D0 (w : World) (d : Nat) : Prop where
  c0 : w.cell? ⟨d, 0, none⟩ = some (.int .i64 0)
  c1 : w.cell? ⟨d, 1, none⟩ = some (.slice none 0 0)
  c2 : w.cell? ⟨d, 2, none⟩ = some (.int .i64 0)
  fr : ∀ j, j < 4 → w.frozen? ⟨d, j, none⟩ = false
theorem D0.keep {w w' : World} {d : Nat} (h : D0 w d) (hc : Chg Nix w w') : D0 w' d :=
  ⟨hc.keep h.c0 (fun h => h), hc.keep h.c1 (fun h => h), hc.keep h.c2 (fun h => h), fun j hj => (hc.frozen _ _ (World.block_lt_of_cell? _ _ h.c0)).trans (h.fr j hj)⟩
set_option maxRecDepth 100000 in
set_option maxHeartbeats 1000000 in
theorem newBase_ok (w : World) : Calls Tryz.prog 28 #[] w fun e w' => e = .returned (.agg #[.int .i64 0, .slice none 0 0, .int .i64 0]) ∧ Chg Nix w w' := by
  go_enter Tryz.func28, Tryz.ntmps28
  go_wp2_with fail
  refine bodyPost_ret (results_cell_row rfl _ _ w.heap.size 60 _ (0, 0) _ rfl (heap_alloc_new w _) Tryz.underlying60 rfl (by kernel_rfl)) rfl ?_
  exact ⟨rfl, Chg.new _ _⟩
set_option maxRecDepth 100000 in
set_option maxHeartbeats 1000000 in
theorem newPlain_ok (w : World) : Calls Tryz.prog 18 #[] w fun e w' => ∃ d, e = .returned (.pointer (some ⟨d, 0, none⟩)) ∧ w.heap.size ≤ d ∧ d < w'.heap.size ∧ Chg Nix w w' ∧ D0 w' d ∧ w'.cell? ⟨d, 3, none⟩ = some (.int .i64 0) := by
  go_enter Tryz.func18, Tryz.ntmps18
  go_wp2_with fail
  refine (newBase_ok w).mono ?_
  rintro e w1 ⟨rfl, h1⟩
  have H1 := Lib.hid h1
  clear h1
  go_wp2_with fail
  go_ret
  exact ⟨w1.heap.size, rfl, H1.out.size, by simp, H1.out.alloc _, ⟨by simp, by simp, by simp, fun j hj => by simp⟩, by simp⟩
set_option maxRecDepth 100000 in
set_option maxHeartbeats 1000000 in
theorem newRuns_ok (w : World) : Calls Tryz.prog 12 #[] w fun e w' => ∃ d, e = .returned (.pointer (some ⟨d, 0, none⟩)) ∧ w.heap.size ≤ d ∧ d < w'.heap.size ∧ Chg Nix w w' ∧ D0 w' d ∧ w'.cell? ⟨d, 3, none⟩ = some (.pointer none) := by
  go_enter Tryz.func12, Tryz.ntmps12
  go_wp2_with fail
  refine (newBase_ok w).mono ?_
  rintro e w1 ⟨rfl, h1⟩
  have H1 := Lib.hid h1
  clear h1
  go_wp2_with fail
  go_ret
  exact ⟨w1.heap.size, rfl, H1.out.size, by simp, H1.out.alloc _, ⟨by simp, by simp, by simp, fun j hj => by simp⟩, by simp⟩
set_option maxRecDepth 100000 in
set_option maxHeartbeats 1000000 in
theorem baseSet_ok (d N : Nat) (v : Value) (a : Option Addr) (K c : Nat) (w : World) (hv : v = .slice a K c) (h : D0 w d) :
    Calls Tryz.prog 37 #[.pointer (some ⟨d, 0, none⟩), .int .i64 N, v] w fun e w' => e = .returned .nilIface ∧ w' = (w.setCell ⟨d, 1, none⟩ v).setCell ⟨d, 0, none⟩ (.int .i64 N) := by
  subst hv
  have c0 := h.c0
  have c1 := h.c1
  have f0 := h.fr 0 (by omega)
  have f1 := h.fr 1 (by omega)
  clear h
  go_enter Tryz.func37, Tryz.ntmps37
  go_wp2_with fail
  go_ret
  exact ⟨rfl, rfl⟩
set_option maxRecDepth 100000 in
set_option maxHeartbeats 1000000 in
theorem plainSet_ok (d b N L c : Nat) (β : Nat → Bool) (w : World) (h : D0 w d) (h3 : w.cell? ⟨d, 3, none⟩ = some (.int .i64 0)) (hB : Bmp w b 0 L β) (hLc : L ≤ c) (hc : c ≤ 9223372036854775807) (hL : L ≤ 1000000) (hN : N ≤ 8 * L) (hdb : d ≠ b) :
    Calls Tryz.prog 19 #[.pointer (some ⟨d, 0, none⟩), .int .i64 N, .slice (some ⟨b, 0, none⟩) L c] w fun e w' => e = .returned .nilIface ∧ Chg (Own d) w w' ∧ PB w' d b 0 N L β := by
  have Hcall := Lib.hid (baseSet_ok d N _ (some ⟨b, 0, none⟩) L c w rfl h)
  have H := Lib.hid h
  have HB := Lib.hid hB
  have Hc := Lib.hid hc
  have f3 := h.fr 3 (by omega)
  have hN0 : ¬ (N : Int) < 0 := by omega
  clear h hB hc
  go_enter Tryz.func19, Tryz.ntmps19
  go_wp2_with fail
  refine Hcall.out.mono ?_
  rintro e w1 ⟨rfl, rfl⟩
  go_wp2_with fail
  go_ret
  have hcs := ((((Chg.refl (Own d) w).own 1 (.slice (some ⟨b, 0, none⟩) L c)).own 0 (.int .i64 N)).own 3 (.int .i64 0))
  have k0 := H.out.c0
  have k1 := H.out.c1
  refine ⟨rfl, hcs, by go_cell, ⟨some ⟨b, 0, none⟩, c, ?_, ?_, Hc.out, fun _ => rfl⟩, ?_, fun j hj => by simp only [World.frozen?_setCell]; exact H.out.fr j hj, HB.out.keep hcs (fun _ _ h => hdb h.symm), by omega, hL, hdb⟩
  · rw [Nat.zero_div, Nat.sub_zero]; go_cell
  · rw [Nat.zero_div, Nat.sub_zero]; exact hLc
  · rw [Nat.zero_mod]; show _ = some (Value.int .i64 0); go_cell
end Go.Proofs.YtflgbndhahcdnaaGreatDoor
