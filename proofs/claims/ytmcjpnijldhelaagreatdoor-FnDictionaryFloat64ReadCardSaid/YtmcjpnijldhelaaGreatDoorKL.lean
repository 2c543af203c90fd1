/- Part 12 of the proof: the texts S, joined. What each proves stands ahead of it. -/
import Derived.Test.YtmcjpnijldhelaaGreatDoorKK
set_option linter.unusedVariables false
set_option linter.unusedSimpArgs false
/- The reader of bits: a number of some bytes by itself. Printed by mk_s.py. -/
namespace Go.Proofs.YtmcjpnijldhelaaGreatDoor
open Go Go.RowKit
set_option maxRecDepth 100000 in
set_option maxHeartbeats 1000000 in
theorem aligned32_ok (c : RC) (o f tb tj n : Nat) (u : Value) (w : World) (h : RS c w o f) (hn1 : 1 ≤ n) (hn : n ≤ 4) (ho : o + (f + 7) / 8 + n ≤ c.L) (hu : w.cell? ⟨tb, tj, none⟩ = some u) (huf : w.frozen? ⟨tb, tj, none⟩ = false) (t1 : tb ≠ c.B) (t2 : tb ≠ c.rb) (t3 : tb ≠ c.b) (t4 : 7 < tb) :
    Calls Tryz.prog 116 #[.pointer (some ⟨c.B, 0, none⟩), .int .i64 n, .pointer (some ⟨tb, tj, none⟩)] w fun e w' =>
      e = .returned (.bool true) ∧ Chg (OwnT c.B tb tj) w w' ∧ w'.cell? ⟨tb, tj, none⟩ = some (.int .u32 (leV c.D (o + (f + 7) / 8) n)) ∧ NS c w' (o + (f + 7) / 8 + n) 0 := by
  obtain ⟨buf, vb, hb, -⟩ := h.br
  have hf := h.hf
  have henv := h.env
  have c0 := hb.rd
  have c2 := hb.bo
  have c3 := hb.bi
  have f2 := hb.fr 2 (by omega)
  have f3 := hb.fr 3 (by omega)
  have hlB := hb.lt
  have hlt := World.block_lt_of_cell? w _ hu
  have hL := henv.hL
  have hC := henv.hC
  have hLb := henv.hLb
  have HB := Lib.hid hb; clear hb
  have HE := Lib.hid henv; clear henv h
  have hbc := fun W => bytesFor_ok f W (by omega)
  obtain ⟨g, hg⟩ : ∃ g, g = (f + 7) / 8 := ⟨_, rfl⟩
  obtain ⟨o', ho'⟩ : ∃ o', o' = o + g := ⟨_, rfl⟩
  rw [← hg, ← ho'] at ho ⊢
  rw [← hg] at hbc
  have hoi : (o : Int) + g = o' := by omega
  have Hg := Lib.hid hg; clear hg
  have Ho := Lib.hid ho'; clear ho'
  have hol : o' < 1000000000000000000 := by omega
  obtain ⟨q, hq⟩ : ∃ q, q = o' + n := ⟨_, rfl⟩
  rw [← hq]
  have Hq := Lib.hid hq; clear hq
  have Hbc := Lib.hid hbc; clear hbc
  have H0 := nil_ReadAt
  have H1 := method_ReadAt
  go_enter Tryz.func116, Tryz.ntmps116
  go_wp2_with fail
  refine (Hbc.out _).mono ?_
  rintro e w1 ⟨rfl, rfl⟩
  have hB1 := HB.out.off' o'
  have hc1 : Chg (OwnT c.B tb tj) w1 (w1.setCell ⟨c.B, 2, none⟩ (.int .i64 o')) := (Chg.refl _ _).setCell _ _ (fun _ => .inl rfl) _
  have hc1' := (Chg.refl (Own c.B) w1).own 2 (.int .i64 o')
  have he1 := HE.out.keepB hc1' (fun _ _ h => h)
  have hu1 := hc1'.keep hu t1
  have huf1 := (hc1'.frozen tb tj hlt).trans huf
  have hl1 := hc1'.lt hlB
  have hl1t := hc1'.lt hlt
  have HB1 := Lib.hid hB1
  have Hc1 := Lib.hid hc1
  have He1 := Lib.hid he1
  have Hu1 := Lib.hid hu1
  have Huf1 := Lib.hid huf1
  clear hB1 hc1 hc1' he1 hu1 huf1
  go_wp2_with fail
  generalize w1.setCell ⟨c.B, 2, none⟩ (.int .i64 o') = w2 at *
  clear c0 c2 c3 f2 f3 hu huf
  have c0 := HB1.out.rd
  have c2 := HB1.out.bo
  have c3 := HB1.out.bi
  have f2 := HB1.out.fr 2 (by omega)
  have f3 := HB1.out.fr 3 (by omega)
  have hnt : ((n : Int)).toNat = n := by omega
  have hn0 : 0 ≤ (n : Int) := by omega
  have hn8 : (n : Int) ≤ 8 := by omega
  refine wp_region_txt [] (by kernel_rfl) (by kernel_rfl) ?_
  repeat (first | (refine wpTxt_pure rfl rfl (fun K hK => ?_); go_simp; refine hK _ ?_; clear hK K) | (refine wpTxt_still rfl rfl (fun K hK => ?_); go_simp; refine hK _ ?_; clear hK K))
  refine wpTxt_effect rfl rfl (fun K hK => ?_)
  go_simp
  obtain ⟨ri, rp, hr⟩ := He1.out.rdr
  have Hr := Lib.hid hr; clear hr
  refine (readAt_any c.rb c.ro c.b c.bo c.L c.C c.B 5 n 8 o' c.ee c.eu ri rp c.D _ Hr.out.drew He1.out.data.bytes He1.out.eofs.drew (by have := He1.out.gB; omega) hL (fun j hj => HB1.out.raw j (by omega)) (fun j hj => HB1.out.fr _ (by omega))).mono ?_
  rintro e w3 ⟨hee, hch, hby⟩
  have e1 : min (c.L - o') n = n := by omega
  rw [e1] at hee hch hby
  have hch' := hch.undrew
  have hB3 : BR w3 c.B c.rb c.ro o' f buf vb := HB1.out.keep5 hch' (fun x hx h => by omega) (fun j hj h => ⟨_, hby j (by omega)⟩)
  have hc3 : Chg (OwnT c.B tb tj) w1 w3 := Hc1.out.trans (hch'.mono fun _ _ _ h => .inl h.1)
  have he3 := He1.out.keepB hch' (fun _ _ h => h.1)
  have hu3 := hch'.keep Hu1.out (by rintro ⟨h, -⟩; exact t1 h)
  have hl3 := hch'.lt hl1
  have hl3t := hch'.lt hl1t
  have huf3 := (hch'.frozen tb tj hl1t).trans Huf1.out
  have HB3 := Lib.hid hB3
  have Hc3 := Lib.hid hc3
  have He3 := Lib.hid he3
  have Hu3 := Lib.hid hu3
  have Huf3 := Lib.hid huf3
  have Hby := Lib.hid hby
  have heE := he3.eofs.e
  clear hch hby hch' hB3 hc3 he3 e1 hl1 hl1t c0 c2 c3 f2 f3
  obtain ⟨ev, rfl, hev⟩ : ∃ ev, e = .returned (.tuple #[.int .i64 n, ev]) ∧ (ev = .nilIface ∨ ev = .iface 181 (.pointer (some c.ee))) := by
    rcases hee with rfl | rfl
    · exact ⟨_, rfl, .inl rfl⟩
    · exact ⟨_, rfl, .inr rfl⟩
  clear hee
  have Hev := Lib.hid hev; clear hev
  clear hu3 huf3
  refine hK _ _ ?_
  clear hK K
  repeat (first | (refine wpTxt_pure rfl rfl (fun K hK => ?_); go_simp; refine hK _ ?_; clear hK K) | (refine wpTxt_still rfl rfl (fun K hK => ?_); go_simp; refine hK _ ?_; clear hK K))
  refine wpTxt_nil ?_
  go_upto_region 6 with fail
  go_cut [51] (fun v wx => v = .bool false ∧ w3 = wx)
  case first =>
    obtain rfl | rfl := Hev.out
    · go_wp2
      go_meet
      exact ⟨rfl, rfl⟩
    · have hq := neq_err_same c.ee w3
      go_wp2
      go_meet
      exact ⟨rfl, rfl⟩
  case rest =>
    obtain ⟨rfl, rfl⟩ := hcut
    clear heE
    have hset : ∀ (pp : Option Addr) (cp : Nat), (n < 4 → pp = some ⟨c.B, 5 + n, none⟩) →
        Calls Tryz.prog 131 #[.slice pp (4 - n : Nat) cp, .int .u8 0] w3 fun e w' => e = .returned (.tuple #[]) ∧ Chg (fun k x => k = c.B ∧ 5 + n ≤ x ∧ x < 5 + 4) w3 w' ∧ Bytes w' c.B (5 + n) (4 - n) (fun _ => 0) := by
      intro pp cp hpp
      by_cases hT : n < 4
      · obtain rfl := hpp hT
        refine (memset_ok c.B (5 + n) (4 - n) cp 0 w3 (by omega) (fun j hj => ?_) (fun j hj => HB3.out.fr _ (by omega))).mono ?_
        · have := HB3.out.raw (n + j) (by omega); rwa [← Nat.add_assoc] at this
        · rintro e w' ⟨h1, h2, h3⟩
          exact ⟨h1, h2.mono (fun k x _ h => ⟨h.1, h.2.1, by omega⟩), h3⟩
      · have hTn : 4 - n = 0 := by omega
        rw [hTn]
        exact (memset_nil pp cp 0 w3).mono fun e w' ⟨h1, h2⟩ => ⟨h1, h2 ▸ Chg.refl _ _, fun j hj => by omega⟩
    have Hset := Lib.hid hset; clear hset
    have hnT : (4 : Int) - n = ((4 - n : Nat) : Int) := by omega
    go_upto_region 10 with fail
    go_cut [] (fun wx => Chg (fun k x => k = c.B ∧ 5 + n ≤ x ∧ x < 5 + 4) w3 wx ∧ Bytes wx c.B (5 + n) (4 - n) (fun _ => 0))
    case first =>
      go_wp2_with fail
      · refine (Hset.out _ _ (fun _ => rfl)).mono ?_
        rintro e w4 ⟨rfl, h4, hz4⟩
        have H4 := Lib.hid h4; clear h4
        have Hz4 := Lib.hid hz4; clear hz4
        go_wp2_with fail
        go_meet
        exact ⟨H4.out, Hz4.out⟩
    case rest =>
    obtain ⟨h4, hz4⟩ := hcut
    obtain ⟨w4, rfl⟩ : ∃ x, x = wc := ⟨_, rfl⟩
    have hby4 : Bytes w4 c.B 5 4 (fun j => if j < n then c.D (o' + j) else 0) := by
      intro j hj
      by_cases hjn : j < n
      · simp only [if_pos hjn]
        exact h4.keep (Hby.out j hjn) (by rintro ⟨-, h, -⟩; omega)
      · simp only [if_neg hjn]
        have := hz4 (j - n) (by omega)
        rwa [show 5 + n + (j - n) = 5 + j by omega] at this
    have hB4 : BR w4 c.B c.rb c.ro o' f buf vb := HB3.out.keep5 h4 (fun x hx h => by omega) (fun j hj h => ⟨_, hby4 j (by omega)⟩)
    have hc4 : Chg (OwnT c.B tb tj) w1 w4 := Hc3.out.trans (h4.mono fun _ _ _ h => .inl h.1)
    have he4 := He3.out.keepB h4 (fun _ _ h => h.1)
    have hu4 := h4.keep Hu3.out (by rintro ⟨h, -⟩; exact t1 h)
    have hl4t := h4.lt hl3t
    have huf4 := (h4.frozen tb tj hl3t).trans Huf3.out
    have HB4 := Lib.hid hB4
    have Hc4 := Lib.hid hc4
    have He4 := Lib.hid he4
    have Hu4 := Lib.hid hu4
    have Huf4 := Lib.hid huf4
    have Hby4 := Lib.hid hby4
    clear h4 hz4 hby4 hB4 hc4 he4 hu4 huf4 HB3 Hc3 He3 Hu3 Huf3 Hset
    go_wp2_with fail
    refine wp_region_txt [] (by kernel_rfl) (by kernel_rfl) ?_
    repeat (first | (refine wpTxt_pure rfl rfl (fun K hK => ?_); go_simp; refine hK _ ?_; clear hK K) | (refine wpTxt_still rfl rfl (fun K hK => ?_); go_simp; refine hK _ ?_; clear hK K))
    refine wpTxt_effect rfl rfl (fun K hK => ?_)
    go_simp
    refine (le32_any c.B 5 4 8 (fun j => if j < n then c.D (o' + j) else 0) (fun j => by split; exact He4.out.data.lt _; omega) _ (by omega) (by exact Hby4.out)).mono ?_
    rintro e w5 ⟨rfl, h5⟩
    have h5' := h5.undrew
    rw [leV_cut c.D (fun j => if j < n then c.D (o' + j) else 0) n 4 o' 0 hn (fun j hj => by simp [hj]) (fun j hj _ => by simp; omega)]
    have hB5 := HB4.out.keep h5' (fun _ h => h)
    have hc5 : Chg (OwnT c.B tb tj) w1 w5 := Hc4.out.trans (h5'.mono fun _ _ _ h => h.elim)
    have he5 := He4.out.keepB h5' (fun _ _ h => h.elim)
    have hu5 := h5'.keep Hu4.out (fun h => h)
    have hl5t := h5'.lt hl4t
    have huf5 := (h5'.frozen tb tj hl4t).trans Huf4.out
    have HB5 := Lib.hid hB5
    have Hc5 := Lib.hid hc5
    have He5 := Lib.hid he5
    clear h5 h5' hB5 hc5 he5 HB4 Hc4 He4 Hu4 Huf4 Hby4
    refine hK _ _ ?_
    clear hK K
    repeat (first | (refine wpTxt_pure rfl rfl (fun K hK => ?_); go_simp; refine hK _ ?_; clear hK K) | (refine wpTxt_still rfl rfl (fun K hK => ?_); go_simp; refine hK _ ?_; clear hK K))
    (refine wpTxt_effect rfl rfl (fun K hK => ?_); go_simp; refine hK _ _ ?_; clear hK K)
    refine wpTxt_nil ?_
    have c2 := HB5.out.bo
    have c3 := HB5.out.bi
    have f2 := HB5.out.fr 2 (by omega)
    have f3 := HB5.out.fr 3 (by omega)
    have hoj : (o' : Int) + n = q := by have := Hq.out; omega
    obtain ⟨V, hV⟩ : ∃ V, V = leV c.D o' n := ⟨_, rfl⟩
    rw [← hV]
    have HV := Lib.hid hV; clear hV
    have hc4 := (Chg.refl (OwnT c.B tb tj) w5).setCell tb tj (fun _ => .inr ⟨rfl, rfl⟩) (.int .u32 V)
    have hv4 : (w5.setCell ⟨tb, tj, none⟩ (.int .u32 V)).cell? ⟨tb, tj, none⟩ = some (.int .u32 V) := World.cell?_setCell_same _ _ _ hu5
    have hc4' := (Chg.refl (fun k x => k = tb ∧ x = tj) w5).setCell tb tj (fun _ => ⟨rfl, rfl⟩) (.int .u32 V)
    have hB4 := HB5.out.keep hc4' (by rintro x ⟨h, -⟩; exact t1 h.symm)
    have he4 := He5.out.keep hc4' (by rintro k x ⟨rfl, -⟩; exact ⟨t3, t2, t4⟩)
    have hB5 := (hB4.off' q).bit' 0
    generalize hw4 : w5.setCell ⟨tb, tj, none⟩ (.int .u32 V) = w4 at hc4 hv4 hc4' hB4 he4 hB5
    have hc5 := ((Chg.refl (Own c.B) w4).own 2 (.int .i64 q)).own 3 (.int .u64 (0 : Nat))
    have he5 := he4.keepB hc5 (fun _ _ h => h)
    have hv5 := hc5.keep hv4 t1
    have hcall := fill_ok c q 0 _ _ _ he5 hB5 (by omega)
    have hc6 : Chg (OwnT c.B tb tj) w1 _ := (Hc5.out.trans hc4).trans (hc5.mono fun _ _ _ h => .inl h)
    rw [show ((0 : Nat) : Int) = 0 from rfl] at hcall hc6 hv5
    rw [← hw4] at hcall hc6 hv5 ⊢
    clear hw4 hc4 hv4 hc4' hB4 he4 hB5 hc5 he5
    have Hcall := Lib.hid hcall; clear hcall
    have Hc6 := Lib.hid hc6; clear hc6
    have Hv5 := Lib.hid hv5; clear hv5
    clear w4
    go_wp2_with fail
    refine Hcall.out.mono ?_
    rintro e w7 ⟨rfl, h1, h2⟩
    have hv7 := h1.keep Hv5.out t1
    have hc7 : Chg (OwnT c.B tb tj) w1 w7 := Hc6.out.trans (h1.mono fun _ _ _ h => .inl h)
    have Hv7 := Lib.hid hv7; clear hv7
    have Hc7 := Lib.hid hc7; clear hc7
    have H2 := Lib.hid h2; clear h2
    clear h1 hu5 huf5 c2 c3 f2 f3
    go_wp2_with fail
    go_ret
    exact ⟨rfl, Hc7.out, by rw [← HV.out]; exact Hv7.out, H2.out⟩
set_option maxRecDepth 100000 in
set_option maxHeartbeats 1000000 in
theorem aligned16_ok (c : RC) (o f tb tj n : Nat) (u : Value) (w : World) (h : RS c w o f) (hn1 : 1 ≤ n) (hn : n ≤ 2) (ho : o + (f + 7) / 8 + n ≤ c.L) (hu : w.cell? ⟨tb, tj, none⟩ = some u) (huf : w.frozen? ⟨tb, tj, none⟩ = false) (t1 : tb ≠ c.B) (t2 : tb ≠ c.rb) (t3 : tb ≠ c.b) (t4 : 7 < tb) :
    Calls Tryz.prog 117 #[.pointer (some ⟨c.B, 0, none⟩), .int .i64 n, .pointer (some ⟨tb, tj, none⟩)] w fun e w' =>
      e = .returned (.bool true) ∧ Chg (OwnT c.B tb tj) w w' ∧ w'.cell? ⟨tb, tj, none⟩ = some (.int .u16 (leV c.D (o + (f + 7) / 8) n)) ∧ NS c w' (o + (f + 7) / 8 + n) 0 := by
  obtain ⟨buf, vb, hb, -⟩ := h.br
  have hf := h.hf
  have henv := h.env
  have c0 := hb.rd
  have c2 := hb.bo
  have c3 := hb.bi
  have f2 := hb.fr 2 (by omega)
  have f3 := hb.fr 3 (by omega)
  have hlB := hb.lt
  have hlt := World.block_lt_of_cell? w _ hu
  have hL := henv.hL
  have hC := henv.hC
  have hLb := henv.hLb
  have HB := Lib.hid hb; clear hb
  have HE := Lib.hid henv; clear henv h
  have hbc := fun W => bytesFor_ok f W (by omega)
  obtain ⟨g, hg⟩ : ∃ g, g = (f + 7) / 8 := ⟨_, rfl⟩
  obtain ⟨o', ho'⟩ : ∃ o', o' = o + g := ⟨_, rfl⟩
  rw [← hg, ← ho'] at ho ⊢
  rw [← hg] at hbc
  have hoi : (o : Int) + g = o' := by omega
  have Hg := Lib.hid hg; clear hg
  have Ho := Lib.hid ho'; clear ho'
  have hol : o' < 1000000000000000000 := by omega
  obtain ⟨q, hq⟩ : ∃ q, q = o' + n := ⟨_, rfl⟩
  rw [← hq]
  have Hq := Lib.hid hq; clear hq
  have Hbc := Lib.hid hbc; clear hbc
  have H0 := nil_ReadAt
  have H1 := method_ReadAt
  go_enter Tryz.func117, Tryz.ntmps117
  go_wp2_with fail
  refine (Hbc.out _).mono ?_
  rintro e w1 ⟨rfl, rfl⟩
  have hB1 := HB.out.off' o'
  have hc1 : Chg (OwnT c.B tb tj) w1 (w1.setCell ⟨c.B, 2, none⟩ (.int .i64 o')) := (Chg.refl _ _).setCell _ _ (fun _ => .inl rfl) _
  have hc1' := (Chg.refl (Own c.B) w1).own 2 (.int .i64 o')
  have he1 := HE.out.keepB hc1' (fun _ _ h => h)
  have hu1 := hc1'.keep hu t1
  have huf1 := (hc1'.frozen tb tj hlt).trans huf
  have hl1 := hc1'.lt hlB
  have hl1t := hc1'.lt hlt
  have HB1 := Lib.hid hB1
  have Hc1 := Lib.hid hc1
  have He1 := Lib.hid he1
  have Hu1 := Lib.hid hu1
  have Huf1 := Lib.hid huf1
  clear hB1 hc1 hc1' he1 hu1 huf1
  go_wp2_with fail
  generalize w1.setCell ⟨c.B, 2, none⟩ (.int .i64 o') = w2 at *
  clear c0 c2 c3 f2 f3 hu huf
  have c0 := HB1.out.rd
  have c2 := HB1.out.bo
  have c3 := HB1.out.bi
  have f2 := HB1.out.fr 2 (by omega)
  have f3 := HB1.out.fr 3 (by omega)
  have hnt : ((n : Int)).toNat = n := by omega
  have hn0 : 0 ≤ (n : Int) := by omega
  have hn8 : (n : Int) ≤ 8 := by omega
  refine wp_region_txt [] (by kernel_rfl) (by kernel_rfl) ?_
  repeat (first | (refine wpTxt_pure rfl rfl (fun K hK => ?_); go_simp; refine hK _ ?_; clear hK K) | (refine wpTxt_still rfl rfl (fun K hK => ?_); go_simp; refine hK _ ?_; clear hK K))
  refine wpTxt_effect rfl rfl (fun K hK => ?_)
  go_simp
  obtain ⟨ri, rp, hr⟩ := He1.out.rdr
  have Hr := Lib.hid hr; clear hr
  refine (readAt_any c.rb c.ro c.b c.bo c.L c.C c.B 5 n 8 o' c.ee c.eu ri rp c.D _ Hr.out.drew He1.out.data.bytes He1.out.eofs.drew (by have := He1.out.gB; omega) hL (fun j hj => HB1.out.raw j (by omega)) (fun j hj => HB1.out.fr _ (by omega))).mono ?_
  rintro e w3 ⟨hee, hch, hby⟩
  have e1 : min (c.L - o') n = n := by omega
  rw [e1] at hee hch hby
  have hch' := hch.undrew
  have hB3 : BR w3 c.B c.rb c.ro o' f buf vb := HB1.out.keep5 hch' (fun x hx h => by omega) (fun j hj h => ⟨_, hby j (by omega)⟩)
  have hc3 : Chg (OwnT c.B tb tj) w1 w3 := Hc1.out.trans (hch'.mono fun _ _ _ h => .inl h.1)
  have he3 := He1.out.keepB hch' (fun _ _ h => h.1)
  have hu3 := hch'.keep Hu1.out (by rintro ⟨h, -⟩; exact t1 h)
  have hl3 := hch'.lt hl1
  have hl3t := hch'.lt hl1t
  have huf3 := (hch'.frozen tb tj hl1t).trans Huf1.out
  have HB3 := Lib.hid hB3
  have Hc3 := Lib.hid hc3
  have He3 := Lib.hid he3
  have Hu3 := Lib.hid hu3
  have Huf3 := Lib.hid huf3
  have Hby := Lib.hid hby
  have heE := he3.eofs.e
  clear hch hby hch' hB3 hc3 he3 e1 hl1 hl1t c0 c2 c3 f2 f3
  obtain ⟨ev, rfl, hev⟩ : ∃ ev, e = .returned (.tuple #[.int .i64 n, ev]) ∧ (ev = .nilIface ∨ ev = .iface 181 (.pointer (some c.ee))) := by
    rcases hee with rfl | rfl
    · exact ⟨_, rfl, .inl rfl⟩
    · exact ⟨_, rfl, .inr rfl⟩
  clear hee
  have Hev := Lib.hid hev; clear hev
  clear hu3 huf3
  refine hK _ _ ?_
  clear hK K
  repeat (first | (refine wpTxt_pure rfl rfl (fun K hK => ?_); go_simp; refine hK _ ?_; clear hK K) | (refine wpTxt_still rfl rfl (fun K hK => ?_); go_simp; refine hK _ ?_; clear hK K))
  refine wpTxt_nil ?_
  go_upto_region 6 with fail
  go_cut [51] (fun v wx => v = .bool false ∧ w3 = wx)
  case first =>
    obtain rfl | rfl := Hev.out
    · go_wp2
      go_meet
      exact ⟨rfl, rfl⟩
    · have hq := neq_err_same c.ee w3
      go_wp2
      go_meet
      exact ⟨rfl, rfl⟩
  case rest =>
    obtain ⟨rfl, rfl⟩ := hcut
    clear heE
    have hset : ∀ (pp : Option Addr) (cp : Nat), (n < 2 → pp = some ⟨c.B, 5 + n, none⟩) →
        Calls Tryz.prog 131 #[.slice pp (2 - n : Nat) cp, .int .u8 0] w3 fun e w' => e = .returned (.tuple #[]) ∧ Chg (fun k x => k = c.B ∧ 5 + n ≤ x ∧ x < 5 + 2) w3 w' ∧ Bytes w' c.B (5 + n) (2 - n) (fun _ => 0) := by
      intro pp cp hpp
      by_cases hT : n < 2
      · obtain rfl := hpp hT
        refine (memset_ok c.B (5 + n) (2 - n) cp 0 w3 (by omega) (fun j hj => ?_) (fun j hj => HB3.out.fr _ (by omega))).mono ?_
        · have := HB3.out.raw (n + j) (by omega); rwa [← Nat.add_assoc] at this
        · rintro e w' ⟨h1, h2, h3⟩
          exact ⟨h1, h2.mono (fun k x _ h => ⟨h.1, h.2.1, by omega⟩), h3⟩
      · have hTn : 2 - n = 0 := by omega
        rw [hTn]
        exact (memset_nil pp cp 0 w3).mono fun e w' ⟨h1, h2⟩ => ⟨h1, h2 ▸ Chg.refl _ _, fun j hj => by omega⟩
    have Hset := Lib.hid hset; clear hset
    have hnT : (2 : Int) - n = ((2 - n : Nat) : Int) := by omega
    go_upto_region 10 with fail
    go_cut [] (fun wx => Chg (fun k x => k = c.B ∧ 5 + n ≤ x ∧ x < 5 + 2) w3 wx ∧ Bytes wx c.B (5 + n) (2 - n) (fun _ => 0))
    case first =>
      go_wp2_with fail
      · refine (Hset.out _ _ (fun _ => rfl)).mono ?_
        rintro e w4 ⟨rfl, h4, hz4⟩
        have H4 := Lib.hid h4; clear h4
        have Hz4 := Lib.hid hz4; clear hz4
        go_wp2_with fail
        go_meet
        exact ⟨H4.out, Hz4.out⟩
    case rest =>
    obtain ⟨h4, hz4⟩ := hcut
    obtain ⟨w4, rfl⟩ : ∃ x, x = wc := ⟨_, rfl⟩
    have hby4 : Bytes w4 c.B 5 2 (fun j => if j < n then c.D (o' + j) else 0) := by
      intro j hj
      by_cases hjn : j < n
      · simp only [if_pos hjn]
        exact h4.keep (Hby.out j hjn) (by rintro ⟨-, h, -⟩; omega)
      · simp only [if_neg hjn]
        have := hz4 (j - n) (by omega)
        rwa [show 5 + n + (j - n) = 5 + j by omega] at this
    have hB4 : BR w4 c.B c.rb c.ro o' f buf vb := HB3.out.keep5 h4 (fun x hx h => by omega) (fun j hj h => ⟨_, hby4 j (by omega)⟩)
    have hc4 : Chg (OwnT c.B tb tj) w1 w4 := Hc3.out.trans (h4.mono fun _ _ _ h => .inl h.1)
    have he4 := He3.out.keepB h4 (fun _ _ h => h.1)
    have hu4 := h4.keep Hu3.out (by rintro ⟨h, -⟩; exact t1 h)
    have hl4t := h4.lt hl3t
    have huf4 := (h4.frozen tb tj hl3t).trans Huf3.out
    have HB4 := Lib.hid hB4
    have Hc4 := Lib.hid hc4
    have He4 := Lib.hid he4
    have Hu4 := Lib.hid hu4
    have Huf4 := Lib.hid huf4
    have Hby4 := Lib.hid hby4
    clear h4 hz4 hby4 hB4 hc4 he4 hu4 huf4 HB3 Hc3 He3 Hu3 Huf3 Hset
    go_wp2_with fail
    refine wp_region_txt [] (by kernel_rfl) (by kernel_rfl) ?_
    repeat (first | (refine wpTxt_pure rfl rfl (fun K hK => ?_); go_simp; refine hK _ ?_; clear hK K) | (refine wpTxt_still rfl rfl (fun K hK => ?_); go_simp; refine hK _ ?_; clear hK K))
    refine wpTxt_effect rfl rfl (fun K hK => ?_)
    go_simp
    refine (le16_any c.B 5 2 8 (fun j => if j < n then c.D (o' + j) else 0) (fun j => by split; exact He4.out.data.lt _; omega) _ (by omega) (by exact Hby4.out)).mono ?_
    rintro e w5 ⟨rfl, h5⟩
    have h5' := h5.undrew
    rw [leV_cut c.D (fun j => if j < n then c.D (o' + j) else 0) n 2 o' 0 hn (fun j hj => by simp [hj]) (fun j hj _ => by simp; omega)]
    have hB5 := HB4.out.keep h5' (fun _ h => h)
    have hc5 : Chg (OwnT c.B tb tj) w1 w5 := Hc4.out.trans (h5'.mono fun _ _ _ h => h.elim)
    have he5 := He4.out.keepB h5' (fun _ _ h => h.elim)
    have hu5 := h5'.keep Hu4.out (fun h => h)
    have hl5t := h5'.lt hl4t
    have huf5 := (h5'.frozen tb tj hl4t).trans Huf4.out
    have HB5 := Lib.hid hB5
    have Hc5 := Lib.hid hc5
    have He5 := Lib.hid he5
    clear h5 h5' hB5 hc5 he5 HB4 Hc4 He4 Hu4 Huf4 Hby4
    refine hK _ _ ?_
    clear hK K
    repeat (first | (refine wpTxt_pure rfl rfl (fun K hK => ?_); go_simp; refine hK _ ?_; clear hK K) | (refine wpTxt_still rfl rfl (fun K hK => ?_); go_simp; refine hK _ ?_; clear hK K))
    (refine wpTxt_effect rfl rfl (fun K hK => ?_); go_simp; refine hK _ _ ?_; clear hK K)
    refine wpTxt_nil ?_
    have c2 := HB5.out.bo
    have c3 := HB5.out.bi
    have f2 := HB5.out.fr 2 (by omega)
    have f3 := HB5.out.fr 3 (by omega)
    have hoj : (o' : Int) + n = q := by have := Hq.out; omega
    obtain ⟨V, hV⟩ : ∃ V, V = leV c.D o' n := ⟨_, rfl⟩
    rw [← hV]
    have HV := Lib.hid hV; clear hV
    have hc4 := (Chg.refl (OwnT c.B tb tj) w5).setCell tb tj (fun _ => .inr ⟨rfl, rfl⟩) (.int .u16 V)
    have hv4 : (w5.setCell ⟨tb, tj, none⟩ (.int .u16 V)).cell? ⟨tb, tj, none⟩ = some (.int .u16 V) := World.cell?_setCell_same _ _ _ hu5
    have hc4' := (Chg.refl (fun k x => k = tb ∧ x = tj) w5).setCell tb tj (fun _ => ⟨rfl, rfl⟩) (.int .u16 V)
    have hB4 := HB5.out.keep hc4' (by rintro x ⟨h, -⟩; exact t1 h.symm)
    have he4 := He5.out.keep hc4' (by rintro k x ⟨rfl, -⟩; exact ⟨t3, t2, t4⟩)
    have hB5 := (hB4.off' q).bit' 0
    generalize hw4 : w5.setCell ⟨tb, tj, none⟩ (.int .u16 V) = w4 at hc4 hv4 hc4' hB4 he4 hB5
    have hc5 := ((Chg.refl (Own c.B) w4).own 2 (.int .i64 q)).own 3 (.int .u64 (0 : Nat))
    have he5 := he4.keepB hc5 (fun _ _ h => h)
    have hv5 := hc5.keep hv4 t1
    have hcall := fill_ok c q 0 _ _ _ he5 hB5 (by omega)
    have hc6 : Chg (OwnT c.B tb tj) w1 _ := (Hc5.out.trans hc4).trans (hc5.mono fun _ _ _ h => .inl h)
    rw [show ((0 : Nat) : Int) = 0 from rfl] at hcall hc6 hv5
    rw [← hw4] at hcall hc6 hv5 ⊢
    clear hw4 hc4 hv4 hc4' hB4 he4 hB5 hc5 he5
    have Hcall := Lib.hid hcall; clear hcall
    have Hc6 := Lib.hid hc6; clear hc6
    have Hv5 := Lib.hid hv5; clear hv5
    clear w4
    go_wp2_with fail
    refine Hcall.out.mono ?_
    rintro e w7 ⟨rfl, h1, h2⟩
    have hv7 := h1.keep Hv5.out t1
    have hc7 : Chg (OwnT c.B tb tj) w1 w7 := Hc6.out.trans (h1.mono fun _ _ _ h => .inl h)
    have Hv7 := Lib.hid hv7; clear hv7
    have Hc7 := Lib.hid hc7; clear hc7
    have H2 := Lib.hid h2; clear h2
    clear h1 hu5 huf5 c2 c3 f2 f3
    go_wp2_with fail
    go_ret
    exact ⟨rfl, Hc7.out, by rw [← HV.out]; exact Hv7.out, H2.out⟩
set_option maxRecDepth 100000 in
set_option maxHeartbeats 1000000 in
theorem aligned64_ok (c : RC) (o f tb tj n : Nat) (u : Value) (w : World) (h : RS c w o f) (hn1 : 1 ≤ n) (hn : n ≤ 8) (ho : o + (f + 7) / 8 + n ≤ c.L) (hu : w.cell? ⟨tb, tj, none⟩ = some u) (huf : w.frozen? ⟨tb, tj, none⟩ = false) (t1 : tb ≠ c.B) (t2 : tb ≠ c.rb) (t3 : tb ≠ c.b) (t4 : 7 < tb) :
    Calls Tryz.prog 115 #[.pointer (some ⟨c.B, 0, none⟩), .int .i64 n, .pointer (some ⟨tb, tj, none⟩)] w fun e w' =>
      e = .returned (.bool true) ∧ Chg (OwnT c.B tb tj) w w' ∧ w'.cell? ⟨tb, tj, none⟩ = some (.int .u64 (leV c.D (o + (f + 7) / 8) n)) ∧ NS c w' (o + (f + 7) / 8 + n) 0 := by
  obtain ⟨buf, vb, hb, -⟩ := h.br
  have hf := h.hf
  have henv := h.env
  have c0 := hb.rd
  have c2 := hb.bo
  have c3 := hb.bi
  have f2 := hb.fr 2 (by omega)
  have f3 := hb.fr 3 (by omega)
  have hlB := hb.lt
  have hlt := World.block_lt_of_cell? w _ hu
  have hL := henv.hL
  have hC := henv.hC
  have hLb := henv.hLb
  have HB := Lib.hid hb; clear hb
  have HE := Lib.hid henv; clear henv h
  have hbc := fun W => bytesFor_ok f W (by omega)
  obtain ⟨g, hg⟩ : ∃ g, g = (f + 7) / 8 := ⟨_, rfl⟩
  obtain ⟨o', ho'⟩ : ∃ o', o' = o + g := ⟨_, rfl⟩
  rw [← hg, ← ho'] at ho ⊢
  rw [← hg] at hbc
  have hoi : (o : Int) + g = o' := by omega
  have Hg := Lib.hid hg; clear hg
  have Ho := Lib.hid ho'; clear ho'
  have hol : o' < 1000000000000000000 := by omega
  obtain ⟨q, hq⟩ : ∃ q, q = o' + n := ⟨_, rfl⟩
  rw [← hq]
  have Hq := Lib.hid hq; clear hq
  have Hbc := Lib.hid hbc; clear hbc
  have H0 := nil_ReadAt
  have H1 := method_ReadAt
  go_enter Tryz.func115, Tryz.ntmps115
  go_wp2_with fail
  refine (Hbc.out _).mono ?_
  rintro e w1 ⟨rfl, rfl⟩
  have hB1 := HB.out.off' o'
  have hc1 : Chg (OwnT c.B tb tj) w1 (w1.setCell ⟨c.B, 2, none⟩ (.int .i64 o')) := (Chg.refl _ _).setCell _ _ (fun _ => .inl rfl) _
  have hc1' := (Chg.refl (Own c.B) w1).own 2 (.int .i64 o')
  have he1 := HE.out.keepB hc1' (fun _ _ h => h)
  have hu1 := hc1'.keep hu t1
  have huf1 := (hc1'.frozen tb tj hlt).trans huf
  have hl1 := hc1'.lt hlB
  have hl1t := hc1'.lt hlt
  have HB1 := Lib.hid hB1
  have Hc1 := Lib.hid hc1
  have He1 := Lib.hid he1
  have Hu1 := Lib.hid hu1
  have Huf1 := Lib.hid huf1
  clear hB1 hc1 hc1' he1 hu1 huf1
  go_wp2_with fail
  generalize w1.setCell ⟨c.B, 2, none⟩ (.int .i64 o') = w2 at *
  clear c0 c2 c3 f2 f3 hu huf
  have c0 := HB1.out.rd
  have c2 := HB1.out.bo
  have c3 := HB1.out.bi
  have f2 := HB1.out.fr 2 (by omega)
  have f3 := HB1.out.fr 3 (by omega)
  have hnt : ((n : Int)).toNat = n := by omega
  have hn0 : 0 ≤ (n : Int) := by omega
  have hn8 : (n : Int) ≤ 8 := by omega
  refine wp_region_txt [] (by kernel_rfl) (by kernel_rfl) ?_
  repeat (first | (refine wpTxt_pure rfl rfl (fun K hK => ?_); go_simp; refine hK _ ?_; clear hK K) | (refine wpTxt_still rfl rfl (fun K hK => ?_); go_simp; refine hK _ ?_; clear hK K))
  refine wpTxt_effect rfl rfl (fun K hK => ?_)
  go_simp
  obtain ⟨ri, rp, hr⟩ := He1.out.rdr
  have Hr := Lib.hid hr; clear hr
  refine (readAt_any c.rb c.ro c.b c.bo c.L c.C c.B 5 n 8 o' c.ee c.eu ri rp c.D _ Hr.out.drew He1.out.data.bytes He1.out.eofs.drew (by have := He1.out.gB; omega) hL (fun j hj => HB1.out.raw j (by omega)) (fun j hj => HB1.out.fr _ (by omega))).mono ?_
  rintro e w3 ⟨hee, hch, hby⟩
  have e1 : min (c.L - o') n = n := by omega
  rw [e1] at hee hch hby
  have hch' := hch.undrew
  have hB3 : BR w3 c.B c.rb c.ro o' f buf vb := HB1.out.keep5 hch' (fun x hx h => by omega) (fun j hj h => ⟨_, hby j (by omega)⟩)
  have hc3 : Chg (OwnT c.B tb tj) w1 w3 := Hc1.out.trans (hch'.mono fun _ _ _ h => .inl h.1)
  have he3 := He1.out.keepB hch' (fun _ _ h => h.1)
  have hu3 := hch'.keep Hu1.out (by rintro ⟨h, -⟩; exact t1 h)
  have hl3 := hch'.lt hl1
  have hl3t := hch'.lt hl1t
  have huf3 := (hch'.frozen tb tj hl1t).trans Huf1.out
  have HB3 := Lib.hid hB3
  have Hc3 := Lib.hid hc3
  have He3 := Lib.hid he3
  have Hu3 := Lib.hid hu3
  have Huf3 := Lib.hid huf3
  have Hby := Lib.hid hby
  have heE := he3.eofs.e
  clear hch hby hch' hB3 hc3 he3 e1 hl1 hl1t c0 c2 c3 f2 f3
  obtain ⟨ev, rfl, hev⟩ : ∃ ev, e = .returned (.tuple #[.int .i64 n, ev]) ∧ (ev = .nilIface ∨ ev = .iface 181 (.pointer (some c.ee))) := by
    rcases hee with rfl | rfl
    · exact ⟨_, rfl, .inl rfl⟩
    · exact ⟨_, rfl, .inr rfl⟩
  clear hee
  have Hev := Lib.hid hev; clear hev
  clear hu3 huf3
  refine hK _ _ ?_
  clear hK K
  repeat (first | (refine wpTxt_pure rfl rfl (fun K hK => ?_); go_simp; refine hK _ ?_; clear hK K) | (refine wpTxt_still rfl rfl (fun K hK => ?_); go_simp; refine hK _ ?_; clear hK K))
  refine wpTxt_nil ?_
  go_upto_region 6 with fail
  go_cut [51] (fun v wx => v = .bool false ∧ w3 = wx)
  case first =>
    obtain rfl | rfl := Hev.out
    · go_wp2
      go_meet
      exact ⟨rfl, rfl⟩
    · have hq := neq_err_same c.ee w3
      go_wp2
      go_meet
      exact ⟨rfl, rfl⟩
  case rest =>
    obtain ⟨rfl, rfl⟩ := hcut
    clear heE
    have hset : ∀ (pp : Option Addr) (cp : Nat), (n < 8 → pp = some ⟨c.B, 5 + n, none⟩) →
        Calls Tryz.prog 131 #[.slice pp (8 - n : Nat) cp, .int .u8 0] w3 fun e w' => e = .returned (.tuple #[]) ∧ Chg (fun k x => k = c.B ∧ 5 + n ≤ x ∧ x < 5 + 8) w3 w' ∧ Bytes w' c.B (5 + n) (8 - n) (fun _ => 0) := by
      intro pp cp hpp
      by_cases hT : n < 8
      · obtain rfl := hpp hT
        refine (memset_ok c.B (5 + n) (8 - n) cp 0 w3 (by omega) (fun j hj => ?_) (fun j hj => HB3.out.fr _ (by omega))).mono ?_
        · have := HB3.out.raw (n + j) (by omega); rwa [← Nat.add_assoc] at this
        · rintro e w' ⟨h1, h2, h3⟩
          exact ⟨h1, h2.mono (fun k x _ h => ⟨h.1, h.2.1, by omega⟩), h3⟩
      · have hTn : 8 - n = 0 := by omega
        rw [hTn]
        exact (memset_nil pp cp 0 w3).mono fun e w' ⟨h1, h2⟩ => ⟨h1, h2 ▸ Chg.refl _ _, fun j hj => by omega⟩
    have Hset := Lib.hid hset; clear hset
    have hnT : (8 : Int) - n = ((8 - n : Nat) : Int) := by omega
    go_upto_region 10 with fail
    go_cut [] (fun wx => Chg (fun k x => k = c.B ∧ 5 + n ≤ x ∧ x < 5 + 8) w3 wx ∧ Bytes wx c.B (5 + n) (8 - n) (fun _ => 0))
    case first =>
      go_wp2_with fail
      · refine (memset_nil _ _ 0 _).mono ?_
        rintro e w4 ⟨rfl, rfl⟩
        go_wp2_with fail
        go_meet
        exact ⟨Chg.refl _ _, fun j hj => by omega⟩
      · refine (Hset.out _ _ (fun _ => rfl)).mono ?_
        rintro e w4 ⟨rfl, h4, hz4⟩
        have H4 := Lib.hid h4; clear h4
        have Hz4 := Lib.hid hz4; clear hz4
        go_wp2_with fail
        go_meet
        exact ⟨H4.out, Hz4.out⟩
    case rest =>
    obtain ⟨h4, hz4⟩ := hcut
    obtain ⟨w4, rfl⟩ : ∃ x, x = wc := ⟨_, rfl⟩
    have hby4 : Bytes w4 c.B 5 8 (fun j => if j < n then c.D (o' + j) else 0) := by
      intro j hj
      by_cases hjn : j < n
      · simp only [if_pos hjn]
        exact h4.keep (Hby.out j hjn) (by rintro ⟨-, h, -⟩; omega)
      · simp only [if_neg hjn]
        have := hz4 (j - n) (by omega)
        rwa [show 5 + n + (j - n) = 5 + j by omega] at this
    have hB4 : BR w4 c.B c.rb c.ro o' f buf vb := HB3.out.keep5 h4 (fun x hx h => by omega) (fun j hj h => ⟨_, hby4 j (by omega)⟩)
    have hc4 : Chg (OwnT c.B tb tj) w1 w4 := Hc3.out.trans (h4.mono fun _ _ _ h => .inl h.1)
    have he4 := He3.out.keepB h4 (fun _ _ h => h.1)
    have hu4 := h4.keep Hu3.out (by rintro ⟨h, -⟩; exact t1 h)
    have hl4t := h4.lt hl3t
    have huf4 := (h4.frozen tb tj hl3t).trans Huf3.out
    have HB4 := Lib.hid hB4
    have Hc4 := Lib.hid hc4
    have He4 := Lib.hid he4
    have Hu4 := Lib.hid hu4
    have Huf4 := Lib.hid huf4
    have Hby4 := Lib.hid hby4
    clear h4 hz4 hby4 hB4 hc4 he4 hu4 huf4 HB3 Hc3 He3 Hu3 Huf3 Hset
    go_wp2_with fail
    refine wp_region_txt [] (by kernel_rfl) (by kernel_rfl) ?_
    repeat (first | (refine wpTxt_pure rfl rfl (fun K hK => ?_); go_simp; refine hK _ ?_; clear hK K) | (refine wpTxt_still rfl rfl (fun K hK => ?_); go_simp; refine hK _ ?_; clear hK K))
    refine wpTxt_effect rfl rfl (fun K hK => ?_)
    go_simp
    refine (le64_any c.B 5 8 8 (fun j => if j < n then c.D (o' + j) else 0) (fun j => by split; exact He4.out.data.lt _; omega) _ (by omega) (by exact Hby4.out)).mono ?_
    rintro e w5 ⟨rfl, h5⟩
    have h5' := h5.undrew
    rw [leV_cut c.D (fun j => if j < n then c.D (o' + j) else 0) n 8 o' 0 hn (fun j hj => by simp [hj]) (fun j hj _ => by simp; omega)]
    have hB5 := HB4.out.keep h5' (fun _ h => h)
    have hc5 : Chg (OwnT c.B tb tj) w1 w5 := Hc4.out.trans (h5'.mono fun _ _ _ h => h.elim)
    have he5 := He4.out.keepB h5' (fun _ _ h => h.elim)
    have hu5 := h5'.keep Hu4.out (fun h => h)
    have hl5t := h5'.lt hl4t
    have huf5 := (h5'.frozen tb tj hl4t).trans Huf4.out
    have HB5 := Lib.hid hB5
    have Hc5 := Lib.hid hc5
    have He5 := Lib.hid he5
    clear h5 h5' hB5 hc5 he5 HB4 Hc4 He4 Hu4 Huf4 Hby4
    refine hK _ _ ?_
    clear hK K
    repeat (first | (refine wpTxt_pure rfl rfl (fun K hK => ?_); go_simp; refine hK _ ?_; clear hK K) | (refine wpTxt_still rfl rfl (fun K hK => ?_); go_simp; refine hK _ ?_; clear hK K))
    (refine wpTxt_effect rfl rfl (fun K hK => ?_); go_simp; refine hK _ _ ?_; clear hK K)
    refine wpTxt_nil ?_
    have c2 := HB5.out.bo
    have c3 := HB5.out.bi
    have f2 := HB5.out.fr 2 (by omega)
    have f3 := HB5.out.fr 3 (by omega)
    have hoj : (o' : Int) + n = q := by have := Hq.out; omega
    obtain ⟨V, hV⟩ : ∃ V, V = leV c.D o' n := ⟨_, rfl⟩
    rw [← hV]
    have HV := Lib.hid hV; clear hV
    have hc4 := (Chg.refl (OwnT c.B tb tj) w5).setCell tb tj (fun _ => .inr ⟨rfl, rfl⟩) (.int .u64 V)
    have hv4 : (w5.setCell ⟨tb, tj, none⟩ (.int .u64 V)).cell? ⟨tb, tj, none⟩ = some (.int .u64 V) := World.cell?_setCell_same _ _ _ hu5
    have hc4' := (Chg.refl (fun k x => k = tb ∧ x = tj) w5).setCell tb tj (fun _ => ⟨rfl, rfl⟩) (.int .u64 V)
    have hB4 := HB5.out.keep hc4' (by rintro x ⟨h, -⟩; exact t1 h.symm)
    have he4 := He5.out.keep hc4' (by rintro k x ⟨rfl, -⟩; exact ⟨t3, t2, t4⟩)
    have hB5 := (hB4.off' q).bit' 0
    generalize hw4 : w5.setCell ⟨tb, tj, none⟩ (.int .u64 V) = w4 at hc4 hv4 hc4' hB4 he4 hB5
    have hc5 := ((Chg.refl (Own c.B) w4).own 2 (.int .i64 q)).own 3 (.int .u64 (0 : Nat))
    have he5 := he4.keepB hc5 (fun _ _ h => h)
    have hv5 := hc5.keep hv4 t1
    have hcall := fill_ok c q 0 _ _ _ he5 hB5 (by omega)
    have hc6 : Chg (OwnT c.B tb tj) w1 _ := (Hc5.out.trans hc4).trans (hc5.mono fun _ _ _ h => .inl h)
    rw [show ((0 : Nat) : Int) = 0 from rfl] at hcall hc6 hv5
    rw [← hw4] at hcall hc6 hv5 ⊢
    clear hw4 hc4 hv4 hc4' hB4 he4 hB5 hc5 he5
    have Hcall := Lib.hid hcall; clear hcall
    have Hc6 := Lib.hid hc6; clear hc6
    have Hv5 := Lib.hid hv5; clear hv5
    clear w4
    go_wp2_with fail
    refine Hcall.out.mono ?_
    rintro e w7 ⟨rfl, h1, h2⟩
    have hv7 := h1.keep Hv5.out t1
    have hc7 : Chg (OwnT c.B tb tj) w1 w7 := Hc6.out.trans (h1.mono fun _ _ _ h => .inl h)
    have Hv7 := Lib.hid hv7; clear hv7
    have Hc7 := Lib.hid hc7; clear hc7
    have H2 := Lib.hid h2; clear h2
    clear h1 hu5 huf5 c2 c3 f2 f3
    go_wp2_with fail
    go_ret
    exact ⟨rfl, Hc7.out, by rw [← HV.out]; exact Hv7.out, H2.out⟩
end Go.Proofs.YtmcjpnijldhelaaGreatDoor
