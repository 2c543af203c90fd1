/- Part 13 of the proof: the texts G, Q, joined. What each proves stands ahead of it. -/
import Derived.Test.YtflgbndhahcdnaaGreatDoorKD
import Derived.Test.YtflgbndhahcdnaaGreatDoorKL
import Derived.Test.YtflgbndhahcdnaaGreatDoorKI
import Derived.Test.YtflgbndhahcdnaaGreatDoorKE
set_option linter.unusedVariables false
set_option linter.unusedSimpArgs false
/- A batch of numbers of n bits. -/
namespace Go.Proofs.YtflgbndhahcdnaaGreatDoor
open Go Go.RowKit
/-- What may turn at a batch. -/
def GT (c : RC) (ob oo len : Nat) : Nat → Nat → Prop := fun k x => k = c.B ∨ (k = c.rb ∧ c.ro ≤ x ∧ x < c.ro + 3) ∨ (k = ob ∧ oo ≤ x ∧ x < oo + len)
/-- Where the batch goes. -/
structure Dst (c : RC) (w : World) (ob oo len : Nat) : Prop where
  oth : ∀ j, j < len → ∃ u, w.cell? ⟨ob, oo + j, none⟩ = some u
  ofr : ∀ j, j < len → w.frozen? ⟨ob, oo + j, none⟩ = false
  nB : ob ≠ c.B
  nr : ob ≠ c.rb
  nb : ob ≠ c.b
  g : 5 < ob
theorem Dst.keep {c : RC} {w w' : World} {ob oo len : Nat} (h : Dst c w ob oo len) {S : Nat → Nat → Prop} (hc : Chg S w w') (hS : ∀ j, j < len → ¬ S ob (oo + j)) : Dst c w' ob oo len :=
  ⟨fun j hj => let ⟨u, hu⟩ := h.oth j hj; ⟨u, hc.keep hu (hS j hj)⟩, fun j hj => let ⟨u, hu⟩ := h.oth j hj; (hc.frozen _ _ (World.block_lt_of_cell? w _ hu)).trans (h.ofr j hj), h.nB, h.nr, h.nb, h.g⟩
theorem Dst.put {c : RC} {w : World} {ob oo len : Nat} (h : Dst c w ob oo len) (x : Nat) (v : Value) : Dst c (w.setCell ⟨ob, x, none⟩ v) ob oo len :=
  ⟨fun j hj => cell_is v (h.oth j hj), fun j hj => by rw [World.frozen?_setCell]; exact h.ofr j hj, h.nB, h.nr, h.nb, h.g⟩
/-- What is known behind k numbers. -/
structure GB (c : RC) (ob oo len n p : Nat) (w wr : World) (k o1 f1 : Nat) : Prop where
  chg : Chg (GT c ob oo len) w wr
  out : ∀ j, j < k → wr.cell? ⟨ob, oo + j, none⟩ = some (.int .u64 (bitsV c.D (p + j * n) n))
  dst : Dst c wr ob oo len
  rs : RS c wr o1 f1
  pos : 8 * o1 + f1 = p + k * n
/-- A store behind 'next'. -/
theorem GB.step {c : RC} {ob oo len n p k o1 f1 o2 f2 : Nat} {w wr w1 : World} (h : GB c ob oo len n p w wr k o1 f1) (hk : k < len) (hc : Chg (Own c.B) wr w1) (h2 : RS c w1 o2 f2) (hp : 8 * o2 + f2 = 8 * o1 + f1 + n) :
    GB c ob oo len n p w (w1.setCell ⟨ob, oo + k, none⟩ (.int .u64 (bitsV c.D (8 * o1 + f1) n))) (k + 1) o2 f2 := by
  have hd := h.dst.keep hc (fun j hj hh => h.dst.nB hh)
  refine ⟨(h.chg.comp hc (fun _ _ _ h => h) (fun _ _ _ h => .inl h)).setCell _ _ (fun _ => .inr (.inr ⟨rfl, by omega, by omega⟩)) _, ?_, hd.put _ _, ?_, ?_⟩
  · intro j hj
    by_cases hjk : j = k
    · subst hjk
      obtain ⟨u, hu⟩ := hd.oth j (by omega)
      rw [h.pos]
      exact World.cell?_setCell_same _ _ _ hu
    · exact cell_ne _ (hc.keep (h.out j (by omega)) (fun hh => h.dst.nB hh)) (by omega)
  · have hc1 := (Chg.refl (Own ob) w1).own (oo + k) (.int .u64 (bitsV c.D (8 * o1 + f1) n))
    exact h2.keep hc1 (by rintro a x rfl; exact ⟨hd.nb, hd.nr, hd.nB, hd.g⟩)
  · have e1 : (k + 1) * n = k * n + n := Nat.succ_mul k n
    have e2 := h.pos
    omega
theorem nil_Seek (a : Addr) (w : World) : (nilAhead 288 71 (.pointer (some a)) "Seek").run Tryz.prog w = .ok (some false) w := by kernel_rfl
theorem method_Seek (a : Addr) (w : World) : (method 288 71 (.pointer (some a)) "Seek").run Tryz.prog w = .ok (144, .pointer (some a)) w := by kernel_rfl
/-- What turns only the bytes.Reader. -/
theorem RS.seek {c : RC} {w w' : World} {o f : Nat} (h : RS c w o f) {S : Nat → Nat → Prop} (hc : Chg S w w') (hS : ∀ k x, S k x → k = c.rb) (hr : ∃ i pr, Rdr w' c.rb c.ro c.b c.bo c.L c.C i pr) : RS c w' o f :=
  ⟨h.env.keepR hc (fun k x hh => by rw [hS k x hh]; exact ⟨fun e => h.env.br e.symm, h.env.gr⟩) hr, h.hf, let ⟨buf, vb, hb, hq⟩ := h.br; ⟨buf, vb, hb.keep hc (fun x hh => h.env.rB (hS _ _ hh).symm), hq⟩⟩
theorem min_ok (a b : Int) (w : World) : Calls Tryz.prog 34 #[.int .i64 a, .int .i64 b] w fun e w' => e = .returned (.int .i64 (min a b)) ∧ w' = w := by
  go_enter Tryz.func34, Tryz.ntmps34
  by_cases h : a < b
  · go_wp2
    go_ret
    exact ⟨ret_int' (by omega), rfl⟩
  · go_wp2
    go_ret
    exact ⟨ret_int' (by omega), rfl⟩
set_option maxRecDepth 100000 in
set_option maxHeartbeats 1000000 in
theorem getBatch_ok (c : RC) (o f n ob oo len cap : Nat) (w : World) (h : RS c w o f) (hd : Dst c w ob oo len) (hn1 : 1 ≤ n) (hn : n ≤ 64) (hp : 8 * o + f + len * n ≤ 8 * c.L) (hlen : len ≤ cap) (hcap : cap ≤ 1000000000000000000) :
    Calls Tryz.prog 45 #[.pointer (some ⟨c.B, 0, none⟩), .int .u64 n, .slice (some ⟨ob, oo, none⟩) len cap] w fun e w' =>
      e = .returned (.tuple #[.int .i64 len, .nilIface]) ∧ Chg (GT c ob oo len) w w' ∧ (∀ j, j < len → w'.cell? ⟨ob, oo + j, none⟩ = some (.int .u64 (bitsV c.D (8 * o + f + j * n) n))) ∧ ∃ o' f', 8 * o' + f' = 8 * o + f + len * n ∧ NS c w' o' f' := by
  obtain ⟨p, hpp⟩ : ∃ p, p = 8 * o + f := ⟨_, rfl⟩
  rw [← hpp] at hp ⊢
  have h0 : GB c ob oo len n p w w 0 o f := ⟨Chg.refl _ _, fun j hj => by omega, hd, h, by omega⟩
  have hL := h.env.hL
  have hC := h.env.hC
  have hLb := h.env.hLb
  have hpk : ∀ k, k < len → p + k * n + n ≤ 8 * c.L := by
    intro k hk
    have : (k + 1) * n ≤ len * n := Nat.mul_le_mul_right _ hk
    rw [Nat.succ_mul] at this
    omega
  have H0 := Lib.hid h0; clear h0
  have Hpk := Lib.hid hpk; clear hpk
  have Hp := Lib.hid hp; clear hp
  clear h hd
  go_enter Tryz.func45, Tryz.ntmps45
  go_upto_block 0 with fail
  go_cut [9] (fun i wx => ∃ k o1 f1, k ≤ len ∧ i = .int .i64 k ∧ GB c ob oo len n p w wx k o1 f1 ∧ (k < len → f1 = 0))
  case first =>
    clear hpp
    go_wp2_with fail
    go_loopw [9] (fun i wx => ∃ k o1 f1, k ≤ len ∧ i = .int .i64 k ∧ GB c ob oo len n p w wx k o1 f1) (fun i _ => len - (intOf i).toNat)
    case atStart => exact ⟨0, o, f, Nat.zero_le _, rfl, H0.out⟩
    case round =>
      obtain ⟨k, o1, f1, hk, rfl, hG⟩ := hrel
      have HG := Lib.hid hG; clear hG
      by_cases hlt : k < len
      · obtain ⟨buf, vb, hb, -⟩ := HG.out.rs.br
        have c3 := hb.bi
        clear hb
        by_cases hf : f1 = 0
        · subst hf
          go_wp2_with fail
          go_meet
          exact ⟨k, o1, 0, hk, rfl, HG.out, fun _ => rfl⟩
        · have hf' : ¬ (f1 : Int) = 0 := by omega
          have hcall := next_ok c o1 f1 n wr (HG.out.rs.ns (by omega)) hn (by rw [HG.out.pos]; exact Hpk.out k hlt)
          have Hcall := Lib.hid hcall; clear hcall
          go_wp2_with fail
          refine Hcall.out.mono ?_
          rintro e w1 ⟨rfl, h1, o2, f2, h2, -, h3⟩
          have hG2 := HG.out.step hlt h1 h3.rs h2
          have hdd := HG.out.dst.keep h1 (fun j hj hh => HG.out.dst.nB hh)
          obtain ⟨u, hu⟩ := hdd.oth k hlt
          have hfz := hdd.ofr k hlt
          have HG2 := Lib.hid hG2; clear hG2
          clear h1 h2 h3 hdd
          go_wp2_with fail
          go_roundw
          case rel => exact ⟨k + 1, o2, f2, by omega, by go_num, HG2.out⟩
          case measure => simp [intOf]; omega
      · go_wp2_with fail
        go_meet
        exact ⟨k, o1, f1, hk, rfl, HG.out, fun h => absurd h hlt⟩
  case rest =>
    obtain ⟨k, o1, f1, hk, rfl, hG, hkf⟩ := hcut
    have HG := Lib.hid hG; clear hG
    clear H0
    go_upto_if 53 with fail
    go_cut [9] (fun i wx => ∃ k o1 f1, k ≤ len ∧ i = .int .i64 k ∧ GB c ob oo len n p w wx k o1 f1)
    case first =>
      by_cases hn32 : n ≤ 32
      · obtain ⟨buf, vb, hb, hbq⟩ := HG.out.rs.br
        obtain ⟨ri, rp, hr⟩ := HG.out.rs.env.rdr
        have Hr := Lib.hid hr; clear hr
        have c0 := hb.rd
        have c2 := hb.bo
        have HB := Lib.hid hb; clear hb
        have Hbq := Lib.hid hbq; clear hbq
        go_wp2_with fail
        have Hn := nil_Seek
        have Hm := method_Seek
        refine wp_region_txt [] (by kernel_rfl) (by kernel_rfl) ?_
        repeat (first | (refine wpTxt_pure rfl rfl (fun K hK => ?_); go_simp; refine hK _ ?_; clear hK K) | (refine wpTxt_still rfl rfl (fun K hK => ?_); go_simp; refine hK _ ?_; clear hK K))
        refine wpTxt_effect rfl rfl (fun K hK => ?_)
        go_simp
        refine (seek_start c.rb c.ro c.b c.bo c.L c.C o1 ri rp _ Hr.out.drew).mono ?_
        rintro e w1 ⟨rfl, h1, h2⟩
        have h1' := h1.undrew
        have hG1 : GB c ob oo len n p w w1 k o1 f1 :=
          ⟨HG.out.chg.comp h1' (fun _ _ _ h => h) (fun _ _ _ h => .inr (.inl h)), fun j hj => h1'.keep (HG.out.out j hj) (fun h => HG.out.dst.nr h.1), HG.out.dst.keep h1' (fun j hj h => HG.out.dst.nr h.1), HG.out.rs.seek h1' (fun _ _ h => h.1) ⟨_, _, h2⟩, HG.out.pos⟩
        have HG1 := Lib.hid hG1; clear hG1
        have Hr1 := Lib.hid h2; clear h2
        clear h1 h1' c0 c2 Hr HB Hbq HG Hn Hm
        (refine hK _ _ ?_; clear hK K)
        repeat (first | (refine wpTxt_pure rfl rfl (fun K hK => ?_); go_simp; refine hK _ ?_; clear hK K) | (refine wpTxt_still rfl rfl (fun K hK => ?_); go_simp; refine hK _ ?_; clear hK K))
        refine wpTxt_nil ?_
        go_wp2_with fail
        go_loopw [9] (fun i wx => ∃ k o1 f1 pr, k ≤ len ∧ i = .int .i64 k ∧ GB c ob oo len n p w wx k o1 f1 ∧ (k < len → f1 = 0) ∧ Rdr wx c.rb c.ro c.b c.bo c.L c.C o1 pr) (fun i _ => len - (intOf i).toNat)
        case atStart => exact ⟨k, o1, f1, _, hk, rfl, HG1.out, hkf, Hr1.out⟩
        case round =>
          clear hkf Hr1 HG1 hk hpp
          obtain ⟨k2, o2, f2, pr, hk2, rfl, hG, hkf, hr⟩ := hrel
          have HG := Lib.hid hG; clear hG
          have Hr := Lib.hid hr; clear hr
          by_cases hlt : k2 < len
          · obtain rfl := hkf hlt
            go_wp2_with fail
            clear hkf
            obtain ⟨m, hm⟩ : ∃ m : Nat, m = min 1024 (len - k2) := ⟨_, rfl⟩
            have hm1 : m ≤ 1024 := by omega
            have hm0 : 0 < m := by omega
            have hmk : k2 + m ≤ len := by omega
            have hmi : min (1024 : Int) ((len : Int) - k2) = (m : Nat) := by omega
            have hq : 8 * (o2 + m / 32 * (4 * n)) = p + (k2 + m / 32 * 32) * n := by
              have e1 : (k2 + m / 32 * 32) * n = k2 * n + m / 32 * 32 * n := Nat.add_mul _ _ _
              have e2 : 8 * (m / 32 * (4 * n)) = m / 32 * 32 * n := by rw [Nat.mul_left_comm, ← Nat.mul_assoc 8 4 n, ← Nat.mul_assoc]
              have := HG.out.pos
              omega
            have hqL : o2 + m / 32 * (4 * n) ≤ c.L := by
              have e1 : (k2 + m / 32 * 32) * n ≤ len * n := Nat.mul_le_mul_right _ (by omega)
              have := Hp.out
              omega
            have Hm := Lib.hid hm; clear hm
            have Hmi := Lib.hid (min_ok 1024 ((len : Int) - k2))
            have Hmi2 := Lib.hid hmi; clear hmi
            have Hq := Lib.hid hq; clear hq
            obtain ⟨buf, vb, hb, -⟩ := HG.out.rs.br
            have c0 := hb.rd
            have HB := Lib.hid hb; clear hb
            refine (Hmi.out _).mono ?_
            rintro e w2 ⟨rfl, rfl⟩
            rw [Hmi2.out]
            clear Hmi
            have hwn : IntKind.i64.wrap (n : Int) = n := IntWalk.i64_in _ (by omega)
            have hmt : ((m : Nat) : Int).toNat = m := by omega
            have hm00 : 0 ≤ (m : Int) := by omega
            have hm11 : (m : Int) ≤ 1024 := by omega
            go_wp2_with fail
            refine wp_region_txt [] (by kernel_rfl) (by kernel_rfl) ?_
            repeat (first | (refine wpTxt_pure rfl rfl (fun K hK => ?_); go_simp; refine hK _ ?_; clear hK K) | (refine wpTxt_still rfl rfl (fun K hK => ?_); go_simp; refine hK _ ?_; clear hK K))
            refine wpTxt_effect rfl rfl (fun K hK => ?_)
            go_simp
            refine (unpack32_ok c.rb c.ro c.b c.bo c.L c.C c.B 13 m 1024 o2 n pr c.D _ Hr.out.drew HG.out.rs.env.data.drew hn1 hn32 hqL hL hC HG.out.rs.env.br HG.out.rs.env.bB HG.out.rs.env.rB hm1 (by omega) (fun j hj => HB.out.up j (by omega)) (fun j hj => HB.out.fr _ (by omega))).mono ?_
            rintro e w3 ⟨rfl, h1, ⟨pr3, h2⟩, h3⟩
            obtain ⟨N, hN⟩ : ∃ N, N = m / 32 * 32 := ⟨_, rfl⟩
            rw [show 32 * (m / 32) = N by omega] at h1 h3
            rw [← hN]
            have hNm : N ≤ m := by omega
            have hN32 : N < 32 → m < 32 := by omega
            have h1' := h1.undrew
            have hB3 : BR w3 c.B c.rb c.ro o2 0 buf vb := HB.out.keep5 h1' (by rintro x hx (hh | hh) <;> have := HG.out.rs.env.rB <;> omega) (by
              rintro j hj (hh | hh)
              · exact absurd hh.1 (fun e => HG.out.rs.env.rB e.symm)
              · have e1 : 5 + j = 13 + (j - 8) := by omega
                rw [e1]
                exact ⟨_, h3 (j - 8) (by omega)⟩)
            have hG3 : GB c ob oo len n p w w3 k2 o2 0 := by
              have hno : ∀ x, ¬ ((ob = c.rb ∧ c.ro ≤ x ∧ x < c.ro + 3) ∨ (ob = c.B ∧ 13 ≤ x ∧ x < 13 + N)) := by
                rintro x (hh | hh)
                · exact HG.out.dst.nr hh.1
                · exact HG.out.dst.nB hh.1
              refine ⟨HG.out.chg.comp h1' (fun _ _ _ h => h) (by rintro a x ha (hh | hh); exact .inr (.inl hh); exact .inl hh.1), fun j hj => h1'.keep (HG.out.out j hj) (hno _), HG.out.dst.keep h1' (fun j _ => hno _), ⟨?_, by omega, buf, vb, hB3, fun h => by omega⟩, HG.out.pos⟩
              refine HG.out.rs.env.keepR h1' ?_ ⟨_, _, h2⟩
              rintro a x (hh | hh)
              · rw [hh.1]; exact ⟨fun e => HG.out.rs.env.br e.symm, HG.out.rs.env.gr⟩
              · rw [hh.1]; exact ⟨fun e => HG.out.rs.env.bB e.symm, HG.out.rs.env.gB⟩
            have hu3 : ∀ j, j < N → w3.cell? ⟨c.B, 13 + j, none⟩ = some (.int .u32 (bitsV c.D (p + (k2 + j) * n) n)) := by
              intro j hj
              have e1 : (k2 + j) * n = k2 * n + j * n := Nat.add_mul _ _ _
              have e2 : 8 * o2 + j * n = p + (k2 + j) * n := by have := HG.out.pos; omega
              have := h3 j hj
              rwa [e2] at this
            have HG3 := Lib.hid hG3; clear hG3
            have HB3 := Lib.hid hB3; clear hB3
            have Hu3 := Lib.hid hu3; clear hu3
            have Hr3 := Lib.hid h2; clear h2
            have HN := Lib.hid hN; clear hN
            clear h1 h1' h3 c0 HB HG Hr
            (refine hK _ _ ?_; clear hK K)
            repeat (first | (refine wpTxt_pure rfl rfl (fun K hK => ?_); go_simp; refine hK _ ?_; clear hK K) | (refine wpTxt_still rfl rfl (fun K hK => ?_); go_simp; refine hK _ ?_; clear hK K))
            refine wpTxt_nil ?_
            go_wp2_with fail
            go_loopw [17] (fun i wx => ∃ j, j ≤ N ∧ i = .int .i64 j ∧ Chg (fun a x => a = ob ∧ oo + k2 ≤ x ∧ x < oo + k2 + N) w3 wx ∧ Dst c wx ob oo len ∧ ∀ i, i < j → wx.cell? ⟨ob, oo + (k2 + i), none⟩ = some (.int .u64 (bitsV c.D (p + (k2 + i) * n) n))) (fun i _ => N - (intOf i).toNat)
            case atStart => exact ⟨0, Nat.zero_le _, rfl, Chg.refl _ _, HG3.out.dst, fun i hi => by omega⟩
            case round =>
              obtain ⟨j, hj, rfl, hc4, hd4, ho4⟩ := hrel
              by_cases hjN : j < N
              · have hcell := hc4.keep (Hu3.out j hjN) (fun hh => hd4.nB hh.1.symm)
                obtain ⟨u, hu⟩ := hd4.oth (k2 + j) (by omega)
                have hfz := hd4.ofr (k2 + j) (by omega)
                obtain ⟨V, hV⟩ : ∃ V, V = bitsV c.D (p + (k2 + j) * n) n := ⟨_, rfl⟩
                have hVlt : (V : Int) < 4294967296 := by
                  have := bitsV_lt c.D n (p + (k2 + j) * n)
                  have h5 : (2 : Nat) ^ n ≤ 2 ^ 32 := Nat.pow_le_pow_right (by decide) hn32
                  omega
                rw [← hV] at hcell
                have HV := Lib.hid hV; clear hV
                have Hc4 := Lib.hid hc4; clear hc4
                have Hd4 := Lib.hid hd4; clear hd4
                have Ho4 := Lib.hid ho4; clear ho4
                have hkj : ((k2 : Int) + j).toNat = k2 + j := by omega
                go_wp2_with fail
                go_roundw
                case rel =>
                  refine ⟨j + 1, by omega, rfl, Hc4.out.setCell _ _ (fun _ => ⟨rfl, by omega, by omega⟩) _, Hd4.out.put _ _, ?_⟩
                  intro i hi
                  by_cases hij : i = j
                  · subst hij
                    rw [← HV.out]
                    exact World.cell?_setCell_same _ _ _ hu
                  · exact cell_ne _ (Ho4.out i (by omega)) (by omega)
                case measure => simp [intOf]; omega
              · have hje : j = N := by omega
                subst hje
                obtain ⟨Q, hQ⟩ : ∃ Q, Q = j * n := ⟨_, rfl⟩
                obtain ⟨o3, ho3⟩ : ∃ o3, o3 = o2 + m / 32 * (4 * n) := ⟨_, rfl⟩
                have hQ1 : Q ≤ 1024 * 32 := by rw [hQ]; exact Nat.mul_le_mul (by omega) hn32
                have hQi : (j : Int) * n = Q := by rw [hQ]; norm_cast
                have hQ8 : Q / 8 = m / 32 * (4 * n) := by
                  have e2 : 8 * (m / 32 * (4 * n)) = m / 32 * 32 * n := by rw [Nat.mul_left_comm, ← Nat.mul_assoc 8 4 n, ← Nat.mul_assoc]
                  rw [← HN.out] at e2
                  omega
                have hq3 : (o2 : Int) + Q / 8 = o3 := by omega
                have ho3L : o3 ≤ c.L := by omega
                have hB4 := HB3.out.keep hc4 (fun x hh => hd4.nB hh.1.symm)
                have c2 := hB4.bo
                have f2' := hB4.fr 2 (by omega)
                obtain ⟨k3, hk3⟩ : ∃ k3, k3 = k2 + j := ⟨_, rfl⟩
                have hk3i : (k2 : Int) + j = k3 := by omega
                have hG5 : GB c ob oo len n p w (wr.setCell ⟨c.B, 2, none⟩ (.int .i64 o3)) k3 o3 0 := by
                  have hc5 := (Chg.refl (Own c.B) wr).own 2 (.int .i64 o3)
                  have he4 : Env c wr := HG3.out.rs.env.keep hc4 (by rintro a x ⟨rfl, -⟩; exact ⟨hd4.nb, hd4.nr, hd4.g⟩)
                  refine ⟨(HG3.out.chg.comp hc4 (fun _ _ _ h => h) (by rintro a x ha ⟨rfl, h1, h2⟩; exact .inr (.inr ⟨rfl, by omega, by omega⟩))).comp hc5 (fun _ _ _ h => h) (fun _ _ _ h => .inl h), ?_, hd4.keep hc5 (fun j _ h => hd4.nB h), ⟨he4.keepB hc5 (fun _ _ h => h), by omega, buf, vb, hB4.off' o3, fun h => by omega⟩, ?_⟩
                  · intro i hi
                    refine hc5.keep ?_ (fun h => hd4.nB h)
                    by_cases hik : i < k2
                    · exact hc4.keep (HG3.out.out i hik) (by rintro ⟨-, h, -⟩; omega)
                    · have := ho4 (i - k2) (by omega)
                      rwa [show k2 + (i - k2) = i by omega] at this
                  · have := Hq.out
                    rw [← HN.out, ← ho3, ← hk3] at this
                    omega
                have hR5 : Rdr (wr.setCell ⟨c.B, 2, none⟩ (.int .i64 o3)) c.rb c.ro c.b c.bo c.L c.C o3 pr3 := by
                  have hc5 := (Chg.refl (Own c.B) wr).own 2 (.int .i64 o3)
                  have := Hr3.out.keep hc4 (fun j _ hh => hd4.nr hh.1.symm)
                  rw [← ho3] at this
                  exact this.keep hc5 (fun j _ hh => HG3.out.rs.env.rB hh)
                have HG5 := Lib.hid hG5; clear hG5
                have HR5 := Lib.hid hR5; clear hR5
                have hk3l : k3 ≤ len := by omega
                have HQ8 := Lib.hid hQ8; clear hQ8
                have Hk3 := Lib.hid hk3; clear hk3
                have Ho3 := Lib.hid ho3; clear ho3
                have HQ := Lib.hid hQ; clear hQ
                clear ho4 hc4 hB4
                by_cases hj0 : j = 0
                · have hj0' : (j : Int) = 0 := by omega
                  go_wp2_with fail
                  go_meet
                  have e3 : k3 = k2 := by have := Hk3.out; omega
                  have e4 : o3 = o2 := by
                    have := HQ.out
                    rw [hj0, Nat.zero_mul] at this
                    have := HQ8.out
                    have := Ho3.out
                    omega
                  have h5 := HG5.out
                  rw [e3, e4] at h5
                  exact ⟨k2, o2, 0, hk2, rfl, h5⟩
                · have hj0' : ¬ (j : Int) = 0 := by omega
                  go_wp2_with fail
                  go_roundw
                  case rel => exact ⟨k3, o3, 0, pr3, hk3l, rfl, HG5.out, fun _ => rfl, HR5.out⟩
                  case measure => simp [intOf]; have := Hk3.out; omega
          · go_wp2_with fail
            go_meet
            exact ⟨k2, o2, f2, hk2, rfl, HG.out⟩
      · go_wp2_with fail
        go_meet
        exact ⟨k, o1, f1, hk, rfl, HG.out⟩
    case rest =>
      clear hk hkf HG hpp
      obtain ⟨k2, o2, f2, hk2, rfl, hG⟩ := hcut
      obtain ⟨buf, vb, hb, -⟩ := hG.rs.br
      have hcall := fill_ok c o2 f2 buf vb wc hG.rs.env hb hG.rs.hf
      have Hcall := Lib.hid hcall
      have HG := Lib.hid hG
      clear hcall hG hb
      go_wp2_with fail
      refine Hcall.out.mono ?_
      rintro e w1 ⟨rfl, h1, h2⟩
      have hG1 : GB c ob oo len n p w w1 k2 o2 f2 := ⟨HG.out.chg.comp h1 (fun _ _ _ h => h) (fun _ _ _ h => .inl h), fun j hj => h1.keep (HG.out.out j hj) (fun h => HG.out.dst.nB h), HG.out.dst.keep h1 (fun j hj h => HG.out.dst.nB h), h2.rs, HG.out.pos⟩
      have HG1 := Lib.hid hG1; clear hG1
      have H2 := Lib.hid h2; clear h2
      clear h1 HG Hcall
      go_wp2_with fail
      go_loopw [9] (fun i wx => ∃ k o1 f1, k ≤ len ∧ i = .int .i64 k ∧ GB c ob oo len n p w wx k o1 f1 ∧ NS c wx o1 f1) (fun i _ => len - (intOf i).toNat)
      case atStart => exact ⟨k2, o2, f2, hk2, rfl, HG1.out, H2.out⟩
      case round =>
        obtain ⟨k, o1, f1, hk, rfl, hG, hN⟩ := hrel
        have HG := Lib.hid hG; clear hG
        have HN := Lib.hid hN; clear hN
        by_cases hlt : k < len
        · have hcall := next_ok c o1 f1 n wr HN.out hn (by rw [HG.out.pos]; exact Hpk.out k hlt)
          have Hcall := Lib.hid hcall; clear hcall
          go_wp2_with fail
          refine Hcall.out.mono ?_
          rintro e w1 ⟨rfl, h1, o2, f2, h2, -, h3⟩
          have hG2 := HG.out.step hlt h1 h3.rs h2
          have hdd := HG.out.dst.keep h1 (fun j hj hh => HG.out.dst.nB hh)
          obtain ⟨u, hu⟩ := hdd.oth k hlt
          have hfz := hdd.ofr k hlt
          have hN2 := h3.keep ((Chg.refl (Own ob) w1).own (oo + k) (.int .u64 (bitsV c.D (8 * o1 + f1) n))) (by rintro a x rfl; exact ⟨hdd.nb, hdd.nr, hdd.nB, hdd.g⟩)
          have HG2 := Lib.hid hG2; clear hG2
          have HN2 := Lib.hid hN2; clear hN2
          clear h1 h2 h3 hdd
          go_wp2_with fail
          go_roundw
          case rel => exact ⟨k + 1, o2, f2, by omega, by go_num, HG2.out, HN2.out⟩
          case measure => simp [intOf]; omega
        · have hke : k = len := by omega
          subst hke
          go_wp2_with fail
          go_ret2
          exact ⟨rfl, HG.out.chg, HG.out.out, o1, f1, HG.out.pos, HN.out⟩
end Go.Proofs.YtflgbndhahcdnaaGreatDoor
/- The reader of runs: its cells; the next run. -/
namespace Go.Proofs.YtflgbndhahcdnaaGreatDoor
open Go Go.RowKit
/-- A reader of runs, a block of its own. -/
structure RD (c : RC) (W R rep lit cur o f : Nat) (w : World) : Prop where
  rs : RS c w o f
  p : w.cell? ⟨R, 0, none⟩ = some (.pointer (some ⟨c.B, 0, none⟩))
  wi : w.cell? ⟨R, 1, none⟩ = some (.int .i64 W)
  cu : w.cell? ⟨R, 2, none⟩ = some (.int .u64 cur)
  re : w.cell? ⟨R, 3, none⟩ = some (.int .i32 rep)
  li : w.cell? ⟨R, 4, none⟩ = some (.int .i32 lit)
  fr : ∀ j, j < 5 → w.frozen? ⟨R, j, none⟩ = false
  nB : R ≠ c.B
  nr : R ≠ c.rb
  nb : R ≠ c.b
  g : 5 < R
theorem RS.drew' {c : RC} {w : World} {o f : Nat} (h : RS c w o f) : RS c w.drew o f := h.keep (Chg.drew (Chg.refl Nix w)) (fun _ _ h => h.elim)
/-- What may turn at the next run. -/
def OwnR (c : RC) (R : Nat) : Nat → Nat → Prop := fun k _ => k = c.B ∨ k = R
theorem RD.lt {c : RC} {W R rep lit cur o f : Nat} {w : World} (h : RD c W R rep lit cur o f w) : R < w.heap.size := World.block_lt_of_cell? w _ h.p
theorem RD.keep {c : RC} {W R rep lit cur o f : Nat} {w w' : World} (h : RD c W R rep lit cur o f w) {S : Nat → Nat → Prop} (hc : Chg S w w') (hS : ∀ k x, S k x → k ≠ c.b ∧ k ≠ c.rb ∧ k ≠ c.B ∧ k ≠ R ∧ 5 < k) : RD c W R rep lit cur o f w' :=
  ⟨h.rs.keep hc (fun k x hh => ⟨(hS k x hh).1, (hS k x hh).2.1, (hS k x hh).2.2.1, (hS k x hh).2.2.2.2⟩), hc.keep h.p (fun hh => (hS _ _ hh).2.2.2.1 rfl), hc.keep h.wi (fun hh => (hS _ _ hh).2.2.2.1 rfl), hc.keep h.cu (fun hh => (hS _ _ hh).2.2.2.1 rfl), hc.keep h.re (fun hh => (hS _ _ hh).2.2.2.1 rfl), hc.keep h.li (fun hh => (hS _ _ hh).2.2.2.1 rfl), fun j hj => (hc.frozen _ _ h.lt).trans (h.fr j hj), h.nB, h.nr, h.nb, h.g⟩
/-- The reader of bits has been read from. -/
theorem RD.read {c : RC} {W R rep lit cur o f o' f' : Nat} {w w' : World} (h : RD c W R rep lit cur o f w) {S : Nat → Nat → Prop} (hc : Chg S w w') (hS : ∀ x, ¬ S R x) (hr : RS c w' o' f') : RD c W R rep lit cur o' f' w' :=
  ⟨hr, hc.keep h.p (hS _), hc.keep h.wi (hS _), hc.keep h.cu (hS _), hc.keep h.re (hS _), hc.keep h.li (hS _), fun j hj => (hc.frozen _ _ h.lt).trans (h.fr j hj), h.nB, h.nr, h.nb, h.g⟩
theorem RD.drew {c : RC} {W R rep lit cur o f : Nat} {w : World} (h : RD c W R rep lit cur o f w) : RD c W R rep lit cur o f w.drew := h.keep (Chg.drew (Chg.refl Nix w)) (fun _ _ h => h.elim)
theorem RD.alloc {c : RC} {W R rep lit cur o f : Nat} {w : World} (h : RD c W R rep lit cur o f w) (x : Obj) : RD c W R rep lit cur o f (w.alloc x) := h.keep (Chg.new w x) (fun _ _ h => h.elim)
theorem RD.rsR {c : RC} {W R rep lit cur o f : Nat} {w : World} (h : RD c W R rep lit cur o f w) (x : Nat) (v : Value) : RS c (w.setCell ⟨R, x, none⟩ v) o f :=
  h.rs.keep ((Chg.refl (Own R) w).own x v) (by rintro a y rfl; exact ⟨h.nb, h.nr, h.nB, h.g⟩)
theorem RD.cur' {c : RC} {W R rep lit cur o f : Nat} {w : World} (h : RD c W R rep lit cur o f w) (v : Nat) : RD c W R rep lit v o f (w.setCell ⟨R, 2, none⟩ (.int .u64 v)) :=
  ⟨h.rsR _ _, cell_ne _ h.p (by omega), cell_ne _ h.wi (by omega), World.cell?_setCell_same _ _ _ h.cu, cell_ne _ h.re (by omega), cell_ne _ h.li (by omega), fun j hj => by rw [World.frozen?_setCell]; exact h.fr j hj, h.nB, h.nr, h.nb, h.g⟩
theorem RD.rep' {c : RC} {W R rep lit cur o f : Nat} {w : World} (h : RD c W R rep lit cur o f w) (v : Nat) : RD c W R v lit cur o f (w.setCell ⟨R, 3, none⟩ (.int .i32 v)) :=
  ⟨h.rsR _ _, cell_ne _ h.p (by omega), cell_ne _ h.wi (by omega), cell_ne _ h.cu (by omega), World.cell?_setCell_same _ _ _ h.re, cell_ne _ h.li (by omega), fun j hj => by rw [World.frozen?_setCell]; exact h.fr j hj, h.nB, h.nr, h.nb, h.g⟩
theorem RD.lit' {c : RC} {W R rep lit cur o f : Nat} {w : World} (h : RD c W R rep lit cur o f w) (v : Nat) : RD c W R rep v cur o f (w.setCell ⟨R, 4, none⟩ (.int .i32 v)) :=
  ⟨h.rsR _ _, cell_ne _ h.p (by omega), cell_ne _ h.wi (by omega), cell_ne _ h.cu (by omega), cell_ne _ h.re (by omega), World.cell?_setCell_same _ _ _ h.li, fun j hj => by rw [World.frozen?_setCell]; exact h.fr j hj, h.nB, h.nr, h.nb, h.g⟩
theorem Chg.ownR {c : RC} {R : Nat} {a w : World} (h : Chg (OwnR c R) a w) (i : Nat) (v : Value) : Chg (OwnR c R) a (w.setCell ⟨R, i, none⟩ v) := h.setCell R i (fun _ => .inr rfl) v
/-- Behind the head of a run: a number of bytes is read into the reader's own cell. -/
def NextEnd (c : RC) (W R : Nat) (vs : List Nat) (w : World) (e : Ending) (w' : World) : Prop :=
  e = .returned (.bool true) ∧ Chg (OwnR c R) w w' ∧ ∃ rep lit cur o f, RD c W R rep lit cur o f w' ∧ Pos c.D c.L W rep lit cur o f vs ∧ (1 ≤ rep ∨ 1 ≤ lit)
theorem and1_odd (n : Nat) (hn : 2 * n + 1 < 2 ^ 64) : bits .and .u64 ((2 * n + 1 : Nat) : Int) 1 = 1 := by
  rw [Lib.u64_and1 _ (by omega) (by omega)]; omega
theorem and1_even (n : Nat) (hn : 2 * n < 2 ^ 64) : bits .and .u64 ((2 * n : Nat) : Int) 1 = 0 := by
  rw [Lib.u64_and1 _ (by omega) (by omega)]; omega
set_option maxRecDepth 100000 in
set_option maxHeartbeats 1000000 in
theorem rleNext_lit (c : RC) (W R cur o f k n : Nat) (us : List Nat) (w : World) (h : RD c W R 0 0 cur o f w) (hk : Leb c.D (o + (f + 7) / 8) k (2 * n + 1)) (h1 : 1 ≤ n) (h2 : n ≤ 268435455) (hL : o + (f + 7) / 8 + k + n * W ≤ c.L) (hr : Runs c.D c.L W (o + (f + 7) / 8 + k + n * W) us) :
    Calls Tryz.prog 46 #[.pointer (some ⟨R, 0, none⟩)] w (NextEnd c W R (bitsL c.D (8 * (o + (f + 7) / 8 + k)) W (8 * n) ++ us) w) := by
  obtain ⟨q, hq⟩ : ∃ q, q = o + (f + 7) / 8 + k := ⟨_, rfl⟩
  have hcall := getVlq_ok c o f k (2 * n + 1) w h.rs hk (by omega)
  rw [← hq] at hcall hL hr ⊢
  have Hcall := Lib.hid hcall; clear hcall
  have HR := Lib.hid hr; clear hr
  have hp := h.p
  have H := Lib.hid h; clear h
  have ha := and1_odd n (by omega)
  clear hk hq
  obtain ⟨m, hm⟩ : ∃ m, m = 2 * n + 1 := ⟨_, rfl⟩
  rw [← hm] at Hcall ha
  have hm1 : (m : Int) / 2 = n := by omega
  have Hm := Lib.hid hm; clear hm
  have g1 : 1 ≤ (n : Int) := by omega
  have g2 : (n : Int) ≤ 268435455 := by omega
  have g3 : ((n : Int) == 0) = false := by simp; omega
  have g4 : decide ((268435455 : Int) < n) = false := by simp; omega
  have H1 := Lib.hid h1; clear h1
  have H2 := Lib.hid h2; clear h2
  go_enter Tryz.func46, Tryz.ntmps46
  go_wp2_with fail
  refine Hcall.out.mono ?_
  rintro e w1 ⟨rfl, hc1, hn1⟩
  have hR1 := H.out.read hc1 (fun x hx => H.out.nB hx) hn1.rs
  have c4 := hR1.li
  have f4 := hR1.fr 4 (by omega)
  have HR1 := Lib.hid hR1; clear hR1
  have Hc1 := Lib.hid hc1; clear hc1
  clear hn1
  go_wp2_with fail
  go_ret
  rw [show (n : Int) * 8 = (8 * n : Nat) by omega]
  refine ⟨rfl, (Hc1.out.mono (fun _ _ _ h => .inl h)).ownR _ _, 0, 8 * n, cur, q, 0, HR1.out.lit' (8 * n), ?_, .inr (by have := H1.out; omega)⟩
  exact .lit (8 * n) cur q 0 (q + n * W) us (by have := H1.out; omega) (by have := H2.out; omega) (by rw [Nat.mul_assoc]; omega) hL HR.out
/-- The rest of a run of one number: its value's bytes follow at q. -/
structure RepAt (c : RC) (W R cur n q : Nat) (us : List Nat) (w w1 : World) : Prop where
  rd : RD c W R n 0 cur q 0 w1
  chg : Chg (OwnR c R) w w1
  n1 : 1 ≤ n
  n2 : n ≤ 2147483647
  hL : q + (W + 7) / 8 ≤ c.L
  runs : Runs c.D c.L W (q + (W + 7) / 8) us
theorem RepAt.fin {c : RC} {W R cur n q : Nat} {us : List Nat} {w w1 w2 : World} (h : RepAt c W R cur n q us w w1) (hc : Chg (OwnR c R) w1 w2) (hr : RD c W R n 0 (leV c.D q ((W + 7) / 8)) (q + (W + 7) / 8) 0 w2) : NextEnd c W R (List.replicate n (leV c.D q ((W + 7) / 8)) ++ us) w (.returned (.bool true)) w2 :=
  ⟨rfl, h.chg.trans hc, n, 0, _, _, 0, hr, .rep n _ _ 0 us h.n1 h.n2 h.runs, .inl h.n1⟩
theorem RepAt.loc {c : RC} {W R cur n q q2 : Nat} {us : List Nat} {w w2 w3 : World} {X : Obj} (h : RepAt c W R cur n q us w w2) (h3 : Chg (OwnT c.B w2.heap.size 0) (w2.alloc X) w3) (hn : NS c w3 q2 0) : RD c W R n 0 cur q2 0 w3 ∧ Chg (OwnR c R) w2 w3 := by
  have hl := h.rd.lt
  refine ⟨(h.rd.alloc X).read h3 (by rintro x (hh | hh); exact h.rd.nB hh; omega) hn.rs, h3.unalloc (by rintro k x hk (hh | hh); exact .inl hh; omega)⟩
set_option maxRecDepth 100000 in
set_option maxHeartbeats 1000000 in
theorem rleNext_rep (c : RC) (W R cur o f k n : Nat) (us : List Nat) (w : World) (h : RD c W R 0 0 cur o f w) (hW1 : 1 ≤ W) (hW2 : W ≤ 64) (hk : Leb c.D (o + (f + 7) / 8) k (2 * n)) (h1 : 1 ≤ n) (h2 : n ≤ 2147483647) (hL : o + (f + 7) / 8 + k + (W + 7) / 8 ≤ c.L) (hr : Runs c.D c.L W (o + (f + 7) / 8 + k + (W + 7) / 8) us) :
    Calls Tryz.prog 46 #[.pointer (some ⟨R, 0, none⟩)] w (NextEnd c W R (List.replicate n (leV c.D (o + (f + 7) / 8 + k) ((W + 7) / 8)) ++ us) w) := by
  obtain ⟨q, hq⟩ : ∃ q, q = o + (f + 7) / 8 + k := ⟨_, rfl⟩
  have hcall := getVlq_ok c o f k (2 * n) w h.rs hk (by omega)
  rw [← hq] at hcall hL hr ⊢
  have Hcall := Lib.hid hcall; clear hcall
  have hp := h.p
  have H := Lib.hid h; clear h
  have ha := and1_even n (by omega)
  clear hk hq
  obtain ⟨m, hm⟩ : ∃ m, m = 2 * n := ⟨_, rfl⟩
  rw [← hm] at Hcall ha
  have hm1 : (m : Int) / 2 = n := by omega
  have Hm := Lib.hid hm; clear hm
  have g1 : 1 ≤ (n : Int) := by omega
  have g2 : (n : Int) ≤ 2147483647 := by omega
  have g3 : ((n : Int) == 0) = false := by simp; omega
  have g4 : decide ((2147483647 : Int) < n) = false := by simp; omega
  have hbc := fun X => bytesFor_ok W X (by omega)
  obtain ⟨nb, hnb⟩ : ∃ nb, nb = (W + 7) / 8 := ⟨_, rfl⟩
  have hb1 : 1 ≤ nb := by omega
  have hb8 : nb ≤ 8 := by omega
  rw [← hnb] at hbc
  have Hbc := Lib.hid hbc; clear hbc
  have Hnb := Lib.hid hnb; clear hnb
  have HW1 := Lib.hid hW1; clear hW1
  have HL := Lib.hid hL; clear hL
  have HR := Lib.hid hr; clear hr
  have H1 := Lib.hid h1; clear h1
  have H2 := Lib.hid h2; clear h2
  have hwW : IntKind.i64.wrap (W : Int) = W := IntWalk.i64_in _ (by omega)
  go_enter Tryz.func46, Tryz.ntmps46
  go_wp2_with fail
  refine Hcall.out.mono ?_
  rintro e w1 ⟨rfl, hc1, hn1⟩
  have hR1 := H.out.read hc1 (fun x hx => H.out.nB hx) hn1.rs
  have c3 := hR1.re
  have f3 := hR1.fr 3 (by omega)
  have cW := hR1.wi
  have hA : RepAt c W R cur n q us w (w1.setCell ⟨R, 3, none⟩ (.int .i32 n)) := ⟨hR1.rep' n, (hc1.mono (fun _ _ _ h => .inl h)).ownR _ _, H1.out, H2.out, HL.out, HR.out⟩
  have HA := Lib.hid hA; clear hA
  clear hc1 hn1 hR1
  go_wp2_with fail
  refine (Hbc.out _).mono ?_
  rintro e w2 ⟨rfl, rfl⟩
  generalize w1.setCell ⟨R, 3, none⟩ (.int .i32 n) = w2 at HA ⊢
  clear c3 f3 cW hp Hcall
  have cp := HA.out.rd.p
  have cc := HA.out.rd.cu
  have fc := HA.out.rd.fr 2 (by omega)
  by_cases n4 : 4 < nb
  · have n4' : (4 : Int) < nb := by omega
    have hcall := aligned64_ok c q 0 R 2 nb (.int .u64 cur) w2.drew HA.out.rd.rs.drew' hb1 hb8 (by have := HA.out.hL; have := Hnb.out; omega) (by exact cc) (by exact fc) HA.out.rd.nB HA.out.rd.nr HA.out.rd.nb HA.out.rd.g
    have Hcall := Lib.hid hcall; clear hcall
    go_wp2_with fail
    (refine wp_region_txt [] (by kernel_rfl) (by kernel_rfl) ?_; repeat (first | (refine wpTxt_pure rfl rfl (fun K hK => ?_); go_simp; refine hK _ ?_; clear hK K) | (refine wpTxt_still rfl rfl (fun K hK => ?_); go_simp; refine hK _ ?_; clear hK K)))
    refine wpTxt_effect rfl rfl (fun K hK => ?_); go_simp
    refine Hcall.out.mono ?_
    rintro e w3 ⟨rfl, h3, hv3, hn3⟩
    have h3' := h3.undrew
    have hR3 : RD c W R n 0 (leV c.D q nb) (q + nb) 0 w3 := by
      have hS : ∀ x, x ≠ 2 → ¬ OwnT c.B R 2 R x := by rintro x hx (h | h); exact HA.out.rd.nB h; exact hx h.2
      have hd := HA.out.rd
      exact ⟨hn3.rs, h3'.keep hd.p (hS _ (by omega)), h3'.keep hd.wi (hS _ (by omega)), hv3, h3'.keep hd.re (hS _ (by omega)), h3'.keep hd.li (hS _ (by omega)), fun j hj => (h3'.frozen _ _ hd.lt).trans (hd.fr j hj), hd.nB, hd.nr, hd.nb, hd.g⟩
    have hfin := HA.out.fin (w2 := w3) (h3'.mono (by rintro k x _ (h | h); exact .inl h; exact .inr h.1)) (by rw [← Hnb.out]; exact hR3)
    have Hf := Lib.hid hfin
    clear h3 h3' hv3 hn3 hR3 hfin
    (refine hK _ _ ?_; clear hK K)
    repeat (first | (refine wpTxt_pure rfl rfl (fun K hK => ?_); go_simp; refine hK _ ?_; clear hK K) | (refine wpTxt_still rfl rfl (fun K hK => ?_); go_simp; refine hK _ ?_; clear hK K))
    refine wpTxt_nil ?_
    go_wp2_with fail
    go_ret
    exact Hf.out
  · have n4' : ¬ (4 : Int) < nb := by omega
    by_cases n2 : 2 < nb
    · have n2' : (2 : Int) < nb := by omega
      have hl := HA.out.rd.lt
      have hlB := HA.out.rd.rs.lt
      have hlr := HA.out.rd.rs.rlt
      have hlb := HA.out.rd.rs.blt (by have := HA.out.hL; have := Hnb.out; omega)
      have hg := HA.out.rd.g
      have hcall := aligned32_ok c q 0 w2.heap.size 0 nb (.int .u32 0) _ (HA.out.rd.rs.alloc (.cells #[.int .u32 0] 66)) hb1 (by omega) (by have := HA.out.hL; have := Hnb.out; omega) (by simp) (by simp) (by omega) (by omega) (by omega) (by omega)
      rw [show q + (0 + 7) / 8 = q by omega] at hcall
      have Hcall := Lib.hid hcall; clear hcall
      clear hlB hlr hlb hg
      go_wp2_with fail
      refine Hcall.out.mono ?_
      rintro e w3 ⟨rfl, h3, hv3, hn3⟩
      obtain ⟨hR3, hc3⟩ := HA.out.loc h3 hn3
      have c2 := hR3.cu
      have f2 := hR3.fr 2 (by omega)
      have cp3 := hR3.p
      have hV : leV c.D q nb < 18446744073709551616 := by
        have := leV_lt c.D HA.out.rd.rs.env.data.lt q nb
        have h5 : (2 : Nat) ^ (8 * nb) ≤ 2 ^ 64 := Nat.pow_le_pow_right (by decide) (by omega)
        omega
      have hwu : IntKind.u64.wrap ((leV c.D q nb : Nat) : Int) = (leV c.D q nb : Nat) := wrap64 _ (by omega) (by exact_mod_cast hV)
      clear hV
      have hfin := HA.out.fin (w2 := w3.setCell ⟨R, 2, none⟩ (.int .u64 (leV c.D q nb : Nat))) (hc3.ownR _ _) (by rw [← Hnb.out]; exact hR3.cur' _)
      rw [← Hnb.out] at hfin
      obtain ⟨V, hVe⟩ : ∃ V, V = leV c.D q nb := ⟨_, rfl⟩
      rw [← hVe] at hv3 hwu hfin
      have Hf := Lib.hid hfin
      have HV := Lib.hid hVe
      clear h3 hn3 hR3 hc3 hfin hVe
      go_wp2_with fail
      go_ret
      rw [← Hnb.out, ← HV.out]
      exact Hf.out
    · have n2' : ¬ (2 : Int) < nb := by omega
      by_cases n1 : 1 < nb
      · have n1' : (1 : Int) < nb := by omega
        have hl := HA.out.rd.lt
        have hlB := HA.out.rd.rs.lt
        have hlr := HA.out.rd.rs.rlt
        have hlb := HA.out.rd.rs.blt (by have := HA.out.hL; have := Hnb.out; omega)
        have hg := HA.out.rd.g
        have hcall := aligned16_ok c q 0 w2.heap.size 0 nb (.int .u16 0) _ (HA.out.rd.rs.alloc (.cells #[.int .u16 0] 120)) hb1 (by omega) (by have := HA.out.hL; have := Hnb.out; omega) (by simp) (by simp) (by omega) (by omega) (by omega) (by omega)
        rw [show q + (0 + 7) / 8 = q by omega] at hcall
        have Hcall := Lib.hid hcall; clear hcall
        clear hlB hlr hlb hg
        go_wp2_with fail
        refine Hcall.out.mono ?_
        rintro e w3 ⟨rfl, h3, hv3, hn3⟩
        obtain ⟨hR3, hc3⟩ := HA.out.loc h3 hn3
        have c2 := hR3.cu
        have f2 := hR3.fr 2 (by omega)
        have cp3 := hR3.p
        have hV : leV c.D q nb < 18446744073709551616 := by
          have := leV_lt c.D HA.out.rd.rs.env.data.lt q nb
          have h5 : (2 : Nat) ^ (8 * nb) ≤ 2 ^ 64 := Nat.pow_le_pow_right (by decide) (by omega)
          omega
        have hwu : IntKind.u64.wrap ((leV c.D q nb : Nat) : Int) = (leV c.D q nb : Nat) := wrap64 _ (by omega) (by exact_mod_cast hV)
        clear hV
        have hfin := HA.out.fin (w2 := w3.setCell ⟨R, 2, none⟩ (.int .u64 (leV c.D q nb : Nat))) (hc3.ownR _ _) (by rw [← Hnb.out]; exact hR3.cur' _)
        rw [← Hnb.out] at hfin
        obtain ⟨V, hVe⟩ : ∃ V, V = leV c.D q nb := ⟨_, rfl⟩
        rw [← hVe] at hv3 hwu hfin
        have Hf := Lib.hid hfin
        have HV := Lib.hid hVe
        clear h3 hn3 hR3 hc3 hfin hVe
        go_wp2_with fail
        go_ret
        rw [← Hnb.out, ← HV.out]
        exact Hf.out
      · have n1' : ¬ (1 : Int) < nb := by omega
        have hl := HA.out.rd.lt
        have hlB := HA.out.rd.rs.lt
        have hlr := HA.out.rd.rs.rlt
        have hlb := HA.out.rd.rs.blt (by have := HA.out.hL; have := Hnb.out; omega)
        have hg := HA.out.rd.g
        have e1 : nb = 1 := by omega
        have e1' : (nb : Int) = 1 := by omega
        have hcall := aligned8_ok c q 0 w2.heap.size 0 (.int .u8 0) _ (HA.out.rd.rs.alloc (.cells #[.int .u8 0] 5)) (by have := HA.out.hL; have := Hnb.out; omega) (by simp) (by simp) (by omega) (by omega) (by omega) (by omega)
        rw [show q + (0 + 7) / 8 = q by omega] at hcall
        have Hcall := Lib.hid hcall; clear hcall
        have He1 := Lib.hid e1; clear e1
        have He1' := Lib.hid e1'; clear e1'
        clear hlB hlr hlb hg
        go_wp2_with fail
        rw [He1'.out]
        refine Hcall.out.mono ?_
        rintro e w3 ⟨rfl, h3, hv3, hn3⟩
        have eV : c.D q = leV c.D q nb := by
          rw [He1.out]; simp [leV]
        have e0 : q + 1 = q + nb := by rw [He1.out]
        rw [eV] at hv3
        rw [e0] at hn3
        obtain ⟨hR3, hc3⟩ := HA.out.loc h3 hn3
        have c2 := hR3.cu
        have f2 := hR3.fr 2 (by omega)
        have cp3 := hR3.p
        have hV : leV c.D q nb < 18446744073709551616 := by
          have := leV_lt c.D HA.out.rd.rs.env.data.lt q nb
          have h5 : (2 : Nat) ^ (8 * nb) ≤ 2 ^ 64 := Nat.pow_le_pow_right (by decide) (by omega)
          omega
        have hwu : IntKind.u64.wrap ((leV c.D q nb : Nat) : Int) = (leV c.D q nb : Nat) := wrap64 _ (by omega) (by exact_mod_cast hV)
        clear hV
        have hfin := HA.out.fin (w2 := w3.setCell ⟨R, 2, none⟩ (.int .u64 (leV c.D q nb : Nat))) (hc3.ownR _ _) (by rw [← Hnb.out]; exact hR3.cur' _)
        rw [← Hnb.out] at hfin
        obtain ⟨V, hVe⟩ : ∃ V, V = leV c.D q nb := ⟨_, rfl⟩
        rw [← hVe] at hv3 hwu hfin
        have Hf := Lib.hid hfin
        have HV := Lib.hid hVe
        clear h3 hn3 hR3 hc3 hfin hVe eV e0
        go_wp2_with fail
        go_ret
        rw [← Hnb.out, ← HV.out]
        exact Hf.out
theorem rleNext_ok (c : RC) (W R cur o f : Nat) (vs : List Nat) (w : World) (h : RD c W R 0 0 cur o f w) (hW1 : 1 ≤ W) (hW2 : W ≤ 64) (hr : Runs c.D c.L W (o + (f + 7) / 8) vs) (hv : vs ≠ []) :
    Calls Tryz.prog 46 #[.pointer (some ⟨R, 0, none⟩)] w (NextEnd c W R vs w) := by
  generalize hq : o + (f + 7) / 8 = q at hr
  cases hr with
  | nil => exact absurd rfl hv
  | rep _ k n us hk h1 h2 hL hr =>
    subst hq
    exact rleNext_rep c W R cur o f k n us w h hW1 hW2 hk h1 h2 hL hr
  | lit _ k n us hk h1 h2 hL hr =>
    subst hq
    exact rleNext_lit c W R cur o f k n us w h hk h1 h2 hL hr
end Go.Proofs.YtflgbndhahcdnaaGreatDoor
