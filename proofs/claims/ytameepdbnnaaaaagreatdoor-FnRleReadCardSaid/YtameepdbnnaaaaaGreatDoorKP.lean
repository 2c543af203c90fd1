/- Part 16 of the proof: the texts X, Y, AO, joined. What each proves stands ahead of it. -/
import Derived.Test.YtameepdbnnaaaaaGreatDoorKK
import Derived.Test.YtameepdbnnaaaaaGreatDoorKO
import Derived.Test.YtameepdbnnaaaaaGreatDoorKA
import Derived.Laws.AppendOwn
import Derived.Laws.AppendOwnNone
set_option linter.unusedVariables false
set_option linter.unusedSimpArgs false
/- A batch of levels of n bits. -/
namespace Go.Proofs.YtameepdbnnaaaaaGreatDoor
open Go Go.RowKit
/-- Some number. -/
def Num (z : Value) : Prop := ∃ x : Int, z = .int .i64 x
theorem lev_lt (D : Nat → Nat) (n p : Nat) (hn : n ≤ 15) : bitsV D p n ≤ 32767 := by
  have := bitsV_lt D n p
  have h5 : (2 : Nat) ^ n ≤ 2 ^ 15 := Nat.pow_le_pow_right (by decide) hn
  omega
/-- len levels, so many of them the greatest one. -/
def LevEnd (len : Nat) (e : Ending) : Prop := ∃ x : Int, e = .returned (.tuple #[.int .i64 len, .int .i64 x, .nilIface])
/-- What is known behind k numbers. -/
structure GL (c : RC) (ob oo len n p : Nat) (w wr : World) (k o1 f1 : Nat) : Prop where
  chg : Chg (GT c ob oo len) w wr
  out : ∀ j, j < k → wr.cell? ⟨ob, oo + j, none⟩ = some (.int .i16 (bitsV c.D (p + j * n) n))
  dst : Dst c wr ob oo len
  rs : RS c wr o1 f1
  pos : 8 * o1 + f1 = p + k * n
/-- A store behind 'next'. -/
theorem GL.step {c : RC} {ob oo len n p k o1 f1 o2 f2 : Nat} {w wr w1 : World} (h : GL c ob oo len n p w wr k o1 f1) (hk : k < len) (hc : Chg (Own c.B) wr w1) (h2 : RS c w1 o2 f2) (hp : 8 * o2 + f2 = 8 * o1 + f1 + n) :
    GL c ob oo len n p w (w1.setCell ⟨ob, oo + k, none⟩ (.int .i16 (bitsV c.D (8 * o1 + f1) n))) (k + 1) o2 f2 := by
  have hd := h.dst.keep hc (fun j hj hh => h.dst.nB hh)
  refine ⟨(h.chg.comp hc (fun _ _ _ h => h) (fun _ _ _ h => .inl h)).setCell _ _ (fun _ => .inr (.inr ⟨rfl, by omega, by omega⟩)) _, ?_, hd.put _ _, ?_, ?_⟩
  · intro j hj
    by_cases hjk : j = k
    · subst hjk
      obtain ⟨u, hu⟩ := hd.oth j (by omega)
      rw [h.pos]
      exact World.cell?_setCell_same _ _ _ hu
    · exact cell_ne _ (hc.keep (h.out j (by omega)) (fun hh => h.dst.nB hh)) (by omega)
  · have hc1 := (Chg.refl (Own ob) w1).own (oo + k) (.int .i16 (bitsV c.D (8 * o1 + f1) n))
    exact h2.keep hc1 (by rintro a x rfl; exact ⟨hd.nb, hd.nr, hd.nB, hd.g⟩)
  · have e1 : (k + 1) * n = k * n + n := Nat.succ_mul k n
    have e2 := h.pos
    omega
set_option maxRecDepth 100000 in
set_option maxHeartbeats 1000000 in
theorem getLevels_ok (c : RC) (o f n ob oo len cap : Nat) (w : World) (h : RS c w o f) (hd : Dst c w ob oo len) (hn1 : 1 ≤ n) (hn : n ≤ 15) (hp : 8 * o + f + len * n ≤ 8 * c.L) (hlen : len ≤ cap) (hcap : cap ≤ 1000000000000000000) :
    Calls Tryz.prog 38 #[.pointer (some ⟨c.B, 0, none⟩), .int .u64 n, .slice (some ⟨ob, oo, none⟩) len cap, .int .i16 0] w fun e w' =>
      LevEnd len e ∧ Chg (GT c ob oo len) w w' ∧ (∀ j, j < len → w'.cell? ⟨ob, oo + j, none⟩ = some (.int .i16 (bitsV c.D (8 * o + f + j * n) n))) ∧ ∃ o' f', 8 * o' + f' = 8 * o + f + len * n ∧ NS c w' o' f' := by
  obtain ⟨p, hpp⟩ : ∃ p, p = 8 * o + f := ⟨_, rfl⟩
  rw [← hpp] at hp ⊢
  have h0 : GL c ob oo len n p w w 0 o f := ⟨Chg.refl _ _, fun j hj => by omega, hd, h, by omega⟩
  have hL := h.env.hL
  have hC := h.env.hC
  have hLb := h.env.hLb
  have hpk : ∀ k, k < len → p + k * n + n ≤ 8 * c.L := by
    intro k hk
    have : (k + 1) * n ≤ len * n := Nat.mul_le_mul_right _ hk
    rw [Nat.succ_mul] at this
    omega
  have H0 := Lib.hid h0; clear h0
  have Hpk := Lib.hid hpk; clear hpk
  have Hp := Lib.hid hp; clear hp
  clear h hd
  go_enter Tryz.func38, Tryz.ntmps38
  go_upto_block 0 with fail
  go_cut [13, 11] (fun i z wx => ∃ k o1 f1, k ≤ len ∧ i = .int .i64 k ∧ Num z ∧ GL c ob oo len n p w wx k o1 f1 ∧ (k < len → f1 = 0))
  case first =>
    clear hpp
    go_wp2_with fail
    go_loopw [13, 11] (fun i z wx => ∃ k o1 f1, k ≤ len ∧ i = .int .i64 k ∧ Num z ∧ GL c ob oo len n p w wx k o1 f1) (fun i _ _ => len - (intOf i).toNat)
    case atStart => exact ⟨0, o, f, Nat.zero_le _, rfl, ⟨_, rfl⟩, H0.out⟩
    case round =>
      obtain ⟨k, o1, f1, hk, rfl, ⟨z, rfl⟩, hG⟩ := hrel
      have HG := Lib.hid hG; clear hG
      by_cases hlt : k < len
      · obtain ⟨buf, vb, hb, -⟩ := HG.out.rs.br
        have c3 := hb.bi
        clear hb
        by_cases hf : f1 = 0
        · subst hf
          go_wp2_with fail
          go_meet
          exact ⟨k, o1, 0, hk, rfl, ⟨_, rfl⟩, HG.out, fun _ => rfl⟩
        · have hf' : ¬ (f1 : Int) = 0 := by omega
          have hcall := next_ok c o1 f1 n wr (HG.out.rs.ns (by omega)) (by omega) (by rw [HG.out.pos]; exact Hpk.out k hlt)
          have Hcall := Lib.hid hcall; clear hcall
          go_wp2_with fail
          refine Hcall.out.mono ?_
          rintro e w1 ⟨rfl, h1, o2, f2, h2, -, h3⟩
          have hG2 := HG.out.step hlt h1 h3.rs h2
          have hdd := HG.out.dst.keep h1 (fun j hj hh => HG.out.dst.nB hh)
          obtain ⟨u, hu⟩ := hdd.oth k hlt
          have hfz := hdd.ofr k hlt
          have HG2 := Lib.hid hG2; clear hG2
          clear h1 h2 h3 hdd
          have hVl := lev_lt c.D n (8 * o1 + f1) hn
          have hwv := IntWalk.i16_in ((bitsV c.D (8 * o1 + f1) n : Nat) : Int) (by omega)
          obtain ⟨V, hV⟩ : ∃ V, V = bitsV c.D (8 * o1 + f1) n := ⟨_, rfl⟩
          rw [← hV] at hwv HG2 ⊢
          clear hVl hV
          cases hz : ((V : Int) == 0)
          all_goals
            go_wp2_with fail
            go_roundw
            case rel => exact ⟨k + 1, o2, f2, by omega, by go_num, ⟨_, rfl⟩, HG2.out⟩
            case measure => simp [intOf]; omega
      · go_wp2_with fail
        go_meet
        exact ⟨k, o1, f1, hk, rfl, ⟨_, rfl⟩, HG.out, fun h => absurd h hlt⟩
  case rest =>
    obtain ⟨k, o1, f1, hk, rfl, ⟨z, rfl⟩, hG, hkf⟩ := hcut
    have HG := Lib.hid hG; clear hG
    clear H0
    have hn32 : n ≤ 32 := by omega
    obtain ⟨buf, vb, hb, hbq⟩ := HG.out.rs.br
    obtain ⟨ri, rp, hr⟩ := HG.out.rs.env.rdr
    have Hr := Lib.hid hr; clear hr
    have c0 := hb.rd
    have c2 := hb.bo
    have HB := Lib.hid hb; clear hb
    have Hbq := Lib.hid hbq; clear hbq
    go_wp2_with fail
    have Hn := nil_Seek
    have Hm := method_Seek
    refine wp_region_txt [] (by kernel_rfl) (by kernel_rfl) ?_
    repeat (first | (refine wpTxt_pure rfl rfl (fun K hK => ?_); go_simp; refine hK _ ?_; clear hK K) | (refine wpTxt_still rfl rfl (fun K hK => ?_); go_simp; refine hK _ ?_; clear hK K))
    refine wpTxt_effect rfl rfl (fun K hK => ?_)
    go_simp
    refine (seek_start c.rb c.ro c.b c.bo c.L c.C o1 ri rp _ Hr.out.drew).mono ?_
    rintro e w1 ⟨rfl, h1, h2⟩
    have h1' := h1.undrew
    have hG1 : GL c ob oo len n p w w1 k o1 f1 :=
      ⟨HG.out.chg.comp h1' (fun _ _ _ h => h) (fun _ _ _ h => .inr (.inl h)), fun j hj => h1'.keep (HG.out.out j hj) (fun h => HG.out.dst.nr h.1), HG.out.dst.keep h1' (fun j hj h => HG.out.dst.nr h.1), HG.out.rs.seek h1' (fun _ _ h => h.1) ⟨_, _, h2⟩, HG.out.pos⟩
    have HG1 := Lib.hid hG1; clear hG1
    have Hr1 := Lib.hid h2; clear h2
    clear h1 h1' c0 c2 Hr HB Hbq HG Hn Hm
    (refine hK _ _ ?_; clear hK K)
    repeat (first | (refine wpTxt_pure rfl rfl (fun K hK => ?_); go_simp; refine hK _ ?_; clear hK K) | (refine wpTxt_still rfl rfl (fun K hK => ?_); go_simp; refine hK _ ?_; clear hK K))
    refine wpTxt_nil ?_
    go_upto_block 2 with fail
    go_cut [13, 11] (fun i z wx => ∃ k o1 f1, k ≤ len ∧ i = .int .i64 k ∧ Num z ∧ GL c ob oo len n p w wx k o1 f1)
    case first =>
        go_wp2_with fail
        go_loopw [13, 11] (fun i z wx => ∃ k o1 f1 pr, k ≤ len ∧ i = .int .i64 k ∧ Num z ∧ GL c ob oo len n p w wx k o1 f1 ∧ (k < len → f1 = 0) ∧ Rdr wx c.rb c.ro c.b c.bo c.L c.C o1 pr) (fun i _ _ => len - (intOf i).toNat)
        case atStart => exact ⟨k, o1, f1, _, hk, rfl, ⟨_, rfl⟩, HG1.out, hkf, Hr1.out⟩
        case round =>
          clear hkf Hr1 HG1 hk hpp
          obtain ⟨k2, o2, f2, pr, hk2, rfl, ⟨z, rfl⟩, hG, hkf, hr⟩ := hrel
          have HG := Lib.hid hG; clear hG
          have Hr := Lib.hid hr; clear hr
          by_cases hlt : k2 < len
          · obtain rfl := hkf hlt
            go_wp2_with fail
            clear hkf
            obtain ⟨m, hm⟩ : ∃ m : Nat, m = min 1024 (len - k2) := ⟨_, rfl⟩
            have hm1 : m ≤ 1024 := by omega
            have hm0 : 0 < m := by omega
            have hmk : k2 + m ≤ len := by omega
            have hmi : min (1024 : Int) ((len : Int) - k2) = (m : Nat) := by omega
            have hq : 8 * (o2 + m / 32 * (4 * n)) = p + (k2 + m / 32 * 32) * n := by
              have e1 : (k2 + m / 32 * 32) * n = k2 * n + m / 32 * 32 * n := Nat.add_mul _ _ _
              have e2 : 8 * (m / 32 * (4 * n)) = m / 32 * 32 * n := by rw [Nat.mul_left_comm, ← Nat.mul_assoc 8 4 n, ← Nat.mul_assoc]
              have := HG.out.pos
              omega
            have hqL : o2 + m / 32 * (4 * n) ≤ c.L := by
              have e1 : (k2 + m / 32 * 32) * n ≤ len * n := Nat.mul_le_mul_right _ (by omega)
              have := Hp.out
              omega
            have Hm := Lib.hid hm; clear hm
            have Hmi := Lib.hid (min_ok 1024 ((len : Int) - k2))
            have Hmi2 := Lib.hid hmi; clear hmi
            have Hq := Lib.hid hq; clear hq
            obtain ⟨buf, vb, hb, -⟩ := HG.out.rs.br
            have c0 := hb.rd
            have HB := Lib.hid hb; clear hb
            refine (Hmi.out _).mono ?_
            rintro e w2 ⟨rfl, rfl⟩
            rw [Hmi2.out]
            clear Hmi
            have hwn : IntKind.i64.wrap (n : Int) = n := IntWalk.i64_in _ (by omega)
            have hmt : ((m : Nat) : Int).toNat = m := by omega
            have hm00 : 0 ≤ (m : Int) := by omega
            have hm11 : (m : Int) ≤ 1024 := by omega
            go_wp2_with fail
            refine wp_region_txt [] (by kernel_rfl) (by kernel_rfl) ?_
            repeat (first | (refine wpTxt_pure rfl rfl (fun K hK => ?_); go_simp; refine hK _ ?_; clear hK K) | (refine wpTxt_still rfl rfl (fun K hK => ?_); go_simp; refine hK _ ?_; clear hK K))
            refine wpTxt_effect rfl rfl (fun K hK => ?_)
            go_simp
            refine (unpack32_ok c.rb c.ro c.b c.bo c.L c.C c.B 13 m 1024 o2 n pr c.D _ Hr.out.drew HG.out.rs.env.data.drew hn1 hn32 hqL hL hC HG.out.rs.env.br HG.out.rs.env.bB HG.out.rs.env.rB hm1 (by omega) (fun j hj => HB.out.up j (by omega)) (fun j hj => HB.out.fr _ (by omega))).mono ?_
            rintro e w3 ⟨rfl, h1, ⟨pr3, h2⟩, h3⟩
            obtain ⟨N, hN⟩ : ∃ N, N = m / 32 * 32 := ⟨_, rfl⟩
            rw [show 32 * (m / 32) = N by omega] at h1 h3
            rw [← hN]
            have hNm : N ≤ m := by omega
            have hN32 : N < 32 → m < 32 := by omega
            have h1' := h1.undrew
            have hB3 : BR w3 c.B c.rb c.ro o2 0 buf vb := HB.out.keep5 h1' (by rintro x hx (hh | hh) <;> have := HG.out.rs.env.rB <;> omega) (by
              rintro j hj (hh | hh)
              · exact absurd hh.1 (fun e => HG.out.rs.env.rB e.symm)
              · have e1 : 5 + j = 13 + (j - 8) := by omega
                rw [e1]
                exact ⟨_, h3 (j - 8) (by omega)⟩)
            have hG3 : GL c ob oo len n p w w3 k2 o2 0 := by
              have hno : ∀ x, ¬ ((ob = c.rb ∧ c.ro ≤ x ∧ x < c.ro + 3) ∨ (ob = c.B ∧ 13 ≤ x ∧ x < 13 + N)) := by
                rintro x (hh | hh)
                · exact HG.out.dst.nr hh.1
                · exact HG.out.dst.nB hh.1
              refine ⟨HG.out.chg.comp h1' (fun _ _ _ h => h) (by rintro a x ha (hh | hh); exact .inr (.inl hh); exact .inl hh.1), fun j hj => h1'.keep (HG.out.out j hj) (hno _), HG.out.dst.keep h1' (fun j _ => hno _), ⟨?_, by omega, buf, vb, hB3, fun h => by omega⟩, HG.out.pos⟩
              refine HG.out.rs.env.keepR h1' ?_ ⟨_, _, h2⟩
              rintro a x (hh | hh)
              · rw [hh.1]; exact ⟨fun e => HG.out.rs.env.br e.symm, HG.out.rs.env.gr⟩
              · rw [hh.1]; exact ⟨fun e => HG.out.rs.env.bB e.symm, HG.out.rs.env.gB⟩
            have hu3 : ∀ j, j < N → w3.cell? ⟨c.B, 13 + j, none⟩ = some (.int .u32 (bitsV c.D (p + (k2 + j) * n) n)) := by
              intro j hj
              have e1 : (k2 + j) * n = k2 * n + j * n := Nat.add_mul _ _ _
              have e2 : 8 * o2 + j * n = p + (k2 + j) * n := by have := HG.out.pos; omega
              have := h3 j hj
              rwa [e2] at this
            have HG3 := Lib.hid hG3; clear hG3
            have HB3 := Lib.hid hB3; clear hB3
            have Hu3 := Lib.hid hu3; clear hu3
            have Hr3 := Lib.hid h2; clear h2
            have HN := Lib.hid hN; clear hN
            clear h1 h1' h3 c0 HB HG Hr
            (refine hK _ _ ?_; clear hK K)
            repeat (first | (refine wpTxt_pure rfl rfl (fun K hK => ?_); go_simp; refine hK _ ?_; clear hK K) | (refine wpTxt_still rfl rfl (fun K hK => ?_); go_simp; refine hK _ ?_; clear hK K))
            refine wpTxt_nil ?_
            have hNt : ((N : Nat) : Int).toNat = N := by omega
            have hN0 : 0 ≤ (N : Int) := by omega
            have hN4 : (N : Int) ≤ 1024 := by omega
            go_wp2_with fail
            go_loopw [115, 11] (fun i z wx => ∃ j, j ≤ N ∧ i = .int .i64 j ∧ Num z ∧ Chg (fun a x => a = ob ∧ oo + k2 ≤ x ∧ x < oo + k2 + N) w3 wx ∧ Dst c wx ob oo len ∧ ∀ i, i < j → wx.cell? ⟨ob, oo + (k2 + i), none⟩ = some (.int .i16 (bitsV c.D (p + (k2 + i) * n) n))) (fun i _ _ => N - (intOf i).toNat)
            case atStart => exact ⟨0, Nat.zero_le _, rfl, ⟨_, rfl⟩, Chg.refl _ _, HG3.out.dst, fun i hi => by omega⟩
            case round =>
              obtain ⟨j, hj, rfl, ⟨z, rfl⟩, hc4, hd4, ho4⟩ := hrel
              by_cases hjN : j < N
              · have hcell := hc4.keep (Hu3.out j hjN) (fun hh => hd4.nB hh.1.symm)
                obtain ⟨u, hu⟩ := hd4.oth (k2 + j) (by omega)
                have hfz := hd4.ofr (k2 + j) (by omega)
                obtain ⟨V, hV⟩ : ∃ V, V = bitsV c.D (p + (k2 + j) * n) n := ⟨_, rfl⟩
                have hVlt : (V : Int) < 4294967296 := by
                  have := bitsV_lt c.D n (p + (k2 + j) * n)
                  have h5 : (2 : Nat) ^ n ≤ 2 ^ 32 := Nat.pow_le_pow_right (by decide) (by omega)
                  omega
                have hwv := IntWalk.i16_in (V : Int) (by have := lev_lt c.D n (p + (k2 + j) * n) hn; omega)
                rw [← hV] at hcell
                have HV := Lib.hid hV; clear hV
                have Hc4 := Lib.hid hc4; clear hc4
                have Hd4 := Lib.hid hd4; clear hd4
                have Ho4 := Lib.hid ho4; clear ho4
                have hkj : ((k2 : Int) + j).toNat = k2 + j := by omega
                cases hz : ((V : Int) == 0)
                all_goals
                  go_wp2_with fail
                  go_roundw
                  case rel =>
                    refine ⟨j + 1, by omega, rfl, ⟨_, rfl⟩, Hc4.out.setCell _ _ (fun _ => ⟨rfl, by omega, by omega⟩) _, Hd4.out.put _ _, ?_⟩
                    intro i hi
                    by_cases hij : i = j
                    · subst hij
                      rw [← HV.out]
                      exact World.cell?_setCell_same _ _ _ hu
                    · exact cell_ne _ (Ho4.out i (by omega)) (by omega)
                  case measure => simp [intOf]; omega
              · have hje : j = N := by omega
                subst hje
                obtain ⟨Q, hQ⟩ : ∃ Q, Q = j * n := ⟨_, rfl⟩
                obtain ⟨o3, ho3⟩ : ∃ o3, o3 = o2 + m / 32 * (4 * n) := ⟨_, rfl⟩
                have hQ1 : Q ≤ 1024 * 32 := by rw [hQ]; exact Nat.mul_le_mul (by omega) hn32
                have hQi : (j : Int) * n = Q := by rw [hQ]; norm_cast
                have hQ8 : Q / 8 = m / 32 * (4 * n) := by
                  have e2 : 8 * (m / 32 * (4 * n)) = m / 32 * 32 * n := by rw [Nat.mul_left_comm, ← Nat.mul_assoc 8 4 n, ← Nat.mul_assoc]
                  rw [← HN.out] at e2
                  omega
                have hq3 : (o2 : Int) + Q / 8 = o3 := by omega
                have ho3L : o3 ≤ c.L := by omega
                have hB4 := HB3.out.keep hc4 (fun x hh => hd4.nB hh.1.symm)
                have c2 := hB4.bo
                have f2' := hB4.fr 2 (by omega)
                obtain ⟨k3, hk3⟩ : ∃ k3, k3 = k2 + j := ⟨_, rfl⟩
                have hk3i : (k2 : Int) + j = k3 := by omega
                have hG5 : GL c ob oo len n p w (wr.setCell ⟨c.B, 2, none⟩ (.int .i64 o3)) k3 o3 0 := by
                  have hc5 := (Chg.refl (Own c.B) wr).own 2 (.int .i64 o3)
                  have he4 : Env c wr := HG3.out.rs.env.keep hc4 (by rintro a x ⟨rfl, -⟩; exact ⟨hd4.nb, hd4.nr, hd4.g⟩)
                  refine ⟨(HG3.out.chg.comp hc4 (fun _ _ _ h => h) (by rintro a x ha ⟨rfl, h1, h2⟩; exact .inr (.inr ⟨rfl, by omega, by omega⟩))).comp hc5 (fun _ _ _ h => h) (fun _ _ _ h => .inl h), ?_, hd4.keep hc5 (fun j _ h => hd4.nB h), ⟨he4.keepB hc5 (fun _ _ h => h), by omega, buf, vb, hB4.off' o3, fun h => by omega⟩, ?_⟩
                  · intro i hi
                    refine hc5.keep ?_ (fun h => hd4.nB h)
                    by_cases hik : i < k2
                    · exact hc4.keep (HG3.out.out i hik) (by rintro ⟨-, h, -⟩; omega)
                    · have := ho4 (i - k2) (by omega)
                      rwa [show k2 + (i - k2) = i by omega] at this
                  · have := Hq.out
                    rw [← HN.out, ← ho3, ← hk3] at this
                    omega
                have hR5 : Rdr (wr.setCell ⟨c.B, 2, none⟩ (.int .i64 o3)) c.rb c.ro c.b c.bo c.L c.C o3 pr3 := by
                  have hc5 := (Chg.refl (Own c.B) wr).own 2 (.int .i64 o3)
                  have := Hr3.out.keep hc4 (fun j _ hh => hd4.nr hh.1.symm)
                  rw [← ho3] at this
                  exact this.keep hc5 (fun j _ hh => HG3.out.rs.env.rB hh)
                have HG5 := Lib.hid hG5; clear hG5
                have HR5 := Lib.hid hR5; clear hR5
                have hk3l : k3 ≤ len := by omega
                have HQ8 := Lib.hid hQ8; clear hQ8
                have Hk3 := Lib.hid hk3; clear hk3
                have Ho3 := Lib.hid ho3; clear ho3
                have HQ := Lib.hid hQ; clear hQ
                clear ho4 hc4 hB4
                by_cases hj0 : j = 0
                · have hj0' : (j : Int) = 0 := by omega
                  go_wp2_with fail
                  go_meet
                  have e3 : k3 = k2 := by have := Hk3.out; omega
                  have e4 : o3 = o2 := by
                    have := HQ.out
                    rw [hj0, Nat.zero_mul] at this
                    have := HQ8.out
                    have := Ho3.out
                    omega
                  have h5 := HG5.out
                  rw [e3, e4] at h5
                  exact ⟨k2, o2, 0, hk2, rfl, ⟨_, rfl⟩, h5⟩
                · have hj0' : ¬ (j : Int) = 0 := by omega
                  go_wp2_with fail
                  go_roundw
                  case rel => exact ⟨k3, o3, 0, pr3, hk3l, rfl, ⟨_, rfl⟩, HG5.out, fun _ => rfl, HR5.out⟩
                  case measure => simp [intOf]; have := Hk3.out; omega
          · go_wp2_with fail
            go_meet
            exact ⟨k2, o2, f2, hk2, rfl, ⟨_, rfl⟩, HG.out⟩
    case rest =>
      clear hk hkf hpp
      obtain ⟨k2, o2, f2, hk2, rfl, ⟨z, rfl⟩, hG⟩ := hcut
      obtain ⟨buf, vb, hb, -⟩ := hG.rs.br
      have hcall := fill_ok c o2 f2 buf vb wc hG.rs.env hb hG.rs.hf
      have Hcall := Lib.hid hcall
      have HG := Lib.hid hG
      clear hcall hG hb
      go_wp2_with fail
      refine Hcall.out.mono ?_
      rintro e w1 ⟨rfl, h1, h2⟩
      have hG1 : GL c ob oo len n p w w1 k2 o2 f2 := ⟨HG.out.chg.comp h1 (fun _ _ _ h => h) (fun _ _ _ h => .inl h), fun j hj => h1.keep (HG.out.out j hj) (fun h => HG.out.dst.nB h), HG.out.dst.keep h1 (fun j hj h => HG.out.dst.nB h), h2.rs, HG.out.pos⟩
      have HG1 := Lib.hid hG1; clear hG1
      have H2 := Lib.hid h2; clear h2
      clear h1 HG Hcall
      go_wp2_with fail
      go_loopw [13, 11] (fun i z wx => ∃ k o1 f1, k ≤ len ∧ i = .int .i64 k ∧ Num z ∧ GL c ob oo len n p w wx k o1 f1 ∧ NS c wx o1 f1) (fun i _ _ => len - (intOf i).toNat)
      case atStart => exact ⟨k2, o2, f2, hk2, rfl, ⟨_, rfl⟩, HG1.out, H2.out⟩
      case round =>
        obtain ⟨k, o1, f1, hk, rfl, ⟨z, rfl⟩, hG, hN⟩ := hrel
        have HG := Lib.hid hG; clear hG
        have HN := Lib.hid hN; clear hN
        by_cases hlt : k < len
        · have hcall := next_ok c o1 f1 n wr HN.out (by omega) (by rw [HG.out.pos]; exact Hpk.out k hlt)
          have Hcall := Lib.hid hcall; clear hcall
          go_wp2_with fail
          refine Hcall.out.mono ?_
          rintro e w1 ⟨rfl, h1, o2, f2, h2, -, h3⟩
          have hG2 := HG.out.step hlt h1 h3.rs h2
          have hdd := HG.out.dst.keep h1 (fun j hj hh => HG.out.dst.nB hh)
          obtain ⟨u, hu⟩ := hdd.oth k hlt
          have hfz := hdd.ofr k hlt
          have hN2 := h3.keep ((Chg.refl (Own ob) w1).own (oo + k) (.int .i16 (bitsV c.D (8 * o1 + f1) n))) (by rintro a x rfl; exact ⟨hdd.nb, hdd.nr, hdd.nB, hdd.g⟩)
          have HG2 := Lib.hid hG2; clear hG2
          have HN2 := Lib.hid hN2; clear hN2
          clear h1 h2 h3 hdd
          have hVl := lev_lt c.D n (8 * o1 + f1) hn
          have hwv := IntWalk.i16_in ((bitsV c.D (8 * o1 + f1) n : Nat) : Int) (by omega)
          obtain ⟨V, hV⟩ : ∃ V, V = bitsV c.D (8 * o1 + f1) n := ⟨_, rfl⟩
          rw [← hV] at hwv HG2 HN2 ⊢
          clear hVl hV
          cases hz : ((V : Int) == 0)
          all_goals
            go_wp2_with fail
            go_roundw
            case rel => exact ⟨k + 1, o2, f2, by omega, by go_num, ⟨_, rfl⟩, HG2.out, HN2.out⟩
            case measure => simp [intOf]; omega
        · have hke : k = len := by omega
          subst hke
          go_wp2_with fail
          go_ret3
          exact ⟨⟨_, rfl⟩, HG.out.chg, HG.out.out, o1, f1, HG.out.pos, HN.out⟩
end Go.Proofs.YtameepdbnnaaaaaGreatDoor
/- The reader of runs: a batch of levels. -/
namespace Go.Proofs.YtameepdbnnaaaaaGreatDoor
open Go Go.RowKit
set_option maxRecDepth 100000 in
set_option maxHeartbeats 1000000 in
theorem rleLevels_ok (c : RC) (W R rep lit cur o f ob oo len cap : Nat) (vs : List Nat) (w : World) (h : RD c W R rep lit cur o f w) (hp : Pos c.D c.L W rep lit cur o f vs) (hW1 : 1 ≤ W) (hW2 : W ≤ 15) (hv : ∀ v ∈ vs, v < 32768) (hlen : len ≤ vs.length) (hl : len ≤ 1000000000) (hd : Dst c w ob oo len) (hoR : ob ≠ R) (hcap : len ≤ cap) (hcap2 : cap ≤ 1000000000000000000) :
    Calls Tryz.prog 23 #[.pointer (some ⟨R, 0, none⟩), .slice (some ⟨ob, oo, none⟩) len cap, .int .i16 0] w fun e w' =>
      LevEnd len e ∧ ∃ rep' lit' cur' o' f', Gr c W R ob oo len (fun v => .int .i16 v) vs w w' len rep' lit' cur' o' f' := by
  have h0 : Gr c W R ob oo len (fun v => .int .i16 v) vs w w 0 rep lit cur o f := ⟨⟨h, hp, Chg.refl _ _⟩, fun j hj => by omega, hd, hoR⟩
  have H0 := Lib.hid h0; clear h0 h hp hd
  have Hlen := Lib.hid hlen; clear hlen
  have Hv := Lib.hid hv; clear hv
  go_enter Tryz.func23, Tryz.ntmps23
  go_wp2_with fail
  go_loopw [9, 10, 11] (fun i z s wx => ∃ k rep lit cur o f, k ≤ len ∧ i = .int .i64 k ∧ Num z ∧ (k < len → s = .slice (some ⟨ob, oo + k, none⟩) (len - k) (cap - k)) ∧ Gr c W R ob oo len (fun v => .int .i16 v) vs w wx k rep lit cur o f) (fun i _ _ wx => 2 * (len - (intOf i).toNat) + idle wx R)
  case atStart => exact ⟨0, _, _, _, _, _, Nat.zero_le _, rfl, ⟨_, rfl⟩, fun _ => rfl, H0.out⟩
  case round =>
    obtain ⟨k, rep, lit, cur, o, f, hk, rfl, ⟨z, rfl⟩, hs, hG⟩ := hrel
    clear H0
    by_cases hlt : k < len
    · obtain rfl := hs hlt
      clear hs
      rcases hG.rl.pos.cases with ⟨hr1, rfl⟩ | ⟨rfl, hl1⟩ | ⟨rfl, rfl, hruns⟩
      · obtain ⟨m, hm⟩ : ∃ m, m = min (len - k) rep := ⟨_, rfl⟩
        have hm1 : 1 ≤ m := by omega
        have hmr : m ≤ rep := by omega
        have hmk : k + m ≤ len := by omega
        have hmi : (if (rep : Int) < (len : Int) - k then (rep : Int) else (len : Int) - k) = m := by split <;> omega
        have hrb := hG.rl.le.1
        have c3 := hG.rl.rd.re
        have f3 := hG.rl.rd.fr 3 (by omega)
        have c2 := hG.rl.rd.cu
        have hcv : cur < 32768 := Hv.out cur (by
          have := (hG.rl.pos.took_rep hr1 hmr).2 0 (by omega)
          rw [List.getElem?_drop] at this
          exact List.mem_of_getElem? this)
        have hwv := IntWalk.i16_in (cur : Int) (by omega)
        have HG := Lib.hid hG
        have Hm := Lib.hid hm
        have Hid0 := Lib.hid (idle_le wr R)
        clear hG hm
        have hr1' : (0 : Int) < rep := by omega
        go_wp2_with fail
        obtain ⟨wo, rfl⟩ : ∃ wo : World, wo = wr := ⟨_, rfl⟩
        go_loopw [50] (fun i wx => ∃ j, j ≤ m ∧ i = .int .i64 j ∧ Rp ob oo k j (.int .i16 cur) wo wx) (fun i _ => m - (intOf i).toNat)
        case atStart => exact ⟨0, Nat.zero_le _, rfl, Chg.refl _ _, fun j hj => by omega⟩
        case round =>
          obtain ⟨j, hj, rfl, hr⟩ := hrel
          have hno : ∀ x, ¬ (R = ob ∧ oo + k ≤ x ∧ x < oo + k + j) := by rintro x ⟨hh, -⟩; exact HG.out.nR hh.symm
          have d2 := hr.chg.keep c2 (hno _)
          have d3 := hr.chg.keep c3 (hno _)
          have e3 := (hr.chg.frozen R 3 HG.out.rl.rd.lt).trans f3
          by_cases hjm : j < m
          · obtain ⟨u, hu⟩ := HG.out.dst.oth (k + j) (by omega)
            have hfz := (hr.chg.frozen ob (oo + (k + j)) (World.block_lt_of_cell? _ _ hu)).trans (HG.out.dst.ofr (k + j) (by omega))
            have hu2 := hr.chg.keep hu (by rintro ⟨-, hh⟩; omega)
            rw [show oo + (k + j) = oo + k + j by omega] at hfz hu2
            have Hr := Lib.hid hr; clear hr hu
            have hjl : j < len - k := by omega
            go_wp2_with fail
            go_roundw
            case rel => exact ⟨j + 1, by omega, by go_num, Hr.out.step hu2⟩
            case measure => simp [intOf]; omega
          · obtain rfl : j = m := by omega
            have hR2 : RD c W R rep 0 cur o f wr := HG.out.rl.rd.keep hr.chg (by rintro a x ⟨rfl, -⟩; exact ⟨HG.out.dst.nb, HG.out.dst.nr, HG.out.dst.nB, HG.out.nR, HG.out.dst.g⟩)
            have hc2 : Chg (fun a x => a = R ∨ (a = ob ∧ oo + k ≤ x ∧ x < oo + k + j)) wo (wr.setCell ⟨R, 3, none⟩ (.int .i32 (rep - j : Nat))) := (hr.chg.mono (fun _ _ _ hh => .inr hh)).setCell _ _ (fun _ => .inl rfl) _
            have hG2 := HG.out.more hc2 (by rintro a x (hh | hh); exact .inr (.inl hh); exact .inr (.inr (.inr hh))) hmk (hR2.rep' (rep - j)) ((HG.out.rl.pos.took_rep hr1 hmr).1) (fun i hi => ⟨cur, (HG.out.rl.pos.took_rep hr1 hmr).2 i hi, cell_ne _ (hr.out i hi) (by rintro ⟨hh, -⟩; exact HG.out.nR hh)⟩)
            have hrm : (rep : Int) - j = (rep - j : Nat) := by omega
            rw [← hrm] at hG2
            have HG2 := Lib.hid hG2
            clear hR2 hc2 hG2 hrm hr hno
            cases hz : ((cur : Int) == 0)
            all_goals
              go_wp2_with fail
              go_roundw
              case rel => exact ⟨k + j, rep - j, 0, cur, o, f, by omega, by push_cast; rfl, ⟨_, rfl⟩, fun hh => by simp only [Nat.add_assoc, Nat.sub_sub]; rw [if_neg (by omega)], HG2.out⟩
              case measure =>
                have := Hid0.out
                have := idle_le (wr.setCell ⟨R, 3, none⟩ (.int .i32 (rep - j))) R
                simp [intOf]; omega
      · obtain ⟨m, hm⟩ : ∃ m, m = min (len - k) lit := ⟨_, rfl⟩
        have hm1 : 1 ≤ m := by omega
        have hml : m ≤ lit := by omega
        have hmk : k + m ≤ len := by omega
        have hmi : (if (lit : Int) < (len : Int) - k then (lit : Int) else (len : Int) - k) = m := by split <;> omega
        have hmt : ((m : Nat) : Int).toNat = m := by omega
        have hm00 : 0 ≤ (m : Int) := by omega
        have hm11 : m ≤ cap - k := by omega
        have hlb := hG.rl.le.2
        have c0 := hG.rl.rd.p
        have c1 := hG.rl.rd.wi
        have c3 := hG.rl.rd.re
        have c4 := hG.rl.rd.li
        have hbits := (hG.rl.pos.took_lit (m := 0) (o' := o) (f' := f) hl1 (by omega) (by omega)).2.2
        have e1 : lit * W = m * W + (lit - m) * W := by rw [← Nat.add_mul]; congr 1; omega
        have hdk : Dst c wr ob (oo + k) m := ⟨fun j hj => by have := hG.dst.oth (k + j) (by omega); rwa [← Nat.add_assoc] at this, fun j hj => by have := hG.dst.ofr (k + j) (by omega); rwa [← Nat.add_assoc] at this, hG.dst.nB, hG.dst.nr, hG.dst.nb, hG.dst.g⟩
        have hcall := getLevels_ok c o f W ob (oo + k) m (cap - k) wr.drew hG.rl.rd.rs.drew' (hdk.keep (Chg.drew (Chg.refl Nix wr)) (fun _ _ h => h)) hW1 hW2 (by omega) (by omega) (by omega)
        have Hcall := Lib.hid hcall; clear hcall e1 hbits hdk
        have HG := Lib.hid hG; clear hG
        have Hm := Lib.hid hm; clear hm
        have Hid0 := Lib.hid (idle_le wr R)
        have hl1' : (0 : Int) < lit := by omega
        have hwW : IntKind.u64.wrap (W : Int) = W := wrap64 _ (by omega) (by omega)
        go_wp2_with fail
        (refine wp_region_txt [] (by kernel_rfl) (by kernel_rfl) ?_; repeat (first | (refine wpTxt_pure rfl rfl (fun K hK => ?_); go_simp; refine hK _ ?_; clear hK K) | (refine wpTxt_still rfl rfl (fun K hK => ?_); go_simp; refine hK _ ?_; clear hK K)))
        refine wpTxt_effect rfl rfl (fun K hK => ?_); go_simp
        refine Hcall.out.mono ?_
        rintro e w1 ⟨⟨y, rfl⟩, h1, hout, o1, f1, hpos, hN⟩
        have h1' := h1.undrew
        have hSR : ∀ x, ¬ GT c ob (oo + k) m R x := by
          rintro x (hh | hh | hh)
          · exact HG.out.rl.rd.nB hh
          · exact HG.out.rl.rd.nr hh.1
          · exact HG.out.nR hh.1.symm
        have hR1 := HG.out.rl.rd.read h1' hSR hN.rs
        have c4' := hR1.li
        have f4' := hR1.fr 4 (by omega)
        have ht := HG.out.rl.pos.took_lit hl1 hml hpos
        have hc2 : Chg (fun a x => a = R ∨ GT c ob (oo + k) m a x) wr (w1.setCell ⟨R, 4, none⟩ (.int .i32 (lit - m : Nat))) := (h1'.mono (fun _ _ _ hh => .inr hh)).setCell _ _ (fun _ => .inl rfl) _
        have hG2 := HG.out.more hc2 (by rintro a x (hh | hh | hh | hh); exact .inr (.inl hh); exact .inl hh; exact .inr (.inr (.inl hh)); exact .inr (.inr (.inr hh))) hmk (hR1.lit' (lit - m)) ht.1 (fun i hi => ⟨_, ht.2.1 i hi, cell_ne _ (hout i hi) (by rintro ⟨hh, -⟩; exact HG.out.nR hh)⟩)
        have hrm : (lit : Int) - m = (lit - m : Nat) := by omega
        rw [← hrm] at hG2
        have HG2 := Lib.hid hG2
        clear h1 h1' hR1 hG2 hrm c0 c1 c3 c4 ht hc2 hout hSR
        (refine hK _ _ ?_; clear hK K)
        repeat (first | (refine wpTxt_pure rfl rfl (fun K hK => ?_); go_simp; refine hK _ ?_; clear hK K) | (refine wpTxt_still rfl rfl (fun K hK => ?_); go_simp; refine hK _ ?_; clear hK K))
        refine wpTxt_nil ?_
        go_wp2_with fail
        all_goals
          go_roundw
          case rel => exact ⟨k + m, 0, lit - m, cur, o1, f1, by omega, by push_cast; rfl, ⟨_, rfl⟩, fun hh => by simp only [Nat.add_assoc, Nat.sub_sub]; rw [if_neg (by omega)], HG2.out⟩
          case measure =>
            have := Hid0.out
            have := idle_le (w1.setCell ⟨R, 4, none⟩ (.int .i32 (lit - m))) R
            simp [intOf]; omega
      · have c3 := hG.rl.rd.re
        have c4 := hG.rl.rd.li
        have Hcall := Lib.hid (rleNext_ok c W R cur o f (vs.drop k) wr hG.rl.rd hW1 (by omega) hruns (ne_drop hlt Hlen.out))
        have Hid1 := Lib.hid (idle_yes hG.rl.rd)
        have HG := Lib.hid hG; clear hG
        clear hruns
        go_wp2_with fail
        refine Hcall.out.mono ?_
        rintro e w1 ⟨rfl, h1, rep2, lit2, cur2, o2, f2, hR2, hP2, hz⟩
        have Hid2 := Lib.hid (idle_is hR2 hz)
        have hG2 := HG.out.more (m := 0) h1 (by rintro a x (hh | hh); exact .inl hh; exact .inr (.inl hh)) (by omega) hR2 hP2 (fun j hj => by omega)
        rw [Nat.add_zero] at hG2
        have HG2 := Lib.hid hG2
        clear h1 hR2 hP2 hz hG2
        go_wp2_with fail
        go_roundw
        case rel => exact ⟨k, rep2, lit2, cur2, o2, f2, hk, rfl, ⟨_, rfl⟩, fun _ => rfl, HG2.out⟩
        case measure =>
          have := Hid1.out
          have := Hid2.out
          simp [intOf]; omega
    · have hke : k = len := by omega
      subst hke
      have HG := Lib.hid hG; clear hG
      go_wp2_with fail
      go_ret3
      exact ⟨⟨_, rfl⟩, _, _, _, _, _, HG.out⟩
end Go.Proofs.YtameepdbnnaaaaaGreatDoor
/- Appends to a row of one's own, with all that stays told. Over any program. -/
namespace Go.Proofs.YtameepdbnnaaaaaGreatDoor
open Go Go.RowKit
section
variable {P : Program}
/-- xs are v's cells, one each, in a block from base on. -/
def Own1 (w : World) (base : Nat) (e : TypeId) (v : Value) (xs : List Value) : Prop := w.ownsRow base e 1 v xs.length xs
theorem Own1.nil (w : World) (base : Nat) (e : TypeId) : Own1 w base e (.slice none 0 0) [] := World.ownsRow_nil w base e 1
theorem Own1.keep {w w' : World} {base : Nat} {e : TypeId} {v : Value} {xs : List Value} (h : Own1 w base e v xs) {S : Nat → Nat → Prop} (hc : Chg S w w') (hS : ∀ g, base ≤ g → ∀ o, ¬ S g o) : Own1 w' base e v xs := by
  refine ⟨h.1, ?_⟩
  rcases h.2 with hn | ⟨g, cap, cur, hv, hb, hg, rest⟩
  · exact .inl hn
  · exact .inr ⟨g, cap, cur, hv, hb, (hc.block g (Array.getElem?_eq_some_iff.1 hg).1 (hS g hb)).trans hg, rest⟩
theorem Own1.keepAt {w w' : World} {base : Nat} {e : TypeId} {v : Value} {xs : List Value} (h : Own1 w base e v xs) {S : Nat → Nat → Prop} (hc : Chg S w w') (hS : ∀ g, v.ownBlock = some g → ∀ o, ¬ S g o) : Own1 w' base e v xs := by
  refine ⟨h.1, ?_⟩
  rcases h.2 with hn | ⟨g, cap, cur, rfl, hb, hg, rest⟩
  · exact .inl hn
  · exact .inr ⟨g, cap, cur, rfl, hb, (hc.block g (Array.getElem?_eq_some_iff.1 hg).1 (hS g rfl)).trans hg, rest⟩
theorem Own1.lt {w : World} {base : Nat} {e : TypeId} {v : Value} {xs : List Value} (h : Own1 w base e v xs) (g : Nat) (hg : v.ownBlock = some g) : base ≤ g ∧ g < w.heap.size := World.ownsRow.lt h g hg
/-- A slice that reads as a list of values. -/
def Reads (w : World) (v : Value) (xs : List Value) : Prop := ∃ p c, v = .slice p xs.length c ∧ (xs = [] ∨ ∃ g o, p = some ⟨g, o, none⟩ ∧ ∀ j u, xs[j]? = some u → w.cell? ⟨g, o + j, none⟩ = some u)
theorem Own1.reads {w : World} {base : Nat} {e : TypeId} {v : Value} {xs : List Value} (h : Own1 w base e v xs) : Reads w v xs := by
  rcases h.2 with ⟨rfl, hn⟩ | ⟨g, cap, cur, rfl, hb, hg, rest⟩
  · exact ⟨none, 0, by rw [hn], .inl (List.eq_nil_of_length_eq_zero hn)⟩
  · refine ⟨_, cap, rfl, .inr ⟨g, 0, rfl, fun j u hu => ?_⟩⟩
    have := World.ownsRow.cells h (g := g) rfl j u hu
    rwa [addr_add] at this
theorem chg_setRow {w : World} {g : Nat} {old : Array Value} {e : TypeId} (cs : Array Value) (hg : w.heap[g]? = some (.cells old e (0, 0))) : Chg (fun k _ => k = g) w (w.setRow g cs) := by
  refine ⟨rfl, rfl, rfl, by simp [World.setRow], fun k _ hn => setRow_other w g k cs (fun e => hn 0 e), fun k o _ hn => cell_setRow_other w g cs ⟨k, o, none⟩ hn, fun k o hk => ?_⟩
  unfold World.frozen?
  by_cases hkg : k = g
  · subst hkg
    simp only [setRow_heap w k old cs e (0, 0) hg, hg]
  · simp only [setRow_other w g k cs hkg]
theorem run_append_chg (w : World) (base : Nat) (t ty e : TypeId) (i : TypeInfo) (z : Value) (bytes : Nat) (ht : P.underlying t = some (.slice e)) (hi : P.info? e = some i) (hz : i.zero = some z)
    (hsize : i.size = 1) (hby : i.bytes = bytes) (hzs : z.cells.size = 1)
    (v : Value) (xs : List Value) (hown : Own1 w base e v xs)
    (x : Value) (news : List Value) (hx : Reads w x news) (h1 : ∀ u ∈ news, u.oneCell' = true)
    (h63 : xs.length + news.length ≤ maxLen) (hbytes : (xs.length + news.length) * bytes ≤ 140737488355328) (hbase : base ≤ w.heap.size) :
    ∃ v' w', (Builtin.append_ #[t, t] ty #[v, x]).run P w = .ok v' w' ∧ Own1 w' base e v' (xs ++ news) ∧ Chg (fun k _ => v.ownBlock = some k) w w' := by
  obtain ⟨p, c, rfl, hp⟩ := hx
  by_cases hnil : news = []
  · subst hnil
    rw [List.append_nil]
    refine ⟨v, w, ?_, hown, Chg.refl _ _⟩
    rcases hown.2 with ⟨rfl, hn⟩ | ⟨g, cap, cur, rfl, hbg, hg, hnc, hcm, hcs, htake⟩
    · simp [Builtin.append_, run_underlying ht, sizeOf, typeInfo, hi, Builtin.lenOf, Builtin.firstCells, loadCells, loadCellsFrom]
      cases p <;> simp [loadCells, loadCellsFrom]
    · simp [Builtin.append_, run_underlying ht, sizeOf, typeInfo, hi, Builtin.lenOf, Builtin.firstCells, loadCells, loadCellsFrom, hnc]
      cases p <;> simp [loadCells, loadCellsFrom, storeCells]
  obtain ⟨ag, ao, rfl, hcell⟩ := hp.resolve_left hnil
  have hnews : ∀ j u, news[j]? = some u → w.cell? ((⟨ag, ao, none⟩ : Addr).add j) = some u := fun j u hu => by rw [addr_add]; exact hcell j u hu
  have hm0 : 0 < news.length := List.length_pos_iff.2 hnil
  subst hby
  have hl : news.length = news.length * i.size := by rw [hsize, Nat.mul_one]
  have hsmall : xs.length + news.length ≤ 9223372036854775807 := by simp only [maxLen] at h63; omega
  have hlen : (xs ++ news).length = (xs.length + news.length) * 1 := by rw [List.length_append, Nat.mul_one]
  have hlen1 : (xs ++ news).length = xs.length + news.length := List.length_append
  have hxl : xs.length = xs.length * i.size := by rw [hsize, Nat.mul_one]
  have grown : ∀ (old : Nat), old < xs.length + news.length →
      Own1 (w.drew.alloc (.cells (xs.toArray ++ news.toArray ++ Builtin.zeroCells z.cells (grownCap w (xs.length + news.length) old e - (xs.length + news.length))) e)) base e
        (.slice (some ⟨w.heap.size, 0, none⟩) (xs.length + news.length) (grownCap w (xs.length + news.length) old e)) (xs ++ news) := by
    intro old ho
    have hge := grownCap_ge w (xs.length + news.length) old e
    have hcm : grownCap w (xs.length + news.length) old e ≤ maxLen := grownCap_le_maxLen w _ old e h63
    unfold Own1
    rw [hlen1]
    refine ⟨hlen, .inr ⟨w.heap.size, _, _, rfl, hbase, heap_alloc_new w.drew _, hge, hcm, ?_, ?_⟩⟩
    · simp only [Array.size_append, List.size_toArray, size_zeroCells, hzs]
      omega
    · simp only [Array.toList_append, List.append_assoc]
      rw [← List.append_assoc, ← hlen]
      exact List.take_left
  rcases hown.2 with ⟨rfl, hn⟩ | ⟨g, cap, cur, rfl, hbg, hg, hnc, hcm, hcs, htake⟩
  · have hxn : xs = [] := List.eq_nil_of_length_eq_zero hn
    subst hxn
    have hr := run_append_nil (P := P) w t ty e i z ht hi hz ⟨ag, ao, none⟩ news.length c news hl hnews (by omega) (by have := hsmall; simp at this; omega) (by have hb := hbytes; simpa using Nat.le_trans hb (by decide))
    have hgr := grown 0 (by simp; omega)
    simp only [List.length_nil, Nat.zero_add, List.nil_append, Array.empty_append] at hgr ⊢
    exact ⟨_, _, hr, hgr, ((Chg.refl _ _).drew).alloc _⟩
  · by_cases hroom : xs.length + news.length ≤ cap
    · have hfit : xs.length * i.size + news.length ≤ cur.size := by rw [hsize, hcs]; omega
      have hr := run_append_room (P := P) w t ty e i ht hi g xs.length cap cur hg ⟨ag, ao, none⟩ news.length c news hl hnews h1 hroom hfit
      rw [hsize, Nat.mul_one] at hr
      rw [Nat.mul_one] at htake
      refine ⟨_, _, hr, ?_, (chg_setRow _ hg).mono (fun k _ _ hk => by rw [hk]; rfl)⟩
      unfold Own1
      rw [hlen1]
      refine ⟨hlen, .inr ⟨g, cap, _, rfl, hbg, setRow_heap w g cur _ e _ hg, hroom, hcm, ?_, ?_⟩⟩
      · simp only [List.size_toArray, List.length_append, List.length_take, List.length_drop, Array.length_toList]
        omega
      · rw [htake, Nat.mul_one, ← hlen1]
        exact List.take_left
    · have holds : ∀ j u, xs[j]? = some u → w.cell? ((⟨g, 0, none⟩ : Addr).add j) = some u := World.ownsRow.cells hown (g := g) rfl
      have hr := run_append_grow (P := P) w t ty e i z ht hi hz ⟨g, 0, none⟩ xs.length cap xs hxl holds ⟨ag, ao, none⟩ news.length c news hl hnews (by omega) (by omega) (growslice_fits (by omega) hbytes)
      exact ⟨_, _, hr, grown cap (by omega), ((Chg.refl _ _).drew).alloc _⟩
theorem wp_append_chg (w : World) {o : Oper} {a : Act} {K : Act → World → Prop} {Q : Exit → Act → World → Prop} (s x : Operand) (t : TypeId)
    (ho : o.op = .call { callee := .builtin .append, args := #[s, x], argTypes := #[t, t] })
    (base : Nat) (e : TypeId) (i : TypeInfo) (z : Value) (bytes : Nat) (ht : P.underlying t = some (.slice e)) (hi : P.info? e = some i) (hz : i.zero = some z)
    (hsize : i.size = 1) (hby : i.bytes = bytes) (hzs : z.cells.size = 1)
    (v : Value) (xs : List Value) (hs : a.eval s = v) (hown : Own1 w base e v xs)
    (y : Value) (news : List Value) (hx : a.eval x = y) (hy : Reads w y news) (h1 : ∀ u ∈ news, u.oneCell' = true)
    (h63 : xs.length + news.length ≤ maxLen) (hbytes : (xs.length + news.length) * bytes ≤ 140737488355328) (hbase : base ≤ w.heap.size)
    (h : ∀ v' w', Own1 w' base e v' (xs ++ news) → Chg (fun k _ => v.ownBlock = some k) w w' → K (a.put o.dst v') w') : o.wp P a w K Q := by
  obtain ⟨v', w', hr, h2, h3⟩ := run_append_chg (P := P) w base t o.type e i z bytes ht hi hz hsize hby hzs v xs hown y news hy h1 h63 hbytes hbase
  unfold Oper.wp execOp
  simp only [ho, resolve, invoke, builtin, Sem.run_bind, Sem.run_pure, Result.andThen_ok, List.map_toArray, List.map_cons, List.map_nil, hs, hx, hr]
  exact h v' w' h2 h3
theorem wpList_append_chg {w : World} {ops : Array Oper} {rest : List Oper} {o : Oper} {a : Act} {Q : Exit → Act → World → Prop} (hgd : o.guard = none) (s x : Operand) (t : TypeId)
    (ho : o.op = .call { callee := .builtin .append, args := #[s, x], argTypes := #[t, t] })
    (base : Nat) (e : TypeId) (i : TypeInfo) (z : Value) (bytes : Nat) (ht : P.underlying t = some (.slice e)) (hi : P.info? e = some i) (hz : i.zero = some z)
    (hsize : i.size = 1) (hby : i.bytes = bytes) (hzs : z.cells.size = 1)
    (v : Value) (xs : List Value) (hs : a.eval s = v) (hown : Own1 w base e v xs)
    (y : Value) (news : List Value) (hx : a.eval x = y) (hy : Reads w y news) (h1 : ∀ u ∈ news, u.oneCell' = true)
    (h63 : xs.length + news.length ≤ maxLen) (hbytes : (xs.length + news.length) * bytes ≤ 140737488355328) (hbase : base ≤ w.heap.size)
    (h : ∀ v' w', Own1 w' base e v' (xs ++ news) → Chg (fun k _ => v.ownBlock = some k) w w' → wpList P ops Q rest (a.put o.dst v') w') : wpList P ops Q (o :: rest) a w :=
  wpList_plain hgd fun _ hK => wp_append_chg w s x t ho base e i z bytes ht hi hz hsize hby hzs v xs hs hown y news hx hy h1 h63 hbytes hbase fun v' w' h2 h3 => hK _ _ (h v' w' h2 h3)
end
end Go.Proofs.YtameepdbnnaaaaaGreatDoor
