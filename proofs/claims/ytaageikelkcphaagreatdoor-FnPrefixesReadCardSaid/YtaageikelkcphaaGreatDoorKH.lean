/- Part 8 of the proof: the texts G, MK, H, HA, P1, joined. What each proves stands ahead of it. -/
import Derived.Test.YtaageikelkcphaaGreatDoorKD
import Derived.Test.YtaageikelkcphaaGreatDoorKG
import Derived.Test.YtaageikelkcphaaGreatDoorKC
import Derived.Deep.OwnRows
import Derived.Laws.LoneSync
set_option linter.unusedVariables false
set_option linter.unusedSimpArgs false
/- A batch of numbers of n bits. -/
namespace Go.Proofs.YtaageikelkcphaaGreatDoor
open Go Go.RowKit
/-- What may turn at a batch. -/
def GT (c : RC) (ob oo len : Nat) : Nat → Nat → Prop := fun k x => k = c.B ∨ (k = c.rb ∧ c.ro ≤ x ∧ x < c.ro + 3) ∨ (k = ob ∧ oo ≤ x ∧ x < oo + len)
/-- Where the batch goes. -/
structure Dst (c : RC) (w : World) (ob oo len : Nat) : Prop where
  oth : ∀ j, j < len → ∃ u, w.cell? ⟨ob, oo + j, none⟩ = some u
  ofr : ∀ j, j < len → w.frozen? ⟨ob, oo + j, none⟩ = false
  nB : ob ≠ c.B
  nr : ob ≠ c.rb
  nb : ob ≠ c.b
  g : 4 < ob
theorem Dst.keep {c : RC} {w w' : World} {ob oo len : Nat} (h : Dst c w ob oo len) {S : Nat → Nat → Prop} (hc : Chg S w w') (hS : ∀ j, j < len → ¬ S ob (oo + j)) : Dst c w' ob oo len :=
  ⟨fun j hj => let ⟨u, hu⟩ := h.oth j hj; ⟨u, hc.keep hu (hS j hj)⟩, fun j hj => let ⟨u, hu⟩ := h.oth j hj; (hc.frozen _ _ (World.block_lt_of_cell? w _ hu)).trans (h.ofr j hj), h.nB, h.nr, h.nb, h.g⟩
theorem Dst.put {c : RC} {w : World} {ob oo len : Nat} (h : Dst c w ob oo len) (x : Nat) (v : Value) : Dst c (w.setCell ⟨ob, x, none⟩ v) ob oo len :=
  ⟨fun j hj => cell_is v (h.oth j hj), fun j hj => by rw [World.frozen?_setCell]; exact h.ofr j hj, h.nB, h.nr, h.nb, h.g⟩
/-- What is known behind k numbers. -/
structure GB (c : RC) (ob oo len n p : Nat) (w wr : World) (k o1 f1 : Nat) : Prop where
  chg : Chg (GT c ob oo len) w wr
  out : ∀ j, j < k → wr.cell? ⟨ob, oo + j, none⟩ = some (.int .u64 (bitsV c.D (p + j * n) n))
  dst : Dst c wr ob oo len
  rs : RS c wr o1 f1
  pos : 8 * o1 + f1 = p + k * n
/-- A store behind 'next'. -/
theorem GB.step {c : RC} {ob oo len n p k o1 f1 o2 f2 : Nat} {w wr w1 : World} (h : GB c ob oo len n p w wr k o1 f1) (hk : k < len) (hc : Chg (Own c.B) wr w1) (h2 : RS c w1 o2 f2) (hp : 8 * o2 + f2 = 8 * o1 + f1 + n) :
    GB c ob oo len n p w (w1.setCell ⟨ob, oo + k, none⟩ (.int .u64 (bitsV c.D (8 * o1 + f1) n))) (k + 1) o2 f2 := by
  have hd := h.dst.keep hc (fun j hj hh => h.dst.nB hh)
  refine ⟨(h.chg.comp hc (fun _ _ _ h => h) (fun _ _ _ h => .inl h)).setCell _ _ (fun _ => .inr (.inr ⟨rfl, by omega, by omega⟩)) _, ?_, hd.put _ _, ?_, ?_⟩
  · intro j hj
    by_cases hjk : j = k
    · subst hjk
      obtain ⟨u, hu⟩ := hd.oth j (by omega)
      rw [h.pos]
      exact World.cell?_setCell_same _ _ _ hu
    · exact cell_ne _ (hc.keep (h.out j (by omega)) (fun hh => h.dst.nB hh)) (by omega)
  · have hc1 := (Chg.refl (Own ob) w1).own (oo + k) (.int .u64 (bitsV c.D (8 * o1 + f1) n))
    exact h2.keep hc1 (by rintro a x rfl; exact ⟨hd.nb, hd.nr, hd.nB, hd.g⟩)
  · have e1 : (k + 1) * n = k * n + n := Nat.succ_mul k n
    have e2 := h.pos
    omega
theorem nil_Seek (a : Addr) (w : World) : (nilAhead 276 92 (.pointer (some a)) "Seek").run Tryz.prog w = .ok (some false) w := by kernel_rfl
theorem method_Seek (a : Addr) (w : World) : (method 276 92 (.pointer (some a)) "Seek").run Tryz.prog w = .ok (131, .pointer (some a)) w := by kernel_rfl
/-- What turns only the bytes.Reader. -/
theorem RS.seek {c : RC} {w w' : World} {o f : Nat} (h : RS c w o f) {S : Nat → Nat → Prop} (hc : Chg S w w') (hS : ∀ k x, S k x → k = c.rb) (hr : ∃ i pr, Rdr w' c.rb c.ro c.b c.bo c.L c.C i pr) : RS c w' o f :=
  ⟨h.env.keepR hc (fun k x hh => by rw [hS k x hh]; exact ⟨fun e => h.env.br e.symm, h.env.gr⟩) hr, h.hf, let ⟨buf, vb, hb, hq⟩ := h.br; ⟨buf, vb, hb.keep hc (fun x hh => h.env.rB (hS _ _ hh).symm), hq⟩⟩
theorem min_ok (a b : Int) (w : World) : Calls Tryz.prog 30 #[.int .i64 a, .int .i64 b] w fun e w' => e = .returned (.int .i64 (min a b)) ∧ w' = w := by
  go_enter Tryz.func30, Tryz.ntmps30
  by_cases h : a < b
  · go_wp2
    go_ret
    exact ⟨ret_int' (by omega), rfl⟩
  · go_wp2
    go_ret
    exact ⟨ret_int' (by omega), rfl⟩
set_option maxRecDepth 100000 in
set_option maxHeartbeats 1000000 in
theorem getBatch_ok (c : RC) (o f n ob oo len cap : Nat) (w : World) (h : RS c w o f) (hd : Dst c w ob oo len) (hn1 : 1 ≤ n) (hn : n ≤ 64) (hp : 8 * o + f + len * n ≤ 8 * c.L) (hlen : len ≤ cap) (hcap : cap ≤ 1000000000000000000) :
    Calls Tryz.prog 56 #[.pointer (some ⟨c.B, 0, none⟩), .int .u64 n, .slice (some ⟨ob, oo, none⟩) len cap] w fun e w' =>
      e = .returned (.tuple #[.int .i64 len, .nilIface]) ∧ Chg (GT c ob oo len) w w' ∧ (∀ j, j < len → w'.cell? ⟨ob, oo + j, none⟩ = some (.int .u64 (bitsV c.D (8 * o + f + j * n) n))) ∧ ∃ o' f', 8 * o' + f' = 8 * o + f + len * n ∧ NS c w' o' f' := by
  obtain ⟨p, hpp⟩ : ∃ p, p = 8 * o + f := ⟨_, rfl⟩
  rw [← hpp] at hp ⊢
  have h0 : GB c ob oo len n p w w 0 o f := ⟨Chg.refl _ _, fun j hj => by omega, hd, h, by omega⟩
  have hL := h.env.hL
  have hC := h.env.hC
  have hLb := h.env.hLb
  have hpk : ∀ k, k < len → p + k * n + n ≤ 8 * c.L := by
    intro k hk
    have : (k + 1) * n ≤ len * n := Nat.mul_le_mul_right _ hk
    rw [Nat.succ_mul] at this
    omega
  have H0 := Lib.hid h0; clear h0
  have Hpk := Lib.hid hpk; clear hpk
  have Hp := Lib.hid hp; clear hp
  clear h hd
  go_enter Tryz.func56, Tryz.ntmps56
  go_upto_block 0 with fail
  go_cut [9] (fun i wx => ∃ k o1 f1, k ≤ len ∧ i = .int .i64 k ∧ GB c ob oo len n p w wx k o1 f1 ∧ (k < len → f1 = 0))
  case first =>
    clear hpp
    go_wp2_with fail
    go_loopw [9] (fun i wx => ∃ k o1 f1, k ≤ len ∧ i = .int .i64 k ∧ GB c ob oo len n p w wx k o1 f1) (fun i _ => len - (intOf i).toNat)
    case atStart => exact ⟨0, o, f, Nat.zero_le _, rfl, H0.out⟩
    case round =>
      obtain ⟨k, o1, f1, hk, rfl, hG⟩ := hrel
      have HG := Lib.hid hG; clear hG
      by_cases hlt : k < len
      · obtain ⟨buf, vb, hb, -⟩ := HG.out.rs.br
        have c3 := hb.bi
        clear hb
        by_cases hf : f1 = 0
        · subst hf
          go_wp2_with fail
          go_meet
          exact ⟨k, o1, 0, hk, rfl, HG.out, fun _ => rfl⟩
        · have hf' : ¬ (f1 : Int) = 0 := by omega
          have hcall := next_ok c o1 f1 n wr (HG.out.rs.ns (by omega)) hn (by rw [HG.out.pos]; exact Hpk.out k hlt)
          have Hcall := Lib.hid hcall; clear hcall
          go_wp2_with fail
          refine Hcall.out.mono ?_
          rintro e w1 ⟨rfl, h1, o2, f2, h2, -, h3⟩
          have hG2 := HG.out.step hlt h1 h3.rs h2
          have hdd := HG.out.dst.keep h1 (fun j hj hh => HG.out.dst.nB hh)
          obtain ⟨u, hu⟩ := hdd.oth k hlt
          have hfz := hdd.ofr k hlt
          have HG2 := Lib.hid hG2; clear hG2
          clear h1 h2 h3 hdd
          go_wp2_with fail
          go_roundw
          case rel => exact ⟨k + 1, o2, f2, by omega, by go_num, HG2.out⟩
          case measure => simp [intOf]; omega
      · go_wp2_with fail
        go_meet
        exact ⟨k, o1, f1, hk, rfl, HG.out, fun h => absurd h hlt⟩
  case rest =>
    obtain ⟨k, o1, f1, hk, rfl, hG, hkf⟩ := hcut
    have HG := Lib.hid hG; clear hG
    clear H0
    go_upto_if 53 with fail
    go_cut [9] (fun i wx => ∃ k o1 f1, k ≤ len ∧ i = .int .i64 k ∧ GB c ob oo len n p w wx k o1 f1)
    case first =>
      by_cases hn32 : n ≤ 32
      · obtain ⟨buf, vb, hb, hbq⟩ := HG.out.rs.br
        obtain ⟨ri, rp, hr⟩ := HG.out.rs.env.rdr
        have Hr := Lib.hid hr; clear hr
        have c0 := hb.rd
        have c2 := hb.bo
        have HB := Lib.hid hb; clear hb
        have Hbq := Lib.hid hbq; clear hbq
        go_wp2_with fail
        have Hn := nil_Seek
        have Hm := method_Seek
        refine wp_region_txt [] (by kernel_rfl) (by kernel_rfl) ?_
        repeat (first | (refine wpTxt_pure rfl rfl (fun K hK => ?_); go_simp; refine hK _ ?_; clear hK K) | (refine wpTxt_still rfl rfl (fun K hK => ?_); go_simp; refine hK _ ?_; clear hK K))
        refine wpTxt_effect rfl rfl (fun K hK => ?_)
        go_simp
        refine (seek_start c.rb c.ro c.b c.bo c.L c.C o1 ri rp _ Hr.out.drew).mono ?_
        rintro e w1 ⟨rfl, h1, h2⟩
        have h1' := h1.undrew
        have hG1 : GB c ob oo len n p w w1 k o1 f1 :=
          ⟨HG.out.chg.comp h1' (fun _ _ _ h => h) (fun _ _ _ h => .inr (.inl h)), fun j hj => h1'.keep (HG.out.out j hj) (fun h => HG.out.dst.nr h.1), HG.out.dst.keep h1' (fun j hj h => HG.out.dst.nr h.1), HG.out.rs.seek h1' (fun _ _ h => h.1) ⟨_, _, h2⟩, HG.out.pos⟩
        have HG1 := Lib.hid hG1; clear hG1
        have Hr1 := Lib.hid h2; clear h2
        clear h1 h1' c0 c2 Hr HB Hbq HG Hn Hm
        (refine hK _ _ ?_; clear hK K)
        repeat (first | (refine wpTxt_pure rfl rfl (fun K hK => ?_); go_simp; refine hK _ ?_; clear hK K) | (refine wpTxt_still rfl rfl (fun K hK => ?_); go_simp; refine hK _ ?_; clear hK K))
        refine wpTxt_nil ?_
        go_wp2_with fail
        go_loopw [9] (fun i wx => ∃ k o1 f1 pr, k ≤ len ∧ i = .int .i64 k ∧ GB c ob oo len n p w wx k o1 f1 ∧ (k < len → f1 = 0) ∧ Rdr wx c.rb c.ro c.b c.bo c.L c.C o1 pr) (fun i _ => len - (intOf i).toNat)
        case atStart => exact ⟨k, o1, f1, _, hk, rfl, HG1.out, hkf, Hr1.out⟩
        case round =>
          clear hkf Hr1 HG1 hk hpp
          obtain ⟨k2, o2, f2, pr, hk2, rfl, hG, hkf, hr⟩ := hrel
          have HG := Lib.hid hG; clear hG
          have Hr := Lib.hid hr; clear hr
          by_cases hlt : k2 < len
          · obtain rfl := hkf hlt
            go_wp2_with fail
            clear hkf
            obtain ⟨m, hm⟩ : ∃ m : Nat, m = min 1024 (len - k2) := ⟨_, rfl⟩
            have hm1 : m ≤ 1024 := by omega
            have hm0 : 0 < m := by omega
            have hmk : k2 + m ≤ len := by omega
            have hmi : min (1024 : Int) ((len : Int) - k2) = (m : Nat) := by omega
            have hq : 8 * (o2 + m / 32 * (4 * n)) = p + (k2 + m / 32 * 32) * n := by
              have e1 : (k2 + m / 32 * 32) * n = k2 * n + m / 32 * 32 * n := Nat.add_mul _ _ _
              have e2 : 8 * (m / 32 * (4 * n)) = m / 32 * 32 * n := by rw [Nat.mul_left_comm, ← Nat.mul_assoc 8 4 n, ← Nat.mul_assoc]
              have := HG.out.pos
              omega
            have hqL : o2 + m / 32 * (4 * n) ≤ c.L := by
              have e1 : (k2 + m / 32 * 32) * n ≤ len * n := Nat.mul_le_mul_right _ (by omega)
              have := Hp.out
              omega
            have Hm := Lib.hid hm; clear hm
            have Hmi := Lib.hid (min_ok 1024 ((len : Int) - k2))
            have Hmi2 := Lib.hid hmi; clear hmi
            have Hq := Lib.hid hq; clear hq
            obtain ⟨buf, vb, hb, -⟩ := HG.out.rs.br
            have c0 := hb.rd
            have HB := Lib.hid hb; clear hb
            refine (Hmi.out _).mono ?_
            rintro e w2 ⟨rfl, rfl⟩
            rw [Hmi2.out]
            clear Hmi
            have hwn : IntKind.i64.wrap (n : Int) = n := IntWalk.i64_in _ (by omega)
            have hmt : ((m : Nat) : Int).toNat = m := by omega
            have hm00 : 0 ≤ (m : Int) := by omega
            have hm11 : (m : Int) ≤ 1024 := by omega
            go_wp2_with fail
            refine wp_region_txt [] (by kernel_rfl) (by kernel_rfl) ?_
            repeat (first | (refine wpTxt_pure rfl rfl (fun K hK => ?_); go_simp; refine hK _ ?_; clear hK K) | (refine wpTxt_still rfl rfl (fun K hK => ?_); go_simp; refine hK _ ?_; clear hK K))
            refine wpTxt_effect rfl rfl (fun K hK => ?_)
            go_simp
            refine (unpack32_ok c.rb c.ro c.b c.bo c.L c.C c.B 13 m 1024 o2 n pr c.D _ Hr.out.drew HG.out.rs.env.data.drew hn1 hn32 hqL hL hC HG.out.rs.env.br HG.out.rs.env.bB HG.out.rs.env.rB hm1 (by omega) (fun j hj => HB.out.up j (by omega)) (fun j hj => HB.out.fr _ (by omega))).mono ?_
            rintro e w3 ⟨rfl, h1, ⟨pr3, h2⟩, h3⟩
            obtain ⟨N, hN⟩ : ∃ N, N = m / 32 * 32 := ⟨_, rfl⟩
            rw [show 32 * (m / 32) = N by omega] at h1 h3
            rw [← hN]
            have hNm : N ≤ m := by omega
            have hN32 : N < 32 → m < 32 := by omega
            have h1' := h1.undrew
            have hB3 : BR w3 c.B c.rb c.ro o2 0 buf vb := HB.out.keep5 h1' (by rintro x hx (hh | hh) <;> have := HG.out.rs.env.rB <;> omega) (by
              rintro j hj (hh | hh)
              · exact absurd hh.1 (fun e => HG.out.rs.env.rB e.symm)
              · have e1 : 5 + j = 13 + (j - 8) := by omega
                rw [e1]
                exact ⟨_, h3 (j - 8) (by omega)⟩)
            have hG3 : GB c ob oo len n p w w3 k2 o2 0 := by
              have hno : ∀ x, ¬ ((ob = c.rb ∧ c.ro ≤ x ∧ x < c.ro + 3) ∨ (ob = c.B ∧ 13 ≤ x ∧ x < 13 + N)) := by
                rintro x (hh | hh)
                · exact HG.out.dst.nr hh.1
                · exact HG.out.dst.nB hh.1
              refine ⟨HG.out.chg.comp h1' (fun _ _ _ h => h) (by rintro a x ha (hh | hh); exact .inr (.inl hh); exact .inl hh.1), fun j hj => h1'.keep (HG.out.out j hj) (hno _), HG.out.dst.keep h1' (fun j _ => hno _), ⟨?_, by omega, buf, vb, hB3, fun h => by omega⟩, HG.out.pos⟩
              refine HG.out.rs.env.keepR h1' ?_ ⟨_, _, h2⟩
              rintro a x (hh | hh)
              · rw [hh.1]; exact ⟨fun e => HG.out.rs.env.br e.symm, HG.out.rs.env.gr⟩
              · rw [hh.1]; exact ⟨fun e => HG.out.rs.env.bB e.symm, HG.out.rs.env.gB⟩
            have hu3 : ∀ j, j < N → w3.cell? ⟨c.B, 13 + j, none⟩ = some (.int .u32 (bitsV c.D (p + (k2 + j) * n) n)) := by
              intro j hj
              have e1 : (k2 + j) * n = k2 * n + j * n := Nat.add_mul _ _ _
              have e2 : 8 * o2 + j * n = p + (k2 + j) * n := by have := HG.out.pos; omega
              have := h3 j hj
              rwa [e2] at this
            have HG3 := Lib.hid hG3; clear hG3
            have HB3 := Lib.hid hB3; clear hB3
            have Hu3 := Lib.hid hu3; clear hu3
            have Hr3 := Lib.hid h2; clear h2
            have HN := Lib.hid hN; clear hN
            clear h1 h1' h3 c0 HB HG Hr
            (refine hK _ _ ?_; clear hK K)
            repeat (first | (refine wpTxt_pure rfl rfl (fun K hK => ?_); go_simp; refine hK _ ?_; clear hK K) | (refine wpTxt_still rfl rfl (fun K hK => ?_); go_simp; refine hK _ ?_; clear hK K))
            refine wpTxt_nil ?_
            go_wp2_with fail
            go_loopw [17] (fun i wx => ∃ j, j ≤ N ∧ i = .int .i64 j ∧ Chg (fun a x => a = ob ∧ oo + k2 ≤ x ∧ x < oo + k2 + N) w3 wx ∧ Dst c wx ob oo len ∧ ∀ i, i < j → wx.cell? ⟨ob, oo + (k2 + i), none⟩ = some (.int .u64 (bitsV c.D (p + (k2 + i) * n) n))) (fun i _ => N - (intOf i).toNat)
            case atStart => exact ⟨0, Nat.zero_le _, rfl, Chg.refl _ _, HG3.out.dst, fun i hi => by omega⟩
            case round =>
              obtain ⟨j, hj, rfl, hc4, hd4, ho4⟩ := hrel
              by_cases hjN : j < N
              · have hcell := hc4.keep (Hu3.out j hjN) (fun hh => hd4.nB hh.1.symm)
                obtain ⟨u, hu⟩ := hd4.oth (k2 + j) (by omega)
                have hfz := hd4.ofr (k2 + j) (by omega)
                obtain ⟨V, hV⟩ : ∃ V, V = bitsV c.D (p + (k2 + j) * n) n := ⟨_, rfl⟩
                have hVlt : (V : Int) < 4294967296 := by
                  have := bitsV_lt c.D n (p + (k2 + j) * n)
                  have h5 : (2 : Nat) ^ n ≤ 2 ^ 32 := Nat.pow_le_pow_right (by decide) hn32
                  omega
                rw [← hV] at hcell
                have HV := Lib.hid hV; clear hV
                have Hc4 := Lib.hid hc4; clear hc4
                have Hd4 := Lib.hid hd4; clear hd4
                have Ho4 := Lib.hid ho4; clear ho4
                have hkj : ((k2 : Int) + j).toNat = k2 + j := by omega
                go_wp2_with fail
                go_roundw
                case rel =>
                  refine ⟨j + 1, by omega, rfl, Hc4.out.setCell _ _ (fun _ => ⟨rfl, by omega, by omega⟩) _, Hd4.out.put _ _, ?_⟩
                  intro i hi
                  by_cases hij : i = j
                  · subst hij
                    rw [← HV.out]
                    exact World.cell?_setCell_same _ _ _ hu
                  · exact cell_ne _ (Ho4.out i (by omega)) (by omega)
                case measure => simp [intOf]; omega
              · have hje : j = N := by omega
                subst hje
                obtain ⟨Q, hQ⟩ : ∃ Q, Q = j * n := ⟨_, rfl⟩
                obtain ⟨o3, ho3⟩ : ∃ o3, o3 = o2 + m / 32 * (4 * n) := ⟨_, rfl⟩
                have hQ1 : Q ≤ 1024 * 32 := by rw [hQ]; exact Nat.mul_le_mul (by omega) hn32
                have hQi : (j : Int) * n = Q := by rw [hQ]; norm_cast
                have hQ8 : Q / 8 = m / 32 * (4 * n) := by
                  have e2 : 8 * (m / 32 * (4 * n)) = m / 32 * 32 * n := by rw [Nat.mul_left_comm, ← Nat.mul_assoc 8 4 n, ← Nat.mul_assoc]
                  rw [← HN.out] at e2
                  omega
                have hq3 : (o2 : Int) + Q / 8 = o3 := by omega
                have ho3L : o3 ≤ c.L := by omega
                have hB4 := HB3.out.keep hc4 (fun x hh => hd4.nB hh.1.symm)
                have c2 := hB4.bo
                have f2' := hB4.fr 2 (by omega)
                obtain ⟨k3, hk3⟩ : ∃ k3, k3 = k2 + j := ⟨_, rfl⟩
                have hk3i : (k2 : Int) + j = k3 := by omega
                have hG5 : GB c ob oo len n p w (wr.setCell ⟨c.B, 2, none⟩ (.int .i64 o3)) k3 o3 0 := by
                  have hc5 := (Chg.refl (Own c.B) wr).own 2 (.int .i64 o3)
                  have he4 : Env c wr := HG3.out.rs.env.keep hc4 (by rintro a x ⟨rfl, -⟩; exact ⟨hd4.nb, hd4.nr, hd4.g⟩)
                  refine ⟨(HG3.out.chg.comp hc4 (fun _ _ _ h => h) (by rintro a x ha ⟨rfl, h1, h2⟩; exact .inr (.inr ⟨rfl, by omega, by omega⟩))).comp hc5 (fun _ _ _ h => h) (fun _ _ _ h => .inl h), ?_, hd4.keep hc5 (fun j _ h => hd4.nB h), ⟨he4.keepB hc5 (fun _ _ h => h), by omega, buf, vb, hB4.off' o3, fun h => by omega⟩, ?_⟩
                  · intro i hi
                    refine hc5.keep ?_ (fun h => hd4.nB h)
                    by_cases hik : i < k2
                    · exact hc4.keep (HG3.out.out i hik) (by rintro ⟨-, h, -⟩; omega)
                    · have := ho4 (i - k2) (by omega)
                      rwa [show k2 + (i - k2) = i by omega] at this
                  · have := Hq.out
                    rw [← HN.out, ← ho3, ← hk3] at this
                    omega
                have hR5 : Rdr (wr.setCell ⟨c.B, 2, none⟩ (.int .i64 o3)) c.rb c.ro c.b c.bo c.L c.C o3 pr3 := by
                  have hc5 := (Chg.refl (Own c.B) wr).own 2 (.int .i64 o3)
                  have := Hr3.out.keep hc4 (fun j _ hh => hd4.nr hh.1.symm)
                  rw [← ho3] at this
                  exact this.keep hc5 (fun j _ hh => HG3.out.rs.env.rB hh)
                have HG5 := Lib.hid hG5; clear hG5
                have HR5 := Lib.hid hR5; clear hR5
                have hk3l : k3 ≤ len := by omega
                have HQ8 := Lib.hid hQ8; clear hQ8
                have Hk3 := Lib.hid hk3; clear hk3
                have Ho3 := Lib.hid ho3; clear ho3
                have HQ := Lib.hid hQ; clear hQ
                clear ho4 hc4 hB4
                by_cases hj0 : j = 0
                · have hj0' : (j : Int) = 0 := by omega
                  go_wp2_with fail
                  go_meet
                  have e3 : k3 = k2 := by have := Hk3.out; omega
                  have e4 : o3 = o2 := by
                    have := HQ.out
                    rw [hj0, Nat.zero_mul] at this
                    have := HQ8.out
                    have := Ho3.out
                    omega
                  have h5 := HG5.out
                  rw [e3, e4] at h5
                  exact ⟨k2, o2, 0, hk2, rfl, h5⟩
                · have hj0' : ¬ (j : Int) = 0 := by omega
                  go_wp2_with fail
                  go_roundw
                  case rel => exact ⟨k3, o3, 0, pr3, hk3l, rfl, HG5.out, fun _ => rfl, HR5.out⟩
                  case measure => simp [intOf]; have := Hk3.out; omega
          · go_wp2_with fail
            go_meet
            exact ⟨k2, o2, f2, hk2, rfl, HG.out⟩
      · go_wp2_with fail
        go_meet
        exact ⟨k, o1, f1, hk, rfl, HG.out⟩
    case rest =>
      clear hk hkf HG hpp
      obtain ⟨k2, o2, f2, hk2, rfl, hG⟩ := hcut
      obtain ⟨buf, vb, hb, -⟩ := hG.rs.br
      have hcall := fill_ok c o2 f2 buf vb wc hG.rs.env hb hG.rs.hf
      have Hcall := Lib.hid hcall
      have HG := Lib.hid hG
      clear hcall hG hb
      go_wp2_with fail
      refine Hcall.out.mono ?_
      rintro e w1 ⟨rfl, h1, h2⟩
      have hG1 : GB c ob oo len n p w w1 k2 o2 f2 := ⟨HG.out.chg.comp h1 (fun _ _ _ h => h) (fun _ _ _ h => .inl h), fun j hj => h1.keep (HG.out.out j hj) (fun h => HG.out.dst.nB h), HG.out.dst.keep h1 (fun j hj h => HG.out.dst.nB h), h2.rs, HG.out.pos⟩
      have HG1 := Lib.hid hG1; clear hG1
      have H2 := Lib.hid h2; clear h2
      clear h1 HG Hcall
      go_wp2_with fail
      go_loopw [9] (fun i wx => ∃ k o1 f1, k ≤ len ∧ i = .int .i64 k ∧ GB c ob oo len n p w wx k o1 f1 ∧ NS c wx o1 f1) (fun i _ => len - (intOf i).toNat)
      case atStart => exact ⟨k2, o2, f2, hk2, rfl, HG1.out, H2.out⟩
      case round =>
        obtain ⟨k, o1, f1, hk, rfl, hG, hN⟩ := hrel
        have HG := Lib.hid hG; clear hG
        have HN := Lib.hid hN; clear hN
        by_cases hlt : k < len
        · have hcall := next_ok c o1 f1 n wr HN.out hn (by rw [HG.out.pos]; exact Hpk.out k hlt)
          have Hcall := Lib.hid hcall; clear hcall
          go_wp2_with fail
          refine Hcall.out.mono ?_
          rintro e w1 ⟨rfl, h1, o2, f2, h2, -, h3⟩
          have hG2 := HG.out.step hlt h1 h3.rs h2
          have hdd := HG.out.dst.keep h1 (fun j hj hh => HG.out.dst.nB hh)
          obtain ⟨u, hu⟩ := hdd.oth k hlt
          have hfz := hdd.ofr k hlt
          have hN2 := h3.keep ((Chg.refl (Own ob) w1).own (oo + k) (.int .u64 (bitsV c.D (8 * o1 + f1) n))) (by rintro a x rfl; exact ⟨hdd.nb, hdd.nr, hdd.nB, hdd.g⟩)
          have HG2 := Lib.hid hG2; clear hG2
          have HN2 := Lib.hid hN2; clear hN2
          clear h1 h2 h3 hdd
          go_wp2_with fail
          go_roundw
          case rel => exact ⟨k + 1, o2, f2, by omega, by go_num, HG2.out, HN2.out⟩
          case measure => simp [intOf]; omega
        · have hke : k = len := by omega
          subst hke
          go_wp2_with fail
          go_ret2
          exact ⟨rfl, HG.out.chg, HG.out.out, o1, f1, HG.out.pos, HN.out⟩
end Go.Proofs.YtaageikelkcphaaGreatDoor
/- Made rows. -/
namespace Go.Proofs.YtaageikelkcphaaGreatDoor
open Go Go.RowKit
theorem made_at (z : Value) (n j : Nat) (h : j < n) : (madeCells #[z] n)[j]? = some z := by
  simp [madeCells, h, Nat.mod_one]
theorem made_cell (w : World) (z : Value) (n j : Nat) (t : TypeId) (h : j < n) : (w.alloc (.cells (madeCells #[z] n) t)).cell? ⟨w.heap.size, j, none⟩ = some z := by
  rw [World.cell?_alloc_new]; exact made_at z n j h
theorem make_bytes (n : Nat) (h2 : n ≤ 1000000) : ∀ W : World, (Instr.makeSlice 31 (.int .i64 (n : Int)) (.int .i64 (n : Int))).run Tryz.prog W = .ok (.slice (some ⟨W.heap.size, 0, none⟩) n n) (W.alloc (.cells (madeCells #[.int .u8 0] n) 5)) :=
  fun W => run_make_row' (P := Tryz.prog) 31 5 (.int .u8 0) 1 (by kernel_rfl) (by kernel_rfl) rfl .i64 .i64 n (by omega) (by omega) W
end Go.Proofs.YtaageikelkcphaaGreatDoor
/- memory.Buffer as the decoders of deltas use it: made, resized to at most 64 bytes, its bytes. -/
namespace Go.Proofs.YtaageikelkcphaaGreatDoor
open Go Go.RowKit
theorem round_all : ∀ a : Fin 65, a.val ≠ 0 → bits .and .i64 ((a.val : Int) + 63) (bits .xor .i64 (-1) 63) = 64 := by decide
set_option maxRecDepth 100000 in
set_option maxHeartbeats 1000000 in
theorem round64_ok (n : Nat) (w : World) (h1 : 1 ≤ n) (h2 : n ≤ 64) :
    Calls Tryz.prog 65 #[.int .i64 n] w fun e w' => e = .returned (.int .i64 64) ∧ w' = w := by
  have h := round_all ⟨n, by omega⟩ (by show n ≠ 0; omega)
  have H := Lib.hid (ret_int' (k := .i64) h); clear h
  go_enter Tryz.func65, Tryz.ntmps65
  go_wp2
  go_ret
  exact ⟨H.out, rfl⟩
set_option maxRecDepth 100000 in
set_option maxHeartbeats 1000000 in
theorem allocate_ok (n : Nat) (w : World) (h2 : n ≤ 1000000) :
    Calls Tryz.prog 122 #[.agg #[], .int .i64 n] w fun e w' => ∃ b, w.heap.size ≤ b ∧ b < w'.heap.size ∧ e = .returned (.slice (some ⟨b, 0, none⟩) n n) ∧ Chg Nix w w' ∧ (∀ j, j < n → w'.cell? ⟨b, j, none⟩ = some (.int .u8 0)) ∧ ∀ j, w'.frozen? ⟨b, j, none⟩ = false := by
  have hmk := make_bytes n h2
  clear h2
  go_enter Tryz.func122, Tryz.ntmps122
  go_wp2
  go_ret
  refine ⟨_, ?_, ?_, rfl, (Chg.new w _).alloc _, fun j hj => by have := made_cell (w.alloc (.cells #[] 42)) (.int .u8 0) n j 5 hj; rwa [World.size_alloc] at this, fun j => by rw [← World.size_alloc w (.cells #[] 42)]; simp⟩ <;> simp
/-- A buffer that can be resized: empty, or of M ≤ 64 bytes in a block of its own. -/
structure MB (w : World) (mb : Nat) (len blen : Nat) (v : Value) : Prop where
  bu : w.cell? ⟨mb, 1, none⟩ = some v
  le : w.cell? ⟨mb, 2, none⟩ = some (.int .i64 len)
  me : w.cell? ⟨mb, 4, none⟩ = some (.iface 42 (.agg #[]))
  fr : ∀ j, w.frozen? ⟨mb, j, none⟩ = false
  vv : (len = 0 ∧ blen = 0 ∧ v = .slice none 0 0) ∨ (0 < len ∧ len ≤ 64 ∧ blen = 64 ∧ ∃ b, v = .slice (some ⟨b, 0, none⟩) 64 64 ∧ b ≠ mb ∧ (∀ j, j < 64 → ∃ u, w.cell? ⟨b, j, none⟩ = some u) ∧ ∀ j, w.frozen? ⟨b, j, none⟩ = false)
theorem nil_Allocate (v : Value) (w : World) : (nilAhead 276 42 (.agg #[]) "Allocate").run Tryz.prog w = .ok (some false) w := by kernel_rfl
theorem method_Allocate (w : World) : (method 276 42 (.agg #[]) "Allocate").run Tryz.prog w = .ok (122, .agg #[]) w := by kernel_rfl
set_option maxRecDepth 100000 in
set_option maxHeartbeats 1000000 in
theorem newBuffer_ok (w : World) :
    Calls Tryz.prog 43 #[.iface 42 (.agg #[])] w fun e w' => e = .returned (.pointer (some ⟨w.heap.size, 0, none⟩)) ∧ Chg Nix w w' ∧ w.heap.size < w'.heap.size ∧ MB w' w.heap.size 0 0 (.slice none 0 0) := by
  have hadd := run_call_add (P := Tryz.prog) Tryz.func58 (by kernel_rfl) (by kernel_rfl) (by kernel_rfl) .i64 (by kernel_rfl) (a := ⟨w.heap.size, 0, none⟩) (x := 0) (y := 1) (s := 1)
    (w := w.alloc (.cells #[.int .i64 0, .slice none 0 0, .int .i64 0, .bool true, .iface 42 (.agg #[]), .pointer none] 119)) (by simp) (by simp) (by rfl)
  go_enter Tryz.func43, Tryz.ntmps43
  go_wp2
  go_ret
  exact ⟨rfl, Chg.new _ _, by simp, ⟨by simp, by simp, by simp, fun j => by simp, .inl ⟨rfl, rfl, rfl⟩⟩⟩
theorem MB.keep {w w' : World} {mb len blen : Nat} {v : Value} (h : MB w mb len blen v) {S : Nat → Nat → Prop} (hc : Chg S w w') (hS : ∀ x, ¬ S mb x) (hV : ∀ b x, v = .slice (some ⟨b, 0, none⟩) 64 64 → ¬ S b x) : MB w' mb len blen v := by
  have hl := World.block_lt_of_cell? w _ h.bu
  refine ⟨hc.keep h.bu (hS _), hc.keep h.le (hS _), hc.keep h.me (hS _), fun j => (hc.frozen _ _ hl).trans (h.fr j), ?_⟩
  rcases h.vv with h1 | ⟨h1, h2, h3, b, rfl, h5, h6, h7⟩
  · exact .inl h1
  · refine .inr ⟨h1, h2, h3, b, rfl, h5, fun j hj => ?_, fun j => ?_⟩
    · obtain ⟨u, hu⟩ := h6 j hj
      exact ⟨u, hc.keep hu (hV b _ rfl)⟩
    · obtain ⟨u, hu⟩ := h6 0 (by omega)
      exact (hc.frozen _ _ (World.block_lt_of_cell? w _ hu)).trans (h7 j)
set_option maxRecDepth 100000 in
set_option maxHeartbeats 1000000 in
theorem reserve_ok (w : World) (mb M : Nat) (h : MB w mb 0 0 (.slice none 0 0)) (hM : 1 ≤ M) (hM2 : M ≤ 64) :
    Calls Tryz.prog 64 #[.pointer (some ⟨mb, 0, none⟩), .int .i64 M] w fun e w' => e = .returned (.tuple #[]) ∧ Chg (Own mb) w w' ∧ ∃ b, w.heap.size ≤ b ∧ w'.cell? ⟨mb, 1, none⟩ = some (.slice (some ⟨b, 0, none⟩) 64 64) ∧ w'.cell? ⟨mb, 2, none⟩ = some (.int .i64 0) ∧ w'.cell? ⟨mb, 4, none⟩ = some (.iface 42 (.agg #[])) ∧ (∀ j, w'.frozen? ⟨mb, j, none⟩ = false) ∧ b ≠ mb ∧ (∀ j, j < 64 → ∃ u, w'.cell? ⟨b, j, none⟩ = some u) ∧ ∀ j, w'.frozen? ⟨b, j, none⟩ = false := by
  have c1 := h.bu
  have c4 := h.me
  have f1 := h.fr 1
  have hlt := World.block_lt_of_cell? w _ c1
  have H := Lib.hid h; clear h
  have Hr := Lib.hid (fun W => round64_ok M W hM hM2)
  have Ha := Lib.hid (allocate_ok 64 w (by omega))
  have Hn := nil_Allocate (.agg #[])
  have Hm := method_Allocate
  have hM0 : ¬ (M : Int) = 0 := by omega
  go_enter Tryz.func64, Tryz.ntmps64
  go_wp2_with fail
  refine (Hr.out _).mono ?_
  rintro e w1 ⟨rfl, rfl⟩
  go_wp2_with fail
  refine Ha.out.mono ?_
  rintro e w2 ⟨b, hb1, hb2, rfl, hc, hz, hf⟩
  have c1' := hc.keep c1 (fun h => h)
  have f1' := (hc.frozen mb 1 hlt).trans f1
  have c2' := hc.keep H.out.le (fun h => h)
  have c4' := hc.keep c4 (fun h => h)
  have Hfr := Lib.hid (fun j => (hc.frozen mb j hlt).trans (H.out.fr j))
  have Hz := Lib.hid hz; clear hz
  have Hf := Lib.hid hf; clear hf
  have Hc := Lib.hid hc; clear hc
  clear c1 f1 c4
  go_wp2_with fail
  go_end0
  have hc2 := (Chg.refl (Own mb) w2).own 1 (.slice (some ⟨b, 0, none⟩) 64 64)
  refine ⟨rfl, (Hc.out.mono (fun _ _ _ h => h.elim)).trans hc2, b, hb1, World.cell?_setCell_same _ _ _ c1', cell_ne _ c2' (by omega), cell_ne _ c4' (by omega), fun j => by rw [World.frozen?_setCell]; exact Hfr.out j, by omega, fun j hj => ⟨_, hc2.keep (Hz.out j hj) (by intro h; have : b = mb := h; omega)⟩, fun j => by rw [World.frozen?_setCell]; exact Hf.out j⟩
set_option maxRecDepth 100000 in
set_option maxHeartbeats 1000000 in
theorem resize_lo (w : World) (mb len blen M : Nat) (v : Value) (h : MB w mb len blen v) (hM : 1 ≤ M) (hM2 : M ≤ 64) (hl : len = 0 ∨ len = M) :
    Calls Tryz.prog 59 #[.pointer (some ⟨mb, 0, none⟩), .int .i64 M, .bool true] w fun e w' => e = .returned (.tuple #[]) ∧ Chg (Own mb) w w' ∧ ∃ b, (len = M → v = .slice (some ⟨b, 0, none⟩) 64 64) ∧ (len = 0 → w.heap.size ≤ b) ∧ MB w' mb M 64 (.slice (some ⟨b, 0, none⟩) 64 64) := by
  have c1 := h.bu
  have c2 := h.le
  have f2 := h.fr 2
  have Hr := Lib.hid (fun W => round64_ok M W hM hM2)
  rcases hl with rfl | rfl
  · have hv : v = .slice none 0 0 ∧ blen = 0 := by
      rcases h.vv with ⟨-, h2, h1⟩ | ⟨h1, -⟩
      · exact ⟨h1, h2⟩
      · omega
    obtain ⟨rfl, rfl⟩ := hv
    have Hs := Lib.hid (reserve_ok w mb M h hM hM2)
    clear h
    have hM0 : 0 < (M : Int) := by omega
    go_enter Tryz.func59, Tryz.ntmps59
    go_wp2_with fail
    refine Hs.out.mono ?_
    rintro e w1 ⟨rfl, hc, b, hb1, d1, d2, d4, df, dn, dc, dz⟩
    clear c1 c2 f2
    have f2' := df 2
    have Hc := Lib.hid hc; clear hc
    have Hdf := Lib.hid df; clear df
    have Hdc := Lib.hid dc; clear dc
    have Hdz := Lib.hid dz; clear dz
    go_wp2_with fail
    go_end0
    have hc2 := (Chg.refl (Own mb) w1).own 2 (.int .i64 M)
    refine ⟨rfl, Hc.out.trans hc2, b, fun h => by omega, fun _ => hb1, ⟨cell_ne _ d1 (by omega), World.cell?_setCell_same _ _ _ d2, cell_ne _ d4 (by omega), fun j => by rw [World.frozen?_setCell]; exact Hdf.out j, .inr ⟨by omega, hM2, rfl, b, rfl, dn, fun j hj => ?_, fun j => by rw [World.frozen?_setCell]; exact Hdz.out j⟩⟩⟩
    obtain ⟨u, hu⟩ := Hdc.out j hj
    exact ⟨u, hc2.keep hu (fun h => dn h)⟩
  · rcases h.vv with ⟨h1, -⟩ | ⟨-, -, rfl, b, rfl, h5, h6, h7⟩
    · omega
    · have H6 := Lib.hid h6; clear h6
      have H7 := Lib.hid h7; clear h7
      have H := Lib.hid h; clear h
      go_enter Tryz.func59, Tryz.ntmps59
      go_wp2_with fail
      refine (Hr.out _).mono ?_
      rintro e w1 ⟨rfl, rfl⟩
      go_wp2_with fail
      go_end0
      have hc2 := (Chg.refl (Own mb) w1).own 2 (.int .i64 len)
      refine ⟨rfl, hc2, b, fun _ => rfl, fun h => by omega, ⟨cell_ne _ c1 (by omega), World.cell?_setCell_same _ _ _ c2, cell_ne _ H.out.me (by omega), fun j => by rw [World.frozen?_setCell]; exact H.out.fr j, .inr ⟨by omega, hM2, rfl, b, rfl, h5, fun j hj => ?_, fun j => by rw [World.frozen?_setCell]; exact H7.out j⟩⟩⟩
      obtain ⟨u, hu⟩ := H6.out j hj
      exact ⟨u, hc2.keep hu (fun h => h5 h)⟩
set_option maxRecDepth 100000 in
set_option maxHeartbeats 1000000 in
theorem resize_ok (w : World) (mb len blen M : Nat) (v : Value) (h : MB w mb len blen v) (hM : 1 ≤ M) (hM2 : M ≤ 64) (hl : len = 0 ∨ len = M) :
    Calls Tryz.prog 53 #[.pointer (some ⟨mb, 0, none⟩), .int .i64 M] w fun e w' => e = .returned (.tuple #[]) ∧ Chg (Own mb) w w' ∧ ∃ b, (len = M → v = .slice (some ⟨b, 0, none⟩) 64 64) ∧ (len = 0 → w.heap.size ≤ b) ∧ MB w' mb M 64 (.slice (some ⟨b, 0, none⟩) 64 64) := by
  have H := Lib.hid (resize_lo w mb len blen M v h hM hM2 hl)
  clear h hM hM2 hl
  go_enter Tryz.func53, Tryz.ntmps53
  go_wp2_with fail
  refine H.out.mono ?_
  rintro e w1 ⟨rfl, h1, h2⟩
  have H1 := Lib.hid h1; clear h1
  have H2 := Lib.hid h2; clear h2
  go_wp2_with fail
  go_end0
  exact ⟨rfl, H1.out, H2.out⟩
set_option maxRecDepth 100000 in
set_option maxHeartbeats 1000000 in
theorem bufBytes_ok (w : World) (mb M b : Nat) (h : MB w mb M 64 (.slice (some ⟨b, 0, none⟩) 64 64)) (hM : 1 ≤ M) (hM2 : M < 64) :
    Calls Tryz.prog 55 #[.pointer (some ⟨mb, 0, none⟩)] w fun e w' => e = .returned (.slice (some ⟨b, 0, none⟩) M 64) ∧ w' = w.drew := by
  have c1 := h.bu
  have c2 := h.le
  have h0 : 0 ≤ (M : Int) := by omega
  have h1 : (M : Int) ≤ 64 := by omega
  have h2 : ((M : Nat) : Int).toNat = M := by omega
  clear h
  go_enter Tryz.func55, Tryz.ntmps55
  go_wp2_with fail
  (refine wp_region_txt [] (by kernel_rfl) (by kernel_rfl) ?_; repeat (first | (refine wpTxt_pure rfl rfl (fun K hK => ?_); go_simp; refine hK _ ?_; clear hK K) | (refine wpTxt_still rfl rfl (fun K hK => ?_); go_simp; refine hK _ ?_; clear hK K)))
  refine wpTxt_nil ?_
  go_wp2_with fail
  go_ret
  exact ⟨rfl, rfl⟩
end Go.Proofs.YtaageikelkcphaaGreatDoor
/- Numbers that are encoded as deltas: mini block by mini block. No program in sight. -/
namespace Go.Proofs.YtaageikelkcphaaGreatDoor
open Go
/-- The running numbers of a mini block: its deltas lie from byte q on, W bits each. -/
def miniX (D : Nat → Nat) (q W : Nat) (md x0 : Int) : Nat → Int
  | 0 => x0
  | j + 1 => RowKit.wrap64 (miniX D q W md x0 j + RowKit.wrap64 ((bitsV D (8 * q + j * W) W : Nat) + md))
/-- From byte q on: the mini blocks that hold xs (each the running number as g reads it); st tells where in a block one is (where its widths lie, the next mini block's number, the least delta). Widths are at most B. -/
inductive Minis (g : Int → Int) (B : Nat) (D : Nat → Nat) (M n : Nat) : Nat → Option (Nat × Nat × Int) → Int → List Int → Nat → Prop
  | nil (q : Nat) (st : Option (Nat × Nat × Int)) (x : Int) : Minis g B D M n q st x [] q
  | block {q k zz : Nat} {x : Int} {xs : List Int} {e : Nat} (h0 : xs ≠ []) (hk : Leb D q k zz) (hz : B = 32 → -2147483648 ≤ unzig zz ∧ unzig zz ≤ 2147483647) (hr : Minis g B D M n (q + k + M) (some (q + k, 0, unzig zz)) x xs e) : Minis g B D M n q none x xs e
  | mini {q wb j W : Nat} {md x : Int} {xs : List Int} {e : Nat} (h0 : xs ≠ []) (hj : j < M) (hw : D (wb + j) = W) (hW : W ≤ B) (hv : ∀ t v, xs[t]? = some v → t < n → v = g (miniX D q W md x (t + 1))) (hr : Minis g B D M n (q + n * W / 8) (if j + 1 = M then none else some (wb, j + 1, md)) (miniX D q W md x n) (xs.drop n) e) : Minis g B D M n q (some (wb, j, md)) x xs e
theorem Minis.le {g : Int → Int} {B : Nat} {D : Nat → Nat} {M n q : Nat} {st : Option (Nat × Nat × Int)} {x : Int} {xs : List Int} {e : Nat} (h : Minis g B D M n q st x xs e) : q ≤ e := by
  induction h with
  | nil => exact Nat.le_refl _
  | block _ _ _ _ ih => omega
  | mini _ _ _ _ _ _ ih => omega
theorem Minis.end_eq {g : Int → Int} {B : Nat} {D : Nat → Nat} {M n q : Nat} {st : Option (Nat × Nat × Int)} {x : Int} {e : Nat} (h : Minis g B D M n q st x [] e) : e = q := by
  cases h with
  | nil => rfl
  | block h0 => exact absurd rfl h0
  | mini h0 => exact absurd rfl h0
theorem Minis.none_inv {g : Int → Int} {B : Nat} {D : Nat → Nat} {M n q : Nat} {x : Int} {xs : List Int} {e : Nat} (h : Minis g B D M n q none x xs e) (h0 : xs ≠ []) : ∃ k zz, Leb D q k zz ∧ (B = 32 → -2147483648 ≤ unzig zz ∧ unzig zz ≤ 2147483647) ∧ Minis g B D M n (q + k + M) (some (q + k, 0, unzig zz)) x xs e := by
  cases h with
  | nil => exact absurd rfl h0
  | block _ hk hz hr => exact ⟨_, _, hk, hz, hr⟩
theorem Minis.some_inv {g : Int → Int} {B : Nat} {D : Nat → Nat} {M n q wb j : Nat} {md x : Int} {xs : List Int} {e : Nat} (h : Minis g B D M n q (some (wb, j, md)) x xs e) (h0 : xs ≠ []) : j < M ∧ D (wb + j) ≤ B ∧ (∀ t v, xs[t]? = some v → t < n → v = g (miniX D q (D (wb + j)) md x (t + 1))) ∧ Minis g B D M n (q + n * D (wb + j) / 8) (if j + 1 = M then none else some (wb, j + 1, md)) (miniX D q (D (wb + j)) md x n) (xs.drop n) e := by
  cases h with
  | nil => exact absurd rfl h0
  | mini _ hj hw hW hv hr => subst hw; exact ⟨hj, hW, hv, hr⟩
end Go.Proofs.YtaageikelkcphaaGreatDoor
/- Runs and groups of a hybrid of runs and packed numbers: what bytes hold. No program in sight. -/
namespace Go.Proofs.YtaageikelkcphaaGreatDoor
/-- m numbers of W bits from bit p on. -/
def bitsL (D : Nat → Nat) (p W : Nat) : Nat → List Nat
  | 0 => []
  | m + 1 => bitsV D p W :: bitsL D (p + W) W m
/-- Bytes from q on, below L, are runs and groups of numbers of W bits, of which vs are the first ones. -/
inductive Runs (D : Nat → Nat) (L W : Nat) : Nat → List Nat → Prop
  | nil (q : Nat) : Runs D L W q []
  | rep (q k n : Nat) (vs : List Nat) : Leb D q k (2 * n) → 1 ≤ n → n ≤ 2147483647 → q + k + (W + 7) / 8 ≤ L → Runs D L W (q + k + (W + 7) / 8) vs → Runs D L W q (List.replicate n (leV D (q + k) ((W + 7) / 8)) ++ vs)
  | lit (q k n : Nat) (vs : List Nat) : Leb D q k (2 * n + 1) → 1 ≤ n → n ≤ 268435455 → q + k + n * W ≤ L → Runs D L W (q + k + n * W) vs → Runs D L W q (bitsL D (8 * (q + k)) W (8 * n) ++ vs)
/-- Where a reader of runs stands: vs are the next numbers. -/
inductive Pos (D : Nat → Nat) (L W : Nat) : Nat → Nat → Nat → Nat → Nat → List Nat → Prop
  | rep (n cur o f : Nat) (us : List Nat) : 1 ≤ n → n ≤ 2147483647 → Runs D L W (o + (f + 7) / 8) us → Pos D L W n 0 cur o f (List.replicate n cur ++ us)
  | lit (n cur o f q : Nat) (us : List Nat) : 1 ≤ n → n ≤ 2147483647 → 8 * q = 8 * o + f + n * W → q ≤ L → Runs D L W q us → Pos D L W 0 n cur o f (bitsL D (8 * o + f) W n ++ us)
  | idle (cur o f : Nat) (vs : List Nat) : Runs D L W (o + (f + 7) / 8) vs → Pos D L W 0 0 cur o f vs
theorem Pos.cases {D : Nat → Nat} {L W r n cur o f : Nat} {vs : List Nat} (h : Pos D L W r n cur o f vs) : (1 ≤ r ∧ n = 0) ∨ (r = 0 ∧ 1 ≤ n) ∨ (r = 0 ∧ n = 0 ∧ Runs D L W (o + (f + 7) / 8) vs) := by
  cases h with
  | rep _ _ _ _ us h1 h2 hr => exact .inl ⟨h1, rfl⟩
  | lit _ _ _ _ q us h1 h2 hq hL hr => exact .inr (.inl ⟨rfl, h1⟩)
  | idle _ _ _ _ hr => exact .inr (.inr ⟨rfl, rfl, hr⟩)
end Go.Proofs.YtaageikelkcphaaGreatDoor
