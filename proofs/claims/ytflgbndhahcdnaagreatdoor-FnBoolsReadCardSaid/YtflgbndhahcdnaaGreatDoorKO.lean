/- Part 15 of the proof: the texts OL, OD, BV, joined. What each proves stands ahead of it. -/
import Derived.Test.YtflgbndhahcdnaaGreatDoorKH
import Derived.Test.YtflgbndhahcdnaaGreatDoorKN
import Derived.Test.YtflgbndhahcdnaaGreatDoorKD
import Derived.Deep.RegionWith
import Derived.Test.YtflgbndhahcdnaaGreatDoorKE
set_option linter.unusedVariables false
set_option linter.unusedSimpArgs false
/- The decoder of bools from runs. -/
namespace Go.Proofs.YtflgbndhahcdnaaGreatDoor
open Go Go.RowKit
/-- A decoder of bools from runs, at block d: N values are left; those that are left are vs. -/
structure RQ (w : World) (d N : Nat) (c : RC) (R : Nat) (vs : List Nat) : Prop where
  nv : w.cell? ⟨d, 0, none⟩ = some (.int .i64 N)
  rp : w.cell? ⟨d, 3, none⟩ = some (.pointer (some ⟨R, 0, none⟩))
  fr : ∀ j, j < 4 → w.frozen? ⟨d, j, none⟩ = false
  rd : ∃ rep lit cur o f, RD c 1 R rep lit cur o f w ∧ Pos c.D c.L 1 rep lit cur o f vs
  le : N ≤ vs.length
  db : d ≠ c.b
  drb : d ≠ c.rb
  dB : d ≠ c.B
  dR : d ≠ R
  gd : 5 < d
/-- The blocks of such a decoder that turn. -/
def OwnQ (d : Nat) (c : RC) (R : Nat) : Nat → Prop := fun a => a = d ∨ a = c.B ∨ a = R ∨ a = c.rb
theorem RQ.lt {w : World} {d N : Nat} {c : RC} {R : Nat} {vs : List Nat} (h : RQ w d N c R vs) : d < w.heap.size := World.block_lt_of_cell? w _ h.nv
theorem RQ.keep {w w' : World} {d N : Nat} {c : RC} {R : Nat} {vs : List Nat} (h : RQ w d N c R vs) {S : Nat → Nat → Prop} (hc : Chg S w w') (hS : ∀ k x, S k x → k ≠ d ∧ k ≠ c.b ∧ k ≠ c.rb ∧ k ≠ c.B ∧ k ≠ R ∧ 5 < k) : RQ w' d N c R vs :=
  ⟨hc.keep h.nv (fun hh => (hS _ _ hh).1 rfl), hc.keep h.rp (fun hh => (hS _ _ hh).1 rfl), fun j hj => (hc.frozen _ _ h.lt).trans (h.fr j hj), let ⟨a1, a2, a3, a4, a5, h1, h2⟩ := h.rd; ⟨a1, a2, a3, a4, a5, h1.keep hc (fun k x hh => (hS k x hh).2), h2⟩, h.le, h.db, h.drb, h.dB, h.dR, h.gd⟩
/-- A new row of 1024 numbers. -/
theorem zero_buf : Tryz.zeroCells75 = Array.replicate 1024 (.int .u64 0) := by kernel_rfl
theorem buf_at (j : Nat) (hj : j < 1024) : Tryz.zeroCells75[j]? = some (.int .u64 0) := by
  rw [zero_buf, Array.getElem?_replicate, if_pos hj]
set_option maxRecDepth 100000 in
set_option maxHeartbeats 1000000 in
theorem rqDiscard_ok (d N n : Nat) (c : RC) (R : Nat) (vs : List Nat) (w : World) (h : RQ w d N c R vs) (hn : n ≤ N) (hN : N ≤ 1000000) :
    Calls Tryz.prog 17 #[.pointer (some ⟨d, 0, none⟩), .int .i64 n] w fun e w' => e = .returned (.tuple #[.int .i64 n, .nilIface]) ∧ Chg (fun a _ => OwnQ d c R a) w w' ∧ RQ w' d (N - n) c R (vs.drop n) := by
  obtain ⟨rep, lit, cur, o, f, hR, hP⟩ := h.rd
  have Hcall := Lib.hid (rleDiscard_ok c 1 R rep lit cur o f n vs w hR hP (by decide) (by decide) (by have := h.le; omega) (by omega))
  have c0 := h.nv
  have c3 := h.rp
  have hmin : min (n : Int) N = n := by omega
  have H := Lib.hid h
  have Hn := Lib.hid hn
  clear h hR hP hn
  go_enter Tryz.func17, Tryz.ntmps17
  go_wp2_with fail
  refine Hcall.out.mono ?_
  rintro e w1 ⟨rfl, rep', lit', cur', o', f', hL⟩
  have hnd : ∀ x, ¬ OwnR c R d x := by
    have := H.out
    rintro x (hh | hh)
    · exact this.dB hh
    · exact this.dR hh
  have d0 := hL.chg.keep c0 (hnd _)
  have d3 := hL.chg.keep c3 (hnd _)
  have g0 := (hL.chg.frozen d 0 H.out.lt).trans (H.out.fr 0 (by omega))
  have HL := Lib.hid hL
  clear c0 c3 hL hnd
  go_wp2_with fail
  rw [show (N : Int) - n = (N - n : Nat) by have := Hn.out; omega]
  go_ret2
  have hcs : Chg (fun a _ => a = d) w1 (w1.setCell ⟨d, 0, none⟩ (.int .i64 (N - n : Nat))) := (Chg.refl (fun a _ => a = d) _).setCell _ _ (fun _ => rfl) _
  refine ⟨rfl, (HL.out.chg.mono (fun a x _ hh => ?_)).trans (hcs.mono (fun a x _ hh => .inl hh)), World.cell?_setCell_same _ _ _ d0, ?_, fun j hj => ?_, ⟨rep', lit', cur', o', f', HL.out.rd.keep hcs ?_, HL.out.pos⟩, ?_, H.out.db, H.out.drb, H.out.dB, H.out.dR, H.out.gd⟩
  · rcases hh with hh | hh
    · exact .inr (.inl hh)
    · exact .inr (.inr (.inl hh))
  · rw [World.cell?_setCell_other _ _ _ _ (by intro e; injection e with _ e2; cases e2)]; exact d3
  · rw [World.frozen?_setCell]; exact (HL.out.chg.frozen _ _ H.out.lt).trans (H.out.fr j hj)
  · rintro k x rfl
    exact ⟨H.out.db, H.out.drb, H.out.dB, H.out.dR, H.out.gd⟩
  · rw [List.length_drop]; have := H.out.le; omega
set_option maxRecDepth 100000 in
set_option maxHeartbeats 1000000 in
theorem rqDecode_ok (d N n cp ob : Nat) (c : RC) (R : Nat) (vs : List Nat) (w : World) (h : RQ w d N c R vs) (hn : n ≤ N) (hN : N ≤ 1000) (hcp : n ≤ cp) (hol : ob < w.heap.size) (hob : ¬ OwnQ d c R ob) (hbl : c.b < w.heap.size) (hobb : ob ≠ c.b) (hgo : 5 < ob)
    (hoc : ∀ j, j < n → ∃ u, w.cell? ⟨ob, j, none⟩ = some u) (hof : ∀ j, j < n → w.frozen? ⟨ob, j, none⟩ = false) :
    Calls Tryz.prog 16 #[.pointer (some ⟨d, 0, none⟩), .slice (some ⟨ob, 0, none⟩) n cp] w fun e w' => e = .returned (.tuple #[.int .i64 n, .nilIface]) ∧ Chg (fun a x => OwnQ d c R a ∨ (a = ob ∧ x < n)) w w' ∧ (∀ j, j < n → w'.cell? ⟨ob, j, none⟩ = some (.bool (vs.getD j 0 != 0))) ∧ RQ w' d (N - n) c R (vs.drop n) := by
  have c0 := h.nv
  have c3 := h.rp
  have H := Lib.hid h
  have Hn := Lib.hid hn
  have hnb : n ≤ 1000 := by omega
  have hmin : min n N = n := by omega
  clear h hn
  go_enter Tryz.func16, Tryz.ntmps16
  go_wp2_with fail
  refine (minN_ok n N _).mono ?_
  rintro e w0 ⟨rfl, rfl⟩
  rw [hmin]
  clear hmin
  have Hoc := Lib.hid hoc
  have Hof := Lib.hid hof
  have Hol := Lib.hid hol
  have Hob := Lib.hid hob
  have Hbl := Lib.hid hbl
  clear hoc hof hol hob hbl
  go_wp2_with fail
  obtain ⟨w1, hw1⟩ : ∃ w1, w1 = w0.alloc (Obj.cells Tryz.zeroCells75 75) := ⟨_, rfl⟩
  obtain ⟨bf, hbf⟩ : ∃ bf, bf = w0.heap.size := ⟨_, rfl⟩
  have hc1 : Chg Nix w0 w1 := by rw [hw1]; exact Chg.new _ _
  have hb1 : ∀ j, j < 1024 → w1.cell? ⟨bf, j, none⟩ = some (.int .u64 0) := fun j hj => by rw [hw1, hbf, World.cell?_alloc_new]; exact buf_at j hj
  have hb2 : ∀ j, j < 1024 → w1.frozen? ⟨bf, j, none⟩ = false := fun j hj => by rw [hw1]; exact fresh_frozen hbf
  have hbl1 : bf < w1.heap.size := by rw [hw1, hbf]; simp
  have hH1 := H.out.keep hc1 (fun _ _ h => h.elim)
  rw [← hw1, ← hbf]
  have HH1 := Lib.hid hH1
  have Hc1 := Lib.hid hc1
  have Hb1 := Lib.hid hb1
  have Hb2 := Lib.hid hb2
  have Hbf := Lib.hid hbf
  clear hw1 hbf hc1 hb1 hb2 hH1 c0 c3
  go_loopw [1, 8] (fun s v wx => (v = .int .i64 n ∧ s = .slice (some ⟨ob, 0, none⟩) n cp ∧ wx = w1 ∧ 0 < n) ∨ (v = .int .i64 0 ∧ Chg (fun a x => OwnQ d c R a ∨ (a = ob ∧ x < n)) w0 wx ∧ (∀ j, j < n → wx.cell? ⟨ob, j, none⟩ = some (.bool (vs.getD j 0 != 0))) ∧ ∃ vs', vs' = vs.drop n ∧ wx.cell? ⟨d, 0, none⟩ = some (.int .i64 N) ∧ wx.cell? ⟨d, 3, none⟩ = some (.pointer (some ⟨R, 0, none⟩)) ∧ (∃ rep lit cur o f, RD c 1 R rep lit cur o f wx ∧ Pos c.D c.L 1 rep lit cur o f vs'))) (fun _ v _ => (intOf v).toNat)
  case atStart =>
    by_cases hn0 : n = 0
    · subst hn0
      obtain ⟨rep, lit, cur, o, f, h1, h2⟩ := HH1.out.rd
      exact .inr ⟨rfl, Hc1.out.mono (fun _ _ _ h => h.elim), fun j hj => by omega, _, rfl, HH1.out.nv, HH1.out.rp, rep, lit, cur, o, f, h1, h2⟩
    · exact .inl ⟨rfl, rfl, rfl, by omega⟩
  case round =>
    rcases hrel with ⟨rfl, rfl, rfl, hn0⟩ | ⟨rfl, hch, hout, vs', rfl, k0, k3, hrd⟩
    · obtain ⟨rep, lit, cur, o, f, hR, hP⟩ := HH1.out.rd
      obtain ⟨rep0, lit0, cur0, o0, f0, hR0, -⟩ := H.out.rd
      have q1 := hR0.lt
      have q2 := hR0.rs.lt
      have q3 := hR0.rs.rlt
      have q4 := hR0.rs.env.gB
      have hbe := Hbf.out
      have hbl := Hbl.out
      have hbR : bf ≠ R := by omega
      have hd : Dst c wr.drew bf 0 n := ⟨fun j hj => ⟨_, by rw [Nat.zero_add]; exact Hb1.out j (by have := Hn.out; omega)⟩, fun j hj => by rw [Nat.zero_add]; exact Hb2.out j (by have := Hn.out; omega), by omega, by omega, by omega, by omega⟩
      have Hcall := Lib.hid (rleBatch_ok c 1 R rep lit cur o f bf 0 n 1024 vs wr.drew hR.drew hP (by decide) (by decide) (by have := H.out.le; have := Hn.out; omega) (by have := Hn.out; omega) hd hbR (by have := Hn.out; omega) (by decide))
      have c0 := HH1.out.nv
      have c3 := HH1.out.rp
      have hmi : min (1024 : Int) (n : Int) = n := by have := Hn.out; omega
      have hn0' : (0 : Int) < n := by omega
      have hn1024 : (n : Int) ≤ 1024 := by have := Hn.out; omega
      have Hq := Lib.hid (And.intro q1 (And.intro q2 (And.intro q3 q4)))
      clear hR hP hR0 q1 q2 q3 q4 hbe hbl hd hmi
      go_wp2_with fail
      refine (min_ok 1024 n _).mono ?_
      rintro e w2 ⟨rfl, rfl⟩
      rw [show min (1024 : Int) (n : Int) = n by omega]
      go_wp2_with fail
      (refine wp_region_txt [] (by kernel_rfl) (by kernel_rfl) ?_; repeat (first | (refine wpTxt_pure rfl rfl (fun K hK => ?_); go_simp; refine hK _ ?_; clear hK K) | (refine wpTxt_still rfl rfl (fun K hK => ?_); go_simp; refine hK _ ?_; clear hK K)))
      refine wpTxt_effect rfl rfl (fun K hK => ?_); go_simp
      refine Hcall.out.mono ?_
      rintro e w3 ⟨rfl, rep', lit', cur', o', f', hG⟩
      have hch3 : Chg (fun a x => OwnQ d c R a ∨ (a = ob ∧ x < n)) w0 w3 := by
        refine Hc1.out.comp hG.rl.chg.undrew (fun _ _ _ h => h.elim) ?_
        rintro a x ha (hh | hh | hh | hh)
        · exact .inl (.inr (.inl hh))
        · exact .inl (.inr (.inr (.inl hh)))
        · exact .inl (.inr (.inr (.inr hh.1)))
        · have := Hbf.out; omega
      have hnd : ∀ x, ¬ GTR c R bf 0 n d x := by
        have := H.out
        have := H.out.lt
        have := Hbf.out
        rintro x (hh | hh | hh | hh)
        · exact H.out.dB hh
        · exact H.out.dR hh
        · exact H.out.drb hh.1
        · omega
      have k0 := hG.rl.chg.keep (show w2.drew.cell? ⟨d, 0, none⟩ = _ from c0) (hnd 0)
      have k3 := hG.rl.chg.keep (show w2.drew.cell? ⟨d, 3, none⟩ = _ from c3) (hnd 3)
      have HG := Lib.hid hG
      have Hch3 := Lib.hid hch3
      have Hk0 := Lib.hid k0
      have Hk3 := Lib.hid k3
      clear hG hch3 c0 c3 k0 k3 hnd Hcall
      (refine hK _ _ ?_; clear hK K)
      repeat (first | (refine wpTxt_pure rfl rfl (fun K hK => ?_); go_simp; refine hK _ ?_; clear hK K) | (refine wpTxt_still rfl rfl (fun K hK => ?_); go_simp; refine hK _ ?_; clear hK K))
      refine wpTxt_nil ?_
      go_wp2_with fail
      have hob3 : ∀ j, j < n → (∃ u, w3.cell? ⟨ob, j, none⟩ = some u) ∧ w3.frozen? ⟨ob, j, none⟩ = false := by
        intro j hj
        have h1 := Hob.out
        have h2 := Hol.out
        have h3 := Hbf.out
        have hne : ∀ x, ¬ GTR c R bf 0 n ob x := by
          rintro x (hh | hh | hh | hh)
          · exact h1 (.inr (.inl hh))
          · exact h1 (.inr (.inr (.inl hh)))
          · exact h1 (.inr (.inr (.inr hh.1)))
          · omega
        obtain ⟨u, hu⟩ := Hoc.out j hj
        have hl := Hc1.out.keep hu (fun h => h)
        exact ⟨⟨u, HG.out.rl.chg.undrew.keep hl (hne j)⟩, (HG.out.rl.chg.undrew.frozen _ _ (World.block_lt_of_cell? _ _ hl)).trans ((Hc1.out.frozen _ _ h2).trans (Hof.out j hj))⟩
      have Hob3 := Lib.hid hob3
      clear hob3
      go_loopw [12] (fun v wx => ∃ t, v = .int .i64 (t : Nat) ∧ t ≤ n ∧ Chg (fun a x => a = ob ∧ x < t) w3 wx ∧ ∀ j, j < t → wx.cell? ⟨ob, j, none⟩ = some (.bool (vs.getD j 0 != 0))) (fun v _ => n - (intOf v).toNat)
      case atStart => exact ⟨0, rfl, Nat.zero_le _, Chg.refl _ _, fun j hj => by omega⟩
      case round =>
        obtain ⟨t, rfl, ht, hcw, hout⟩ := hrel
        by_cases htn : t < n
        · obtain ⟨⟨u, hu⟩, hfu⟩ := Hob3.out t htn
          have hobf : bf ≠ ob := by have := Hbf.out; have := Hol.out; omega
          have hu2 := hcw.keep hu (fun h => by omega)
          have hf2 := (hcw.frozen ob t (World.block_lt_of_cell? _ _ hu)).trans hfu
          have hb3 := HG.out.out t htn
          rw [Nat.zero_add] at hb3
          have hb4 := hcw.keep hb3 (fun h => hobf h.1)
          obtain ⟨x, hx⟩ : ∃ x, x = vs.getD t 0 := ⟨_, rfl⟩
          rw [← hx] at hb4
          obtain ⟨B, hB⟩ : ∃ B, B = (vs.getD t 0 != 0) := ⟨_, rfl⟩
          have hne : ((x : Int) != 0) = B := by rw [hB, ← hx]; cases x with | zero => rfl | succ x => simp; omega
          have ht0 : (0 : Int) ≤ t := by omega
          have htt : ((t : Nat) : Int).toNat = t := by omega
          have htn' : (t : Int) < n := by omega
          have ht1024 : (t : Int) < 1024 := by omega
          have HB := Lib.hid hB
          have Hcw := Lib.hid hcw
          have Hout := Lib.hid hout
          clear hx hB hcw hout hb3 hu hfu
          go_wp2_with fail
          refine ⟨⟨t + 1, by go_num, htn, (Hcw.out.mono (fun a x _ h => ⟨h.1, by omega⟩)).setCell ob t (fun _ => ⟨rfl, by omega⟩) _, fun j hj => ?_⟩, by simp [intOf]; omega⟩
          by_cases hjt : j = t
          · subst hjt
            rw [← HB.out]
            exact World.cell?_setCell_same wr ⟨ob, j, none⟩ _ hu2
          · rw [World.cell?_setCell_other _ _ _ _ (by intro e; injection e with _ e2; exact hjt e2.symm)]
            exact Hout.out j (by omega)
        · obtain rfl : t = n := by omega
          have Hcw := Lib.hid hcw
          have Hout := Lib.hid hout
          clear hcw hout
          have hnob : ¬ OwnQ d c R ob := Hob.out
          have hdob : ¬ d = ob := fun h => hnob (.inl h.symm)
          have hdone : Chg (fun a x => OwnQ d c R a ∨ (a = ob ∧ x < t)) w0 wr ∧ (∀ j, j < t → wr.cell? ⟨ob, j, none⟩ = some (.bool (vs.getD j 0 != 0))) ∧ ∃ vs', vs' = vs.drop t ∧ wr.cell? ⟨d, 0, none⟩ = some (.int .i64 N) ∧ wr.cell? ⟨d, 3, none⟩ = some (.pointer (some ⟨R, 0, none⟩)) ∧ (∃ rep lit cur o f, RD c 1 R rep lit cur o f wr ∧ Pos c.D c.L 1 rep lit cur o f vs') :=
            ⟨Hch3.out.trans (Hcw.out.mono (fun _ _ _ h => .inr h)), Hout.out, _, rfl, Hcw.out.keep Hk0.out (fun h => hdob h.1), Hcw.out.keep Hk3.out (fun h => hdob h.1), _, _, _, _, _, HG.out.rl.rd.keep Hcw.out (by
              rintro k x ⟨rfl, -⟩
              exact ⟨hobb, fun h => hnob (.inr (.inr (.inr h))), fun h => hnob (.inr (.inl h)), fun h => hnob (.inr (.inr (.inl h))), hgo⟩), HG.out.rl.pos⟩
          have Hdone := Lib.hid hdone
          clear hdone hdob hnob
          by_cases hcn : cp = t
          · subst hcn
            go_wp2_with fail
            exact ⟨.inr ⟨rfl, Hdone.out⟩, by simp [intOf]; omega⟩
          · go_wp2_with fail
            exact ⟨.inr ⟨rfl, Hdone.out⟩, by simp [intOf]; omega⟩
    · have g0 := (hch.frozen d 0 H.out.lt).trans (H.out.fr 0 (by omega))
      have Hch := Lib.hid hch
      have Hout := Lib.hid hout
      have Hrd := Lib.hid hrd
      clear hch hout hrd
      go_wp2_with fail
      rw [show (N : Int) - n = (N - n : Nat) by have := Hn.out; omega]
      go_ret2
      have hcs : Chg (fun a _ => a = d) wr (wr.setCell ⟨d, 0, none⟩ (.int .i64 (N - n : Nat))) := (Chg.refl (fun a _ => a = d) _).setCell _ _ (fun _ => rfl) _
      have hdob : d ≠ ob := fun h => Hob.out (.inl h.symm)
      obtain ⟨rep, lit, cur, o, f, h1, h2⟩ := Hrd.out
      refine ⟨rfl, Hch.out.trans (hcs.mono (fun a x _ hh => .inl (.inl hh))), fun j hj => hcs.keep (Hout.out j hj) (fun h => hdob h.symm), World.cell?_setCell_same _ _ _ k0, ?_, fun j hj => ?_, ⟨rep, lit, cur, o, f, h1.keep hcs ?_, h2⟩, ?_, H.out.db, H.out.drb, H.out.dB, H.out.dR, H.out.gd⟩
      · rw [World.cell?_setCell_other _ _ _ _ (by intro e; injection e with _ e2; cases e2)]; exact k3
      · rw [World.frozen?_setCell]; exact (Hch.out.frozen _ _ H.out.lt).trans (H.out.fr j hj)
      · rintro k x rfl
        exact ⟨H.out.db, H.out.drb, H.out.dB, H.out.dR, H.out.gd⟩
      · rw [List.length_drop]; have := H.out.le; omega
end Go.Proofs.YtflgbndhahcdnaaGreatDoor
/- The plain decoder of bools: Decode. -/
namespace Go.Proofs.YtflgbndhahcdnaaGreatDoor
open Go Go.RowKit
/-- What turns where bools are decoded. -/
def DecS (d ob n : Nat) : Nat → Nat → Prop := fun a x => a = d ∨ (a = ob ∧ x < n)
/-- Where a Decode stands behind i values. -/
structure DS (X M O d b ob p N L n cp : Nat) (β : Nat → Bool) (w1 wx : World) (i : Nat) : Prop where
  px : PX wx d b (p + i) (N - i) N L β
  cap : Cap wx X M O d ob n cp
  out : ∀ j, j < i → wx.cell? ⟨ob, j, none⟩ = some (.bool (β (p + j)))
  chg : Chg (DecS d ob n) w1 wx
theorem Cap.keep {w w' : World} {X M O d ob m cp : Nat} (h : Cap w X M O d ob m cp) (hc : Chg (DecS d ob m) w w') (hob : ∀ j, j < m → ∃ u, w'.cell? ⟨ob, j, none⟩ = some u) : Cap w' X M O d ob m cp :=
  ⟨hc.keep h.cx (by rintro (e | ⟨e, -⟩); exact h.xd e; exact h.xo e), hc.keep h.cm (by rintro (e | ⟨e, -⟩); exact h.md e; exact h.mo e), hc.keep h.co (by rintro (e | ⟨e, -⟩); exact h.od e; exact h.oo e), hob, fun j hj => (hc.frozen _ _ (by obtain ⟨u, hu⟩ := h.oc j hj; exact World.block_lt_of_cell? _ _ hu)).trans (h.of j hj), h.xd, h.md, h.od, h.xo, h.mo, h.oo, h.dob⟩
theorem cells_keep {w w' : World} {d ob m lo hi : Nat} (h : ∀ j, j < m → ∃ u, w.cell? ⟨ob, j, none⟩ = some u) (hd : d ≠ ob) (hc : Chg (fun a x => a = d ∨ (a = ob ∧ lo ≤ x ∧ x < hi)) w w') (h2 : ∀ j, lo ≤ j → j < hi → ∃ u, w'.cell? ⟨ob, j, none⟩ = some u) : ∀ j, j < m → ∃ u, w'.cell? ⟨ob, j, none⟩ = some u := by
  intro j hj
  by_cases hi : lo ≤ j ∧ j < hi
  · exact h2 j hi.1 hi.2
  · obtain ⟨u, hu⟩ := h j hj
    exact ⟨u, hc.keep hu (by rintro (e | ⟨-, e1, e2⟩); exact hd e.symm; exact hi ⟨e1, e2⟩)⟩
theorem stage_ok (X M O d b ob p N L n cp i : Nat) (β : Nat → Bool) (w1 w : World) (h : DS X M O d b ob p N L n cp β w1 w i) (hi : i ≤ n) (hn : n ≤ N) (hm : n ≤ 1000000) (hbo : b ≠ ob) :
    Calls Tryz.prog 39 #[.int .i64 i, .pointer (some ⟨X, 0, none⟩), .pointer (some ⟨M, 0, none⟩), .pointer (some ⟨O, 0, none⟩)] w fun e w' =>
      ∃ k, k = min (n - i) (8 - (p + i) % 8) ∧ e = .returned (.int .i64 (i + k : Nat)) ∧ DS X M O d b ob p N L n cp β w1 w' (i + k) := by
  refine Calls.mono (extract_ok X M O d b ob (p + i) (N - i) N L n cp i β w h.px h.cap hi (by omega) hm hbo) ?_
  rintro e w' ⟨k, hk, rfl, h1, h2, h3⟩
  have hc : Chg (DecS d ob n) w w' := h2.mono (fun a x _ hh => by
    rcases hh with hh | ⟨hh, h4, h5⟩
    · exact .inl hh
    · exact .inr ⟨hh, by omega⟩)
  refine ⟨k, hk, rfl, ?_, h.cap.keep hc (cells_keep h.cap.oc h.cap.dob h2 (fun j h4 h5 => ⟨_, by have := h1 (j - i) (by omega); rwa [show i + (j - i) = j by omega] at this⟩)), fun j hj => ?_, h.chg.trans hc⟩
  · have := h3
    rwa [show p + i + k = p + (i + k) by omega, show N - i - k = N - (i + k) by omega] at this
  · by_cases hji : j < i
    · exact h2.keep (h.out j hji) (by rintro (e | ⟨-, e1, e2⟩); exact h.cap.dob e.symm; omega)
    · have := h1 (j - i) (by omega)
      rwa [show i + (j - i) = j by omega, show p + i + (j - i) = p + j by omega] at this
set_option maxRecDepth 100000 in
set_option maxHeartbeats 4000000 in
theorem pbDecode_ok (d b ob p N L n cp : Nat) (β : Nat → Bool) (w : World) (h : PB w d b p N L β) (hn : n ≤ N) (hm : n ≤ 1000000) (hbo : b ≠ ob) (hdo : d ≠ ob) (hcp : n ≤ cp) (hbl : b < w.heap.size) (hol : ob < w.heap.size)
    (hoc : ∀ j, j < n → ∃ u, w.cell? ⟨ob, j, none⟩ = some u) (hof : ∀ j, j < n → w.frozen? ⟨ob, j, none⟩ = false) :
    Calls Tryz.prog 20 #[.pointer (some ⟨d, 0, none⟩), .slice (some ⟨ob, 0, none⟩) n cp] w fun e w' =>
      e = .returned (.tuple #[.int .i64 n, .nilIface]) ∧ Chg (DecS d ob n) w w' ∧ (∀ j, j < n → w'.cell? ⟨ob, j, none⟩ = some (.bool (β (p + j)))) ∧ PB w' d b (p + n) (N - n) L β := by
  have hmf : ∀ (fn : Fn) (first cap : Array Value) (w : World), (Instr.makeFunc fn first cap).run Tryz.prog w = .ok (.func fn first cap) w := fun _ _ _ _ => rfl
  have hdl := h.lt
  have hNb : N ≤ 8000000 := by have := h.room; have := h.big; omega
  have c0 := h.nv
  have H := Lib.hid h
  have Hoc := Lib.hid hoc
  have Hof := Lib.hid hof
  clear h hoc hof
  go_enter Tryz.func20, Tryz.ntmps20
  go_wp2_with fail
  have hmin : min n N = n := by omega
  obtain ⟨w0, hw0⟩ : ∃ w0, w0 = (w.alloc (.cells #[.pointer (some ⟨d, 0, none⟩)] 50)).alloc (.cells #[.slice (some ⟨ob, 0, none⟩) n cp] 22) := ⟨_, rfl⟩
  have hc0 : Chg Nix w w0 := by rw [hw0]; exact (((Chg.refl _ _).alloc _).alloc _)
  have k0 := hc0.keep c0 (fun h => h)
  have kX : w0.cell? ⟨w.heap.size, 0, none⟩ = some (.pointer (some ⟨d, 0, none⟩)) := by
    rw [hw0]; exact cell_alloc _ (fresh_cell rfl rfl)
  have kO : w0.cell? ⟨w.heap.size + 1, 0, none⟩ = some (.slice (some ⟨ob, 0, none⟩) n cp) := by
    rw [hw0]; exact fresh_cell (by simp) rfl
  have hsz : w0.heap.size = w.heap.size + 2 := by rw [hw0]; simp
  rw [← hw0]
  have kX2 := cell_alloc (.cells #[.int .i64 0] 3) kX
  have kO2 := cell_alloc (.cells #[.int .i64 0] 3) kO
  have k02 := cell_alloc (.cells #[.int .i64 0] 3) k0
  have l0 := World.block_lt_of_cell? _ _ k0
  have lX := World.block_lt_of_cell? _ _ kX
  have lO := World.block_lt_of_cell? _ _ kO
  have Hw0 := Lib.hid hw0
  clear hw0 c0
  have HX := Lib.hid kX
  have HO := Lib.hid kO
  have HN := Lib.hid k0
  go_cut [6] (fun v wx => v = .pointer (some ⟨w.heap.size + 2, 0, none⟩) ∧ wx = (w0.alloc (.cells #[.int .i64 n] 3)).drew)
  case first =>
    go_region_with (first
      | (go_at_call 34; refine (minN_ok n N _).mono ?_; rintro e w2 ⟨rfl, rfl⟩))
    all_goals (go_wp2_with fail; go_meet; exact ⟨rfl, rfl⟩)
  case rest =>
  obtain ⟨rfl, hw1⟩ := hcut
  clear kX kO k0 kX2 kO2 k02 l0 lX lO
  obtain ⟨w1, hww⟩ : ∃ w1, w1 = wc := ⟨_, rfl⟩
  rw [← hww] at hw1 ⊢
  clear hww
  have hc1 : Chg Nix w w1 := by rw [hw1]; exact (hc0.alloc _).drew
  have hp1 := H.out.keep hc1 (fun _ h => h) (fun _ _ h => h)
  have hcap : Cap w1 w.heap.size (w.heap.size + 2) (w.heap.size + 1) d ob n cp := by
    refine ⟨?_, ?_, ?_, fun j hj => ?_, fun j hj => ?_, by omega, by omega, by omega, by omega, by omega, by omega, hdo⟩
    · rw [hw1]; exact cell_alloc _ HX.out
    · rw [hw1]; exact fresh_cell hsz.symm rfl
    · rw [hw1]; exact cell_alloc _ HO.out
    · obtain ⟨u, hu⟩ := Hoc.out j hj
      exact ⟨u, hc1.keep hu (fun h => h)⟩
    · exact (hc1.frozen _ _ hol).trans (Hof.out j hj)
  have hs0 : DS w.heap.size (w.heap.size + 2) (w.heap.size + 1) d b ob p N L n cp β w1 w1 0 := ⟨hp1, hcap, fun j hj => by omega, Chg.refl _ _⟩
  have Hc1 := Lib.hid hc1
  clear hw1 hp1 hcap hc1 hc0 hsz
  have cX := hs0.cap.cx
  have cM := hs0.cap.cm
  have cO := hs0.cap.co
  go_wp2_with fail
  refine (ensure_ok d b p N N L n β w1 hs0.px hn).mono ?_
  rintro e w2 ⟨rfl, hc2⟩
  dsimp only
  have hs2 : DS w.heap.size (w.heap.size + 2) (w.heap.size + 1) d b ob p N L n cp β w1 w2 0 := ⟨hs0.px.keep hc2 (fun _ h => h) (fun _ _ h => h), hs0.cap.keep (hc2.mono (fun _ _ _ h => h.elim)) (fun j hj => by obtain ⟨u, hu⟩ := hs0.cap.oc j hj; exact ⟨u, hc2.keep hu (fun h => h)⟩), fun j hj => by omega, hc2.mono (fun _ _ _ h => h.elim)⟩
  clear hs0 hc2 cX cM cO
  have cX := hs2.cap.cx
  have cM := hs2.cap.cm
  have cO := hs2.cap.co
  have c3 := hs2.px.bo
  rw [Nat.add_zero] at c3
  have HS2 := Lib.hid hs2
  clear hs2
  go_upto_if 32 with fail
  go_cut [9] (fun v wx => ∃ i, v = .int .i64 (i : Nat) ∧ i ≤ n ∧ (i = n ∨ (p + i) % 8 = 0) ∧ DS w.heap.size (w.heap.size + 2) (w.heap.size + 1) d b ob p N L n cp β w1 wx i)
  case first =>
    by_cases hp : p % 8 = 0
    · have hp' : ((p % 8 : Nat) : Int) = 0 := by omega
      rw [hp'] at c3
      go_wp2_with fail
      go_meet
      exact ⟨0, rfl, Nat.zero_le _, .inr (by omega), HS2.out⟩
    · have hp' : ¬ ((p % 8 : Nat) : Int) = 0 := by omega
      have hst := stage_ok _ _ _ d b ob p N L n cp 0 β w1 w2 HS2.out (Nat.zero_le _) hn hm hbo
      rw [show ((0 : Nat) : Int) = 0 from rfl] at hst
      have Hst := Lib.hid hst
      clear hst
      go_wp2_with fail
      refine Hst.out.mono ?_
      rintro e w3 ⟨k, hk, rfl, h3⟩
      have H3 := Lib.hid h3
      have Hk := Lib.hid hk
      clear h3 hk
      go_wp2_with fail
      go_meet
      exact ⟨0 + k, by rw [Nat.zero_add], by have := Hk.out; omega, by have := Hk.out; omega, H3.out⟩
  case rest =>
  obtain ⟨i, rfl, hi, hal, hS⟩ := hcut
  have Hal := Lib.hid hal
  have cM := hS.cap.cm
  have HS := Lib.hid hS
  obtain ⟨D, hD⟩ : ∃ D, D = n - i := ⟨_, rfl⟩
  obtain ⟨A, hA⟩ : ∃ A, A = D / 8 := ⟨_, rfl⟩
  have e1 : (n : Int) - i = D := by omega
  have e2 : (D : Int) / 8 * 8 = (8 * A : Nat) := by omega
  have hDb : D ≤ 1000000 := by omega
  have HD := Lib.hid hD
  have HA := Lib.hid hA
  clear hal hS HS2 c3 hD hA
  go_upto_if 43 with fail
  go_cut [9] (fun v wx => ∃ i, v = .int .i64 (i : Nat) ∧ i ≤ n ∧ n - i < 8 ∧ (i = n ∨ (p + i) % 8 = 0) ∧ DS w.heap.size (w.heap.size + 2) (w.heap.size + 1) d b ob p N L n cp β w1 wx i)
  case first =>
    by_cases hA0 : A = 0
    · subst hA0
      go_wp2_with fail
      go_meet
      exact ⟨i, rfl, hi, by have := HD.out; have := HA.out; omega, Hal.out, HS.out⟩
    · have hA1 : (0 : Int) < 8 * A := by omega
      go_wp2_with fail
      rw [show (8 : Int) * A = (8 * A : Nat) by omega]
      refine (bytesFor_ok _ _ (by omega)).mono ?_
      rintro e w3 ⟨rfl, rfl⟩
      rw [show (8 * A + 7) / 8 = A by omega]
      have hin : i < n := by have := HD.out; have := HA.out; omega
      have hal : (p + i) % 8 = 0 := by rcases Hal.out with h | h; omega; exact h
      obtain ⟨a, c, c1, hc, hcm, hca⟩ := HS.out.px.da
      have Hcm := Lib.hid hcm
      clear hcm
      have hroom := HS.out.px.room
      obtain ⟨q, hq⟩ : ∃ q, q = (p + i) / 8 := ⟨_, rfl⟩
      rw [← hq] at c1 hc hca
      have hqL : q + A ≤ L := by have := HD.out; have := HA.out; omega
      obtain rfl := hca (by omega)
      obtain ⟨K, hK⟩ : ∃ K, K = L - q := ⟨_, rfl⟩
      rw [← hK] at c1 hc
      have cX := HS.out.cap.cx
      have cO := HS.out.cap.co
      have f1 := HS.out.px.fr 1 (by omega)
      have hAc : (A : Int) ≤ c := by omega
      have hAK : (A : Int) ≤ K := by omega
      have hin' : (i : Int) ≤ n := by omega
      have hci : ¬ cp = i := by omega
      have Hcall := Lib.hid (toBools_ok b q A c ob i (n - i) (cp - i) L β w3.drew HS.out.px.dt.drew hqL (fun j hj => HS.out.cap.oc (i + j) (by omega)) (fun j hj => HS.out.cap.of (i + j) (by omega)) (by have := HD.out; have := HA.out; omega) hbo (by omega) (by omega))
      have Hq := Lib.hid hq
      have HK := Lib.hid hK
      have Hal2 := Lib.hid hal
      have HqL := Lib.hid hqL
      have Hhc := Lib.hid hc
      clear hca hq hK hal hqL e1 e2 hroom
      go_wp2_with fail
      (refine wp_region_txt [] (by kernel_rfl) (by kernel_rfl) ?_; repeat (first | (refine wpTxt_pure rfl rfl (fun K hK => ?_); go_simp; refine hK _ ?_; clear hK K) | (refine wpTxt_still rfl rfl (fun K hK => ?_); go_simp; refine hK _ ?_; clear hK K)))
      refine wpTxt_effect rfl rfl (fun K hK => ?_); go_simp
      refine Hcall.out.mono ?_
      rintro e w4 ⟨rfl, h4⟩
      have hc4 : Chg (DecS d ob n) w3 w4 := (h4.chg.undrew).mono (fun a x _ hh => .inr ⟨hh.1, by have := HD.out; have := HA.out; omega⟩)
      have H4 := Lib.hid h4
      have Hc4 := Lib.hid hc4
      have dX := hc4.keep cX (by have := HS.out.cap; rintro (h | ⟨h, -⟩); exact this.xd h; exact this.xo h)
      have d1 := h4.chg.keep (show w3.drew.cell? ⟨d, 1, none⟩ = _ from c1) (by rintro ⟨h, -⟩; exact hdo h)
      have g1 := (hc4.frozen d 1 HS.out.px.lt).trans f1
      clear cX cO cM c1 f1 h4 hc4
      (refine hK _ _ ?_; clear hK K)
      refine wpTxt_nil ?_
      have fin : ∀ (w5 : World) (B : Option Addr) (C : Nat), Chg (Own d) w4 w5 → w5.cell? ⟨d, 1, none⟩ = some (.slice B (K - A) C) → K - A ≤ C → C ≤ c → (A < K → B = some ⟨b, q + A, none⟩) → w5.cell? ⟨d, 0, none⟩ = w4.cell? ⟨d, 0, none⟩ → w5.cell? ⟨d, 3, none⟩ = w4.cell? ⟨d, 3, none⟩ → ∃ i', Value.int .i64 ((i : Int) + A * 8) = .int .i64 (i' : Nat) ∧ i' ≤ n ∧ n - i' < 8 ∧ (i' = n ∨ (p + i') % 8 = 0) ∧ DS w.heap.size (w.heap.size + 2) (w.heap.size + 1) d b ob p N L n cp β w1 w5 i' := by
        intro w5 B C hc5 k1 hC hCc hB k0 k3
        have hD := HD.out
        have hA := HA.out
        have hq := Hq.out
        have hK := HK.out
        have hal := Hal2.out
        have hqL := HqL.out
        have hroom := HS.out.px.room
        have c45 : Chg (DecS d ob n) w3 w5 := Hc4.out.trans (hc5.mono (fun _ _ _ h => .inl h))
        have cc : Chg (fun a x => a = ob ∧ i ≤ x ∧ x < i + 8 * A) w3 w4 := H4.out.chg.undrew
        have kk0 : w4.cell? ⟨d, 0, none⟩ = _ := cc.keep HS.out.px.nv (by rintro ⟨h, -⟩; exact hdo h)
        have kk3 : w4.cell? ⟨d, 3, none⟩ = _ := cc.keep HS.out.px.bo (by rintro ⟨h, -⟩; exact hdo h)
        refine ⟨i + 8 * A, by rw [show (i : Int) + A * 8 = (i + 8 * A : Nat) by omega], by omega, by omega, .inr (by omega), ⟨k0.trans kk0, ⟨B, C, ?_, ?_, Nat.le_trans hCc Hcm.out, fun h => ?_⟩, ?_, fun j hj => (c45.frozen d j HS.out.px.lt).trans (HS.out.px.fr j hj), HS.out.px.dt.keep c45 (fun j hj => by rintro (h | ⟨h, -⟩); exact HS.out.px.ne h.symm; exact hbo h), by omega, HS.out.px.big, HS.out.px.ne⟩, HS.out.cap.keep c45 (fun j hj => ?_), fun j hj => ?_, HS.out.chg.trans c45⟩
        · rw [show L - (p + (i + 8 * A)) / 8 = K - A by omega]; exact k1
        · omega
        · rw [show (p + (i + 8 * A)) / 8 = q + A by omega]; exact hB (by omega)
        · rw [k3, kk3, show (p + (i + 8 * A)) % 8 = (p + i) % 8 by omega]
        · by_cases hji : i ≤ j ∧ j < i + 8 * A
          · have := H4.out.out (j - i) (by omega)
            rw [show i + (j - i) = j by omega] at this
            exact ⟨_, hc5.keep this (fun h => hdo h.symm)⟩
          · obtain ⟨u, hu⟩ := HS.out.cap.oc j hj
            exact ⟨u, hc5.keep (cc.keep hu (by rintro ⟨-, h1, h2⟩; exact hji ⟨h1, h2⟩)) (fun h => hdo h.symm)⟩
        · by_cases hji : j < i
          · exact hc5.keep (cc.keep (HS.out.out j hji) (by rintro ⟨-, h1, h2⟩; omega)) (fun h => hdo h.symm)
          · have := H4.out.out (j - i) (by omega)
            rw [show i + (j - i) = j by omega, show 8 * q + (j - i) = p + j by omega] at this
            exact hc5.keep this (fun h => hdo h.symm)
      have Hfin := Lib.hid fin
      clear fin
      have hAb : A ≤ 1000000 := by have := HA.out; omega
      have hAC : A ≤ c := by omega
      by_cases hcA : c = A
      · subst hcA
        go_wp2_with fail
        (refine wp_region_txt [] (by kernel_rfl) (by kernel_rfl) ?_; repeat (first | (refine wpTxt_pure rfl rfl (fun K hK => ?_); go_simp; refine hK _ ?_; clear hK K) | (refine wpTxt_still rfl rfl (fun K hK => ?_); go_simp; refine hK _ ?_; clear hK K)))
        (refine wpTxt_effect rfl rfl (fun K hK => ?_); go_simp; refine hK _ _ ?_; clear hK K)
        refine wpTxt_nil ?_
        go_wp2_with fail
        go_meet
        exact Hfin.out _ (some ⟨b, q, none⟩) 0 ((Chg.refl (Own d) w4).own 1 _).drew (by show (World.setCell _ _ _).cell? _ = _; rw [show K - c = 0 by omega]; exact World.cell?_setCell_same w4 ⟨d, 1, none⟩ _ d1) (by omega) (by omega) (fun h => by omega) (by show (World.setCell _ _ _).cell? _ = _; exact World.cell?_setCell_other _ _ _ _ (by intro e; injection e with _ e2; cases e2)) (by show (World.setCell _ _ _).cell? _ = _; exact World.cell?_setCell_other _ _ _ _ (by intro e; injection e with _ e2; cases e2))
      · go_wp2_with fail
        (refine wp_region_txt [] (by kernel_rfl) (by kernel_rfl) ?_; repeat (first | (refine wpTxt_pure rfl rfl (fun K hK => ?_); go_simp; refine hK _ ?_; clear hK K) | (refine wpTxt_still rfl rfl (fun K hK => ?_); go_simp; refine hK _ ?_; clear hK K)))
        (refine wpTxt_effect rfl rfl (fun K hK => ?_); go_simp; refine hK _ _ ?_; clear hK K)
        refine wpTxt_nil ?_
        go_wp2_with fail
        go_meet
        exact Hfin.out _ (some ⟨b, q + A, none⟩) (c - A) ((Chg.refl (Own d) w4).own 1 _).drew (by show (World.setCell _ _ _).cell? _ = _; exact World.cell?_setCell_same w4 ⟨d, 1, none⟩ _ d1) (by omega) (by omega) (fun h => rfl) (by show (World.setCell _ _ _).cell? _ = _; exact World.cell?_setCell_other _ _ _ _ (by intro e; injection e with _ e2; cases e2)) (by show (World.setCell _ _ _).cell? _ = _; exact World.cell?_setCell_other _ _ _ _ (by intro e; injection e with _ e2; cases e2))
  case rest =>
  obtain ⟨i2, rfl, hi2, hi8, hal2, hS2⟩ := hcut
  have hst := stage_ok _ _ _ d b ob p N L n cp i2 β w1 wc hS2 hi2 hn hm hbo
  have Hst := Lib.hid hst
  have Hal2 := Lib.hid hal2
  have HS2 := Lib.hid hS2
  clear hst hS2 hal2
  go_wp2_with fail
  refine Hst.out.mono ?_
  rintro e w3 ⟨k, hk, rfl, h3⟩
  obtain rfl : k = n - i2 := by rcases Hal2.out with h | h <;> omega
  rw [show i2 + (n - i2) = n by omega] at h3
  have cX := h3.cap.cx
  have cM := h3.cap.cm
  have c0 := h3.px.nv
  have f0 := h3.px.fr 0 (by omega)
  have H3 := Lib.hid h3
  clear h3 hk
  go_wp2_with fail
  (refine wp_region_txt [] (by kernel_rfl) (by kernel_rfl) ?_; repeat (first | (refine wpTxt_pure rfl rfl (fun K hK => ?_); go_simp; refine hK _ ?_; clear hK K) | (refine wpTxt_still rfl rfl (fun K hK => ?_); go_simp; refine hK _ ?_; clear hK K)))
  (refine wpTxt_effect rfl rfl (fun K hK => ?_); go_simp; refine hK _ _ ?_; clear hK K)
  refine wpTxt_nil ?_
  go_wp2_with fail
  rw [show (N : Int) - n = (N - n : Nat) by omega]
  go_ret2
  have hcs : Chg (fun a x => a = d ∧ x = 0) w3 (w3.setCell ⟨d, 0, none⟩ (.int .i64 (N - n : Nat))).drew := ((Chg.refl _ _).setCell _ _ (fun _ => ⟨rfl, rfl⟩) _).drew
  have hx := H3.out.px
  refine ⟨rfl, ((Hc1.out.mono (fun _ _ _ h => h.elim)).trans H3.out.chg).trans (hcs.mono (fun _ _ _ h => .inl h.1)), fun j hj => hcs.keep (H3.out.out j hj) (fun h => hdo h.1.symm), World.cell?_setCell_same _ _ _ c0, let ⟨a, c, h1, h2⟩ := hx.da; ⟨a, c, hcs.keep h1 (by rintro ⟨-, h⟩; cases h), h2⟩, hcs.keep hx.bo (by rintro ⟨-, h⟩; cases h), fun j hj => (hcs.frozen _ _ hx.lt).trans (hx.fr j hj), hx.dt.keep hcs (fun j hj h => hx.ne h.1.symm), by have := hx.room; omega, hx.big, hx.ne⟩
end Go.Proofs.YtflgbndhahcdnaaGreatDoor
/- Words that are laid across two words: plain facts. No program in sight. -/
namespace Go.Proofs.YtflgbndhahcdnaaGreatDoor
open Go Go.RowKit
def shlw (W x k : Nat) : Nat := x * 2 ^ k % 2 ^ W
theorem shlw_lt (W x k : Nat) : shlw W x k < 2 ^ W := Nat.mod_lt _ (Nat.two_pow_pos W)
def rotw (W V r : Nat) : Nat := shlw W V r ||| V / 2 ^ (W - r)
theorem rotw_lt (W V r : Nat) (hV : V < 2 ^ W) : rotw W V r < 2 ^ W := Nat.or_lt_two_pow (shlw_lt _ _ _) (Nat.lt_of_le_of_lt (Nat.div_le_self _ _) hV)
theorem tb_over (W x t : Nat) (hx : x < 2 ^ W) (ht : W ≤ t) : x.testBit t = false := Nat.testBit_lt_two_pow (Nat.lt_of_lt_of_le hx (Nat.pow_le_pow_right (by decide) ht))
theorem rotw_tb (W V r t : Nat) (hV : V < 2 ^ W) (hr : r ≤ W) (ht : t < W) : (rotw W V r).testBit t = if t < r then V.testBit (t + (W - r)) else V.testBit (t - r) := by
  unfold rotw shlw
  rw [Nat.testBit_or, Nat.testBit_mod_two_pow, Nat.testBit_mul_two_pow, Nat.testBit_div_two_pow, decide_eq_true ht, Bool.true_and]
  by_cases h : t < r
  · rw [if_pos h, decide_eq_false (by omega), Bool.false_and, Bool.false_or]
  · rw [if_neg h, decide_eq_true (by omega), Bool.true_and, tb_over W V (t + (W - r)) hV (by omega), Bool.or_false]
def mixw (W x f m : Nat) : Nat := (x &&& m) ||| (f &&& (2 ^ W - 1 - m))
theorem mixw_lt (W x f m : Nat) (hx : x < 2 ^ W) (hf : f < 2 ^ W) : mixw W x f m < 2 ^ W := Nat.or_lt_two_pow (Nat.lt_of_le_of_lt Nat.and_le_left hx) (Nat.lt_of_le_of_lt Nat.and_le_left hf)
theorem tb_notw (W y t : Nat) (hy : y < 2 ^ W) (ht : t < W) : (2 ^ W - 1 - y).testBit t = !y.testBit t := by
  have := Nat.testBit_two_pow_sub_succ (x := y) (n := W) hy t
  rw [show 2 ^ W - (y + 1) = 2 ^ W - 1 - y by omega] at this
  rw [this, decide_eq_true ht, Bool.true_and]
theorem ones_lt (W r : Nat) (hr : r ≤ W) : 2 ^ r - 1 < 2 ^ W := by
  have := Nat.two_pow_pos r
  have := Nat.pow_le_pow_right (n := 2) (by decide) hr
  omega
theorem mixw_tb (W x f r t : Nat) (hr : r ≤ W) (ht : t < W) : (mixw W x f (2 ^ r - 1)).testBit t = if t < r then x.testBit t else f.testBit t := by
  unfold mixw
  rw [Nat.testBit_or, Nat.testBit_and, Nat.testBit_and, tb_notw W _ t (ones_lt W r hr) ht, tb_ones]
  by_cases h : t < r
  · rw [if_pos h, decide_eq_true h]; simp
  · rw [if_neg h, decide_eq_false h]; simp
/-- V laid across two words at bit r. -/
theorem paste_two (W p r c N V : Nat) (β : Nat → Bool) (hr : r ≤ W) (hV : V < 2 ^ W) (hc : ∀ t, t < W → c.testBit t = β (p + t)) (hN : ∀ t, t < W → N.testBit t = β (p + W + t)) :
    paste (paste β p W (mixw W c (rotw W V r) (2 ^ r - 1))) (p + W) W (mixw W (rotw W V r) N (2 ^ r - 1)) = paste β (p + r) W V := by
  funext i
  unfold paste
  by_cases h1 : p + W ≤ i ∧ i < p + W + W
  · rw [if_pos h1, mixw_tb _ _ _ _ _ hr (by omega)]
    by_cases h2 : i - (p + W) < r
    · rw [if_pos h2, rotw_tb _ _ _ _ hV hr (by omega), if_pos h2, if_pos (by omega)]
      congr 1; omega
    · rw [if_neg h2, if_neg (by omega), hN _ (by omega)]
      congr 1; omega
  · rw [if_neg h1]
    by_cases h3 : p ≤ i ∧ i < p + W
    · rw [if_pos h3, mixw_tb _ _ _ _ _ hr (by omega)]
      by_cases h2 : i - p < r
      · rw [if_pos h2, if_neg (by omega), hc _ (by omega)]
        congr 1; omega
      · rw [if_neg h2, rotw_tb _ _ _ _ hV hr (by omega), if_neg h2, if_pos (by omega)]
        congr 1; omega
    · rw [if_neg h3, if_neg (by omega)]
/-- The word behind holds what stands there now. -/
theorem paste_next (W p r c N V : Nat) (β : Nat → Bool) (hr : r ≤ W) (hV : V < 2 ^ W) (hc : ∀ t, t < W → c.testBit t = β (p + t)) (hN : ∀ t, t < W → N.testBit t = β (p + W + t)) (t : Nat) (ht : t < W) :
    (mixw W (rotw W V r) N (2 ^ r - 1)).testBit t = paste β (p + r) W V (p + W + t) := by
  rw [← paste_two W p r c N V β hr hV hc hN]
  unfold paste
  rw [if_pos (by omega)]
  congr 1; omega
theorem paste_far (W p : Nat) (β : Nat → Bool) (V i : Nat) (h : i < p ∨ p + W ≤ i) : paste β p W V i = β i := by
  unfold paste; rw [if_neg (by omega)]
theorem shlw8_is (x k : Nat) : IntKind.u8.wrap ((x : Int) * 2 ^ k) = (shlw 8 x k : Nat) := by
  rw [IntKind.wrap_u8]; unfold shlw; rw [Int.natCast_emod, Int.natCast_mul, Int.natCast_pow]; rfl
theorem shlw64_is (x k : Nat) : IntKind.u64.wrap ((x : Int) * 2 ^ k) = (shlw 64 x k : Nat) := shl64_is x k
end Go.Proofs.YtflgbndhahcdnaaGreatDoor
