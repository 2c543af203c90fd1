/- Part 15 of the proof: the texts W, CB, joined. What each proves stands ahead of it. -/
import Derived.Test.YtameepdbnnaaaaaGreatDoorKN
import Derived.Test.YtameepdbnnaaaaaGreatDoorKL
set_option linter.unusedVariables false
set_option linter.unusedSimpArgs false
/- The reader of runs: a batch of numbers. -/
namespace Go.Proofs.YtameepdbnnaaaaaGreatDoor
open Go Go.RowKit
/-- What may turn at a batch of runs. -/
def GTR (c : RC) (R ob oo len : Nat) : Nat → Nat → Prop := fun k x => k = c.B ∨ k = R ∨ (k = c.rb ∧ c.ro ≤ x ∧ x < c.ro + 3) ∨ (k = ob ∧ oo ≤ x ∧ x < oo + len)
/-- Behind k numbers of a batch; f says how a number is stored. -/
structure Gr (c : RC) (W R ob oo len : Nat) (F : Nat → Value) (vs : List Nat) (w wr : World) (k rep lit cur o f : Nat) : Prop where
  rl : Rl c W R (GTR c R ob oo len) vs w wr k rep lit cur o f
  out : ∀ j, j < k → wr.cell? ⟨ob, oo + j, none⟩ = some (F (vs.getD j 0))
  dst : Dst c wr ob oo len
  nR : ob ≠ R
theorem getD_of {vs : List Nat} {k j v : Nat} (h : (vs.drop k)[j]? = some v) : vs.getD (k + j) 0 = v := by
  rw [List.getElem?_drop] at h
  rw [List.getD_eq_getElem?_getD, h]; rfl
/-- Some numbers more have been laid, by S. -/
theorem Gr.more {c : RC} {W R ob oo len : Nat} {F : Nat → Value} {vs : List Nat} {w wr w1 : World} {k rep lit cur o f m rep' lit' cur' o' f' : Nat} (h : Gr c W R ob oo len F vs w wr k rep lit cur o f)
    {S : Nat → Nat → Prop} (hc : Chg S wr w1) (hS : ∀ a x, S a x → GTR c R ob (oo + k) m a x) (hm : k + m ≤ len) (hr : RD c W R rep' lit' cur' o' f' w1) (hp : Pos c.D c.L W rep' lit' cur' o' f' ((vs.drop k).drop m))
    (ho : ∀ j, j < m → ∃ v, (vs.drop k)[j]? = some v ∧ w1.cell? ⟨ob, oo + k + j, none⟩ = some (F v)) : Gr c W R ob oo len F vs w w1 (k + m) rep' lit' cur' o' f' := by
  have hn : ∀ j, j < k ∨ k + m ≤ j → ¬ S ob (oo + j) := by
    intro j hj hs
    rcases hS _ _ hs with hh | hh | hh | hh
    · exact h.dst.nB hh
    · exact h.nR hh
    · exact h.dst.nr hh.1
    · omega
  refine ⟨⟨hr, by rw [← List.drop_drop]; exact hp, h.rl.chg.trans (hc.mono ?_)⟩, ?_, ?_, h.nR⟩
  · intro a x _ hs
    rcases hS a x hs with hh | hh | hh | hh
    · exact .inl hh
    · exact .inr (.inl hh)
    · exact .inr (.inr (.inl hh))
    · exact .inr (.inr (.inr ⟨hh.1, by omega, by omega⟩))
  · intro j hj
    by_cases hjk : j < k
    · exact hc.keep (h.out j hjk) (hn j (.inl hjk))
    · obtain ⟨v, hv, hcl⟩ := ho (j - k) (by omega)
      have := getD_of hv
      rw [show k + (j - k) = j by omega] at this
      rw [this, show oo + j = oo + k + (j - k) by omega]
      exact hcl
  · refine ⟨fun j hj => ?_, fun j hj => ?_, h.dst.nB, h.dst.nr, h.dst.nb, h.dst.g⟩
    · by_cases hjk : j < k ∨ k + m ≤ j
      · obtain ⟨u, hu⟩ := h.dst.oth j hj; exact ⟨u, hc.keep hu (hn j hjk)⟩
      · obtain ⟨v, hv, hcl⟩ := ho (j - k) (by omega)
        rw [show oo + j = oo + k + (j - k) by omega]
        exact ⟨_, hcl⟩
    · obtain ⟨u, hu⟩ := h.dst.oth j hj
      exact (hc.frozen _ _ (World.block_lt_of_cell? wr _ hu)).trans (h.dst.ofr j hj)
/-- Numbers of one value are being laid. -/
structure Rp (ob oo k i : Nat) (v : Value) (w wr : World) : Prop where
  chg : Chg (fun a x => a = ob ∧ oo + k ≤ x ∧ x < oo + k + i) w wr
  out : ∀ j, j < i → wr.cell? ⟨ob, oo + k + j, none⟩ = some v
theorem Rp.step {ob oo k i : Nat} {v u : Value} {w wr : World} (h : Rp ob oo k i v w wr) (hu : wr.cell? ⟨ob, oo + k + i, none⟩ = some u) : Rp ob oo k (i + 1) v w (wr.setCell ⟨ob, oo + k + i, none⟩ v) := by
  refine ⟨(h.chg.mono (fun a x _ hh => ⟨hh.1, hh.2.1, by omega⟩)).setCell _ _ (fun _ => ⟨rfl, by omega, by omega⟩) _, fun j hj => ?_⟩
  by_cases hji : j = i
  · subst hji; exact World.cell?_setCell_same _ _ _ hu
  · exact cell_ne _ (h.out j (by omega)) (by omega)
set_option maxRecDepth 100000 in
set_option maxHeartbeats 1000000 in
theorem rleBatch_ok (c : RC) (W R rep lit cur o f ob oo len cap : Nat) (vs : List Nat) (w : World) (h : RD c W R rep lit cur o f w) (hp : Pos c.D c.L W rep lit cur o f vs) (hW1 : 1 ≤ W) (hW2 : W ≤ 64) (hlen : len ≤ vs.length) (hl : len ≤ 1000000000) (hd : Dst c w ob oo len) (hoR : ob ≠ R) (hcap : len ≤ cap) (hcap2 : cap ≤ 1000000000000000000) :
    Calls Tryz.prog 22 #[.pointer (some ⟨R, 0, none⟩), .slice (some ⟨ob, oo, none⟩) len cap] w fun e w' =>
      e = .returned (.tuple #[.int .i64 len, .nilIface]) ∧ ∃ rep' lit' cur' o' f', Gr c W R ob oo len (fun v => .int .u64 v) vs w w' len rep' lit' cur' o' f' := by
  have h0 : Gr c W R ob oo len (fun v => .int .u64 v) vs w w 0 rep lit cur o f := ⟨⟨h, hp, Chg.refl _ _⟩, fun j hj => by omega, hd, hoR⟩
  have H0 := Lib.hid h0; clear h0 h hp hd
  have Hlen := Lib.hid hlen; clear hlen
  go_enter Tryz.func22, Tryz.ntmps22
  go_wp2_with fail
  go_loopw [6, 8] (fun i s wx => ∃ k rep lit cur o f, k ≤ len ∧ i = .int .i64 k ∧ (k < len → s = .slice (some ⟨ob, oo + k, none⟩) (len - k) (cap - k)) ∧ Gr c W R ob oo len (fun v => .int .u64 v) vs w wx k rep lit cur o f) (fun i _ wx => 2 * (len - (intOf i).toNat) + idle wx R)
  case atStart => exact ⟨0, _, _, _, _, _, Nat.zero_le _, rfl, fun _ => rfl, H0.out⟩
  case round =>
    obtain ⟨k, rep, lit, cur, o, f, hk, rfl, hs, hG⟩ := hrel
    clear H0
    by_cases hlt : k < len
    · obtain rfl := hs hlt
      clear hs
      rcases hG.rl.pos.cases with ⟨hr1, rfl⟩ | ⟨rfl, hl1⟩ | ⟨rfl, rfl, hruns⟩
      · obtain ⟨m, hm⟩ : ∃ m, m = min (len - k) rep := ⟨_, rfl⟩
        have hm1 : 1 ≤ m := by omega
        have hmr : m ≤ rep := by omega
        have hmk : k + m ≤ len := by omega
        have hmi : (if (rep : Int) < (len : Int) - k then (rep : Int) else (len : Int) - k) = m := by split <;> omega
        have hrb := hG.rl.le.1
        have c3 := hG.rl.rd.re
        have f3 := hG.rl.rd.fr 3 (by omega)
        have c2 := hG.rl.rd.cu
        have HG := Lib.hid hG
        have Hm := Lib.hid hm
        have Hid0 := Lib.hid (idle_le wr R)
        clear hG hm
        have hr1' : (0 : Int) < rep := by omega
        go_wp2_with fail
        obtain ⟨wo, rfl⟩ : ∃ wo : World, wo = wr := ⟨_, rfl⟩
        go_loopw [11] (fun i wx => ∃ j, j ≤ m ∧ i = .int .i64 j ∧ Rp ob oo k j (.int .u64 cur) wo wx) (fun i _ => m - (intOf i).toNat)
        case atStart => exact ⟨0, Nat.zero_le _, rfl, Chg.refl _ _, fun j hj => by omega⟩
        case round =>
          obtain ⟨j, hj, rfl, hr⟩ := hrel
          have hno : ∀ x, ¬ (R = ob ∧ oo + k ≤ x ∧ x < oo + k + j) := by rintro x ⟨hh, -⟩; exact HG.out.nR hh.symm
          have d2 := hr.chg.keep c2 (hno _)
          have d3 := hr.chg.keep c3 (hno _)
          have e3 := (hr.chg.frozen R 3 HG.out.rl.rd.lt).trans f3
          by_cases hjm : j < m
          · obtain ⟨u, hu⟩ := HG.out.dst.oth (k + j) (by omega)
            have hfz := (hr.chg.frozen ob (oo + (k + j)) (World.block_lt_of_cell? _ _ hu)).trans (HG.out.dst.ofr (k + j) (by omega))
            have hu2 := hr.chg.keep hu (by rintro ⟨-, hh⟩; omega)
            rw [show oo + (k + j) = oo + k + j by omega] at hfz hu2
            have Hr := Lib.hid hr; clear hr hu
            have hjl : j < len - k := by omega
            go_wp2_with fail
            go_roundw
            case rel => exact ⟨j + 1, by omega, by go_num, Hr.out.step hu2⟩
            case measure => simp [intOf]; omega
          · obtain rfl : j = m := by omega
            have hR2 : RD c W R rep 0 cur o f wr := HG.out.rl.rd.keep hr.chg (by rintro a x ⟨rfl, -⟩; exact ⟨HG.out.dst.nb, HG.out.dst.nr, HG.out.dst.nB, HG.out.nR, HG.out.dst.g⟩)
            have hc2 : Chg (fun a x => a = R ∨ (a = ob ∧ oo + k ≤ x ∧ x < oo + k + j)) wo (wr.setCell ⟨R, 3, none⟩ (.int .i32 (rep - j : Nat))) := (hr.chg.mono (fun _ _ _ hh => .inr hh)).setCell _ _ (fun _ => .inl rfl) _
            have hG2 := HG.out.more hc2 (by rintro a x (hh | hh); exact .inr (.inl hh); exact .inr (.inr (.inr hh))) hmk (hR2.rep' (rep - j)) ((HG.out.rl.pos.took_rep hr1 hmr).1) (fun i hi => ⟨cur, (HG.out.rl.pos.took_rep hr1 hmr).2 i hi, cell_ne _ (hr.out i hi) (by rintro ⟨hh, -⟩; exact HG.out.nR hh)⟩)
            have hrm : (rep : Int) - j = (rep - j : Nat) := by omega
            rw [← hrm] at hG2
            have HG2 := Lib.hid hG2
            clear hR2 hc2 hG2 hrm hr hno
            go_wp2_with fail
            all_goals
              go_roundw
              case rel => exact ⟨k + j, rep - j, 0, cur, o, f, by omega, by push_cast; rfl, fun hh => by simp only [Nat.add_assoc, Nat.sub_sub]; rw [if_neg (by omega)], HG2.out⟩
              case measure =>
                have := Hid0.out
                have := idle_le (wr.setCell ⟨R, 3, none⟩ (.int .i32 (rep - j))) R
                simp [intOf]; omega
      · obtain ⟨m, hm⟩ : ∃ m, m = min (len - k) lit := ⟨_, rfl⟩
        have hm1 : 1 ≤ m := by omega
        have hml : m ≤ lit := by omega
        have hmk : k + m ≤ len := by omega
        have hmi : (if (lit : Int) < (len : Int) - k then (lit : Int) else (len : Int) - k) = m := by split <;> omega
        have hmt : ((m : Nat) : Int).toNat = m := by omega
        have hm00 : 0 ≤ (m : Int) := by omega
        have hm11 : m ≤ cap - k := by omega
        have hlb := hG.rl.le.2
        have c0 := hG.rl.rd.p
        have c1 := hG.rl.rd.wi
        have c3 := hG.rl.rd.re
        have c4 := hG.rl.rd.li
        have hbits := (hG.rl.pos.took_lit (m := 0) (o' := o) (f' := f) hl1 (by omega) (by omega)).2.2
        have e1 : lit * W = m * W + (lit - m) * W := by rw [← Nat.add_mul]; congr 1; omega
        have hdk : Dst c wr ob (oo + k) m := ⟨fun j hj => by have := hG.dst.oth (k + j) (by omega); rwa [← Nat.add_assoc] at this, fun j hj => by have := hG.dst.ofr (k + j) (by omega); rwa [← Nat.add_assoc] at this, hG.dst.nB, hG.dst.nr, hG.dst.nb, hG.dst.g⟩
        have hcall := getBatch_ok c o f W ob (oo + k) m (cap - k) wr.drew hG.rl.rd.rs.drew' (hdk.keep (Chg.drew (Chg.refl Nix wr)) (fun _ _ h => h)) hW1 hW2 (by omega) (by omega) (by omega)
        have Hcall := Lib.hid hcall; clear hcall e1 hbits hdk
        have HG := Lib.hid hG; clear hG
        have Hm := Lib.hid hm; clear hm
        have Hid0 := Lib.hid (idle_le wr R)
        have hl1' : (0 : Int) < lit := by omega
        have hwW : IntKind.u64.wrap (W : Int) = W := wrap64 _ (by omega) (by omega)
        go_wp2_with fail
        (refine wp_region_txt [] (by kernel_rfl) (by kernel_rfl) ?_; repeat (first | (refine wpTxt_pure rfl rfl (fun K hK => ?_); go_simp; refine hK _ ?_; clear hK K) | (refine wpTxt_still rfl rfl (fun K hK => ?_); go_simp; refine hK _ ?_; clear hK K)))
        refine wpTxt_effect rfl rfl (fun K hK => ?_); go_simp
        refine Hcall.out.mono ?_
        rintro e w1 ⟨rfl, h1, hout, o1, f1, hpos, hN⟩
        have h1' := h1.undrew
        have hSR : ∀ x, ¬ GT c ob (oo + k) m R x := by
          rintro x (hh | hh | hh)
          · exact HG.out.rl.rd.nB hh
          · exact HG.out.rl.rd.nr hh.1
          · exact HG.out.nR hh.1.symm
        have hR1 := HG.out.rl.rd.read h1' hSR hN.rs
        have c4' := hR1.li
        have f4' := hR1.fr 4 (by omega)
        have ht := HG.out.rl.pos.took_lit hl1 hml hpos
        have hc2 : Chg (fun a x => a = R ∨ GT c ob (oo + k) m a x) wr (w1.setCell ⟨R, 4, none⟩ (.int .i32 (lit - m : Nat))) := (h1'.mono (fun _ _ _ hh => .inr hh)).setCell _ _ (fun _ => .inl rfl) _
        have hG2 := HG.out.more hc2 (by rintro a x (hh | hh | hh | hh); exact .inr (.inl hh); exact .inl hh; exact .inr (.inr (.inl hh)); exact .inr (.inr (.inr hh))) hmk (hR1.lit' (lit - m)) ht.1 (fun i hi => ⟨_, ht.2.1 i hi, cell_ne _ (hout i hi) (by rintro ⟨hh, -⟩; exact HG.out.nR hh)⟩)
        have hrm : (lit : Int) - m = (lit - m : Nat) := by omega
        rw [← hrm] at hG2
        have HG2 := Lib.hid hG2
        clear h1 h1' hR1 hG2 hrm c0 c1 c3 c4 ht hc2 hout hSR
        (refine hK _ _ ?_; clear hK K)
        repeat (first | (refine wpTxt_pure rfl rfl (fun K hK => ?_); go_simp; refine hK _ ?_; clear hK K) | (refine wpTxt_still rfl rfl (fun K hK => ?_); go_simp; refine hK _ ?_; clear hK K))
        refine wpTxt_nil ?_
        go_wp2_with fail
        all_goals
          go_roundw
          case rel => exact ⟨k + m, 0, lit - m, cur, o1, f1, by omega, by push_cast; rfl, fun hh => by simp only [Nat.add_assoc, Nat.sub_sub]; rw [if_neg (by omega)], HG2.out⟩
          case measure =>
            have := Hid0.out
            have := idle_le (w1.setCell ⟨R, 4, none⟩ (.int .i32 (lit - m))) R
            simp [intOf]; omega
      · have c3 := hG.rl.rd.re
        have c4 := hG.rl.rd.li
        have Hcall := Lib.hid (rleNext_ok c W R cur o f (vs.drop k) wr hG.rl.rd hW1 hW2 hruns (ne_drop hlt Hlen.out))
        have Hid1 := Lib.hid (idle_yes hG.rl.rd)
        have HG := Lib.hid hG; clear hG
        clear hruns
        go_wp2_with fail
        refine Hcall.out.mono ?_
        rintro e w1 ⟨rfl, h1, rep2, lit2, cur2, o2, f2, hR2, hP2, hz⟩
        have Hid2 := Lib.hid (idle_is hR2 hz)
        have hG2 := HG.out.more (m := 0) h1 (by rintro a x (hh | hh); exact .inl hh; exact .inr (.inl hh)) (by omega) hR2 hP2 (fun j hj => by omega)
        rw [Nat.add_zero] at hG2
        have HG2 := Lib.hid hG2
        clear h1 hR2 hP2 hz hG2
        go_wp2_with fail
        go_roundw
        case rel => exact ⟨k, rep2, lit2, cur2, o2, f2, hk, rfl, fun _ => rfl, HG2.out⟩
        case measure =>
          have := Hid1.out
          have := Hid2.out
          simp [intOf]; omega
    · have hke : k = len := by omega
      subst hke
      have HG := Lib.hid hG; clear hG
      go_wp2_with fail
      go_ret2
      exact ⟨rfl, _, _, _, _, _, HG.out⟩
end Go.Proofs.YtameepdbnnaaaaaGreatDoor
/- The reader of runs: a batch to a bitmap; one number. -/
namespace Go.Proofs.YtameepdbnnaaaaaGreatDoor
open Go Go.RowKit
/-- What may turn at a batch of runs to a bitmap. -/
def GTRM (c : RC) (R b off n : Nat) : Nat → Nat → Prop := fun k x => k = R ∨ GTM c b off n k x
/-- Numbers as bits. -/
def bitsOf (vs : List Nat) : Nat → Bool := fun t => vs.getD t 0 != 0
/-- Behind k bits. -/
structure Gbm (c : RC) (R b off n d : Nat) (β : Nat → Bool) (vs : List Nat) (w wr : World) (k rep lit cur o f : Nat) : Prop where
  rl : Rl c 1 R (GTRM c R b off n) vs w wr k rep lit cur o f
  bm : Bmp wr b off n (copyB β (bitsOf vs) d k)
  tab : Tabs wr
  nB : b ≠ c.B
  nr : b ≠ c.rb
  nb : b ≠ c.b
  nR : b ≠ R
  g : 8 < b
theorem Gbm.more {c : RC} {R b off n d : Nat} {β : Nat → Bool} {vs : List Nat} {w wr w1 : World} {k rep lit cur o f m rep' lit' cur' o' f' : Nat} (h : Gbm c R b off n d β vs w wr k rep lit cur o f)
    {S : Nat → Nat → Prop} (hc : Chg S wr w1) (hS : ∀ a x, S a x → GTRM c R b off n a x) (hr : RD c 1 R rep' lit' cur' o' f' w1) (hp : Pos c.D c.L 1 rep' lit' cur' o' f' ((vs.drop k).drop m)) (hb : Bmp w1 b off n (copyB β (bitsOf vs) d (k + m))) : Gbm c R b off n d β vs w w1 (k + m) rep' lit' cur' o' f' :=
  ⟨⟨hr, by rw [← List.drop_drop]; exact hp, h.rl.chg.trans (hc.mono (fun a x _ hh => hS a x hh))⟩, hb, h.tab.keep hc (by
    intro a x hh
    rcases hS a x hh with hh | hh | hh | hh
    · rw [hh]; exact h.rl.rd.g
    · rw [hh]; exact h.rl.rd.rs.env.gB
    · rw [hh.1]; exact h.rl.rd.rs.env.gr
    · rw [hh.1]; exact h.g), h.nB, h.nr, h.nb, h.nR, h.g⟩
theorem fill_copy (β : Nat → Bool) (st len : Nat) (v : Bool) : fillB β st len v = copyB β (fun _ => v) st len := rfl
set_option maxRecDepth 100000 in
set_option maxHeartbeats 1000000 in
theorem rleBitmap_ok (c : RC) (R rep lit cur o f b off n cap d len : Nat) (β : Nat → Bool) (vs : List Nat) (w : World) (h : RD c 1 R rep lit cur o f w) (hp : Pos c.D c.L 1 rep lit cur o f vs) (hlen : len ≤ vs.length) (hl : len ≤ 10000000) (hT : Tabs w) (hB : Bmp w b off n β) (nB : b ≠ c.B) (nr : b ≠ c.rb) (nb : b ≠ c.b) (nR : b ≠ R) (hg : 8 < b) (hd : d + len ≤ 8 * n) (hnc : n ≤ cap) (hcap : cap ≤ 100000000) :
    Calls Tryz.prog 24 #[.pointer (some ⟨R, 0, none⟩), .slice (some ⟨b, off, none⟩) n cap, .int .i64 d, .int .i64 len] w fun e w' =>
      e = .returned (.tuple #[.int .i64 len, .nilIface]) ∧ ∃ rep' lit' cur' o' f', Gbm c R b off n d β vs w w' len rep' lit' cur' o' f' := by
  have h0 : Gbm c R b off n d β vs w w 0 rep lit cur o f := ⟨⟨h, hp, Chg.refl _ _⟩, by rw [copyB_zero]; exact hB, hT, nB, nr, nb, nR, hg⟩
  have c1 := h.wi
  have H0 := Lib.hid h0; clear h0 h hp hB hT
  have Hlen := Lib.hid hlen; clear hlen
  go_enter Tryz.func24, Tryz.ntmps24
  go_wp2_with fail
  clear c1
  go_loopw [10] (fun i wx => ∃ k rep lit cur o f, k ≤ len ∧ i = .int .i64 k ∧ Gbm c R b off n d β vs w wx k rep lit cur o f) (fun i wx => 2 * (len - (intOf i).toNat) + idle wx R)
  case atStart => exact ⟨0, _, _, _, _, _, Nat.zero_le _, rfl, H0.out⟩
  case round =>
    obtain ⟨k, rep, lit, cur, o, f, hk, rfl, hG⟩ := hrel
    clear H0
    by_cases hlt : k < len
    · have hdk : (d : Int) + k = (d + k : Nat) := by push_cast; rfl
      have Hdk := Lib.hid hdk; clear hdk
      rcases hG.rl.pos.cases with ⟨hr1, rfl⟩ | ⟨rfl, hl1⟩ | ⟨rfl, rfl, hruns⟩
      · obtain ⟨m, hm⟩ : ∃ m, m = min (len - k) rep := ⟨_, rfl⟩
        have hm1 : 1 ≤ m := by omega
        have hmr : m ≤ rep := by omega
        have hmk : k + m ≤ len := by omega
        have hmi : (if (rep : Int) < (len : Int) - k then (rep : Int) else (len : Int) - k) = m := by split <;> omega
        have hrb := hG.rl.le.1
        have c3 := hG.rl.rd.re
        have c2 := hG.rl.rd.cu
        have hcur : ∀ t, t < m → (cur != 0) = bitsOf vs (k + t) := by
          intro t ht
          unfold bitsOf
          rw [getD_of ((hG.rl.pos.took_rep hr1 hmr).2 t ht)]
        obtain ⟨v, hv⟩ : ∃ v, v = (cur != 0) := ⟨_, rfl⟩
        have hvi : ((cur : Int) != 0) = v := by
          rw [hv, Bool.eq_iff_iff]; simp
        rw [← hv] at hcur
        have hset := setBitsTo_ok b off n cap (d + k) m v _ wr hG.tab hG.g hG.bm (by omega) (by omega) hnc
        rw [fill_copy, copyB_two _ _ _ _ _ _ hcur] at hset
        have Hset := Lib.hid hset
        have HG := Lib.hid hG
        have Hm := Lib.hid hm
        have Hid0 := Lib.hid (idle_le wr R)
        clear hG hm hset hcur hv
        have hr1' : (0 : Int) < rep := by omega
        go_wp2_with fail
        rw [Hdk.out]
        refine Hset.out.mono ?_
        rintro e w1 ⟨rfl, h1, b1⟩
        have hR1 := HG.out.rl.rd.keep h1 (by rintro a x ⟨rfl, -⟩; exact ⟨HG.out.nb, HG.out.nr, HG.out.nB, HG.out.nR, HG.out.g⟩)
        have c3' := hR1.re
        have f3' := hR1.fr 3 (by omega)
        have hc2 : Chg (fun a x => a = R ∨ RowS b off n a x) wr (w1.setCell ⟨R, 3, none⟩ (.int .i32 (rep - m : Nat))) := (h1.mono (fun _ _ _ hh => .inr hh)).setCell _ _ (fun _ => .inl rfl) _
        have hG2 := HG.out.more hc2 (by rintro a x (hh | hh); exact .inl hh; exact .inr (.inr (.inr hh))) (hR1.rep' (rep - m)) ((HG.out.rl.pos.took_rep hr1 hmr).1) (b1.keep ((Chg.refl (Own R) w1).own 3 _) (fun _ _ hh => HG.out.nR hh))
        have hrm : (rep : Int) - m = (rep - m : Nat) := by omega
        rw [← hrm] at hG2
        have HG2 := Lib.hid hG2
        clear h1 b1 hR1 hc2 hG2 hrm c3 c2
        go_wp2_with fail
        go_roundw
        case rel => exact ⟨k + m, rep - m, 0, cur, o, f, by omega, by push_cast; rfl, HG2.out⟩
        case measure =>
          have := Hid0.out
          have := idle_le (w1.setCell ⟨R, 3, none⟩ (.int .i32 (rep - m))) R
          simp [intOf]; omega
      · obtain ⟨m, hm⟩ : ∃ m, m = min (len - k) lit := ⟨_, rfl⟩
        have hm1 : 1 ≤ m := by omega
        have hml : m ≤ lit := by omega
        have hmk : k + m ≤ len := by omega
        have hmi : (if (lit : Int) < (len : Int) - k then (lit : Int) else (len : Int) - k) = m := by split <;> omega
        have hlb := hG.rl.le.2
        have c0 := hG.rl.rd.p
        have c3 := hG.rl.rd.re
        have c4 := hG.rl.rd.li
        have hbits := (hG.rl.pos.took_lit (m := 0) (o' := o) (f' := f) hl1 (by omega) (by omega)).2.2
        have hb2 : ∀ t, t < m → bitS c.D (8 * o + f) t = bitsOf vs (k + t) := by
          intro t ht
          have := getD_of ((hG.rl.pos.took_lit (o' := o) (f' := f + m * 1) hl1 hml (by omega)).2.1 t ht)
          unfold bitsOf
          rw [this, Nat.mul_one, ← bitS_one, Bool.eq_iff_iff]; simp
        have hcall := getBitmap_ok c o f b off n cap (d + k) m _ wr hG.rl.rd.rs hG.tab hG.bm hG.nB hG.nr hG.nb hG.g hm1 (by omega) (by omega) hnc hcap
        rw [copyB_two _ _ _ _ _ _ hb2] at hcall
        have Hcall := Lib.hid hcall; clear hcall hbits hb2
        have HG := Lib.hid hG; clear hG
        have Hm := Lib.hid hm; clear hm
        have Hid0 := Lib.hid (idle_le wr R)
        have hl1' : (0 : Int) < lit := by omega
        go_wp2_with fail
        rw [Hdk.out]
        refine Hcall.out.mono ?_
        rintro e w1 ⟨rfl, h1, b1, o1, f1, hpos, hN⟩
        have hSR : ∀ x, ¬ GTM c b off n R x := by
          rintro x (hh | hh | hh)
          · exact HG.out.rl.rd.nB hh
          · exact HG.out.rl.rd.nr hh.1
          · exact HG.out.nR hh.1.symm
        have hR1 := HG.out.rl.rd.read h1 hSR hN.rs
        have c4' := hR1.li
        have f4' := hR1.fr 4 (by omega)
        have ht := HG.out.rl.pos.took_lit hl1 hml (by rw [hpos, Nat.mul_one] : 8 * o1 + f1 = 8 * o + f + m * 1)
        have hc2 : Chg (fun a x => a = R ∨ GTM c b off n a x) wr (w1.setCell ⟨R, 4, none⟩ (.int .i32 (lit - m : Nat))) := (h1.mono (fun _ _ _ hh => .inr hh)).setCell _ _ (fun _ => .inl rfl) _
        have hG2 := HG.out.more hc2 (fun a x hh => hh) (hR1.lit' (lit - m)) ht.1 (b1.keep ((Chg.refl (Own R) w1).own 4 _) (fun _ _ hh => HG.out.nR hh))
        have hrm : (lit : Int) - m = (lit - m : Nat) := by omega
        rw [← hrm] at hG2
        have HG2 := Lib.hid hG2
        clear h1 b1 hR1 hG2 hrm c0 c3 c4 ht hc2 hSR
        go_wp2_with fail
        go_roundw
        case rel => exact ⟨k + m, 0, lit - m, cur, o1, f1, by omega, by push_cast; rfl, HG2.out⟩
        case measure =>
          have := Hid0.out
          have := idle_le (w1.setCell ⟨R, 4, none⟩ (.int .i32 (lit - m))) R
          simp [intOf]; omega
      · have c3 := hG.rl.rd.re
        have c4 := hG.rl.rd.li
        have Hcall := Lib.hid (rleNext_ok c 1 R cur o f (vs.drop k) wr hG.rl.rd (by omega) (by omega) hruns (ne_drop hlt Hlen.out))
        have Hid1 := Lib.hid (idle_yes hG.rl.rd)
        have HG := Lib.hid hG; clear hG
        clear hruns
        go_wp2_with fail
        refine Hcall.out.mono ?_
        rintro e w1 ⟨rfl, h1, rep2, lit2, cur2, o2, f2, hR2, hP2, hz⟩
        have Hid2 := Lib.hid (idle_is hR2 hz)
        have hG2 := HG.out.more (m := 0) h1 (by rintro a x (hh | hh); exact .inr (.inl hh); exact .inl hh) hR2 hP2 (HG.out.bm.keep h1 (by rintro j _ (hh | hh); exact HG.out.nB hh; exact HG.out.nR hh))
        rw [Nat.add_zero] at hG2
        have HG2 := Lib.hid hG2
        clear h1 hR2 hP2 hz hG2
        go_wp2_with fail
        go_roundw
        case rel => exact ⟨k, rep2, lit2, cur2, o2, f2, hk, rfl, HG2.out⟩
        case measure =>
          have := Hid1.out
          have := Hid2.out
          simp [intOf]; omega
    · have hke : k = len := by omega
      subst hke
      have HG := Lib.hid hG; clear hG
      go_wp2_with fail
      go_ret2
      exact ⟨rfl, _, _, _, _, _, HG.out⟩
end Go.Proofs.YtameepdbnnaaaaaGreatDoor
