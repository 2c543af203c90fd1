/- Part 12 of the proof: the texts L2B, L2C, LD, joined. What each proves stands ahead of it. -/
import Derived.Test.YtaageikelkcphaaGreatDoorKJ
import Derived.Test.YtaageikelkcphaaGreatDoorKK
set_option linter.unusedVariables false
set_option linter.unusedSimpArgs false
/- The decoder of deltas: the next mini block, walked (width above 0). -/
namespace Go.Proofs.YtaageikelkcphaaGreatDoor
open Go Go.RowKit
set_option maxRecDepth 100000 in
set_option maxHeartbeats 40000000 in
theorem unpackMini1_ok (O : Nat → Prop) (c : RC) (w : World) (d mb b o f q i W n S M : Nat) (nv : Int) (data : Value) (cbv cmb md w8 tot last : Int) (mbv dbuf : Value)
    (h : DX c w d mb o f (dl nv data true (.pointer (some ⟨c.B, 0, none⟩)) S cbv M n cmb md i (.pointer (some ⟨mb, 0, none⟩)) w8 tot last mbv dbuf) M 64 (.slice (some ⟨b, 0, none⟩) 64 64))
    (hs : Scr O c w d mb (.slice (some ⟨b, 0, none⟩) 64 64) mbv dbuf n)
    (hof : 8 * o + f = 8 * q) (hi : i < M) (hM : M < 64) (hw : w.cell? ⟨b, i, none⟩ = some (.int .u8 W)) (hW : W ≤ 32) (hn : n % 32 = 0) (hn1 : 0 < n) (hn2 : n ≤ 1024) (hq : q + n * W / 8 ≤ c.L) (hL : 0 < c.L) (hmd : RowKit.wrap64 md = md) (hW1 : 1 ≤ W) :
    Calls Tryz.prog 48 #[.pointer (some ⟨d, 0, none⟩)] w fun e w' => e = .returned .nilIface ∧
      UE O c w w' d mb b q W n M md last (fun mbv dbuf => dl nv data true (.pointer (some ⟨c.B, 0, none⟩)) S cbv M n n md (i + 1) (.pointer (some ⟨mb, 0, none⟩)) W tot (miniX c.D q W md last n) mbv dbuf) := by
  have p17 := h.row.at 17 rfl
  have p17f := h.row.fr 17
  have p9 := h.row.at 9 rfl
  have hdl := h.dlt
  have H := Lib.hid h; clear h
  have Hs := Lib.hid hs; clear hs
  have hmk := make_i32 n (by omega)
  have hnl := i32s_nil
  have hnn := i32s_not_nil
  obtain ⟨z, hz, hg⟩ : ∃ z : Bool, (∀ W, (binOp .eql 61 mbv (.slice none 0 0)).run Tryz.prog W = .ok (.bool z) W) ∧ ∀ W x y, (eqGuard .eql 61 x y mbv (.slice none 0 0)).run Tryz.prog W = .ok () W := by
    rcases Hs.out.mv with rfl | ⟨vb, len, hov, hv⟩
    · exact ⟨true, i32s_nil, fun W x y => by kernel_rfl⟩
    · have := hv.v
      subst this
      exact ⟨false, fun W => i32s_not_nil _ _ _ W, fun W x y => by kernel_rfl⟩
  have Hw := Lib.hid hw; clear hw
  go_enter Tryz.func48, Tryz.ntmps48
  go_upto_if 19 with fail
  go_cut [2] (fun v wx => v = .nilIface ∧ ∃ vb, (O vb ∨ w.heap.size ≤ vb) ∧ (∀ x l k, dbuf = .slice (some ⟨x, 0, none⟩) l k → vb ≠ x) ∧ Chg (Own d) w wx ∧ OwnV c wx d mb (.slice (some ⟨b, 0, none⟩) 64 64) (.slice (some ⟨vb, 0, none⟩) 0 n) 0 n vb ∧ DX c wx d mb o f (dl nv data true (.pointer (some ⟨c.B, 0, none⟩)) S cbv M n cmb md i (.pointer (some ⟨mb, 0, none⟩)) w8 tot last (.slice (some ⟨vb, 0, none⟩) 0 n) dbuf) M 64 (.slice (some ⟨b, 0, none⟩) 64 64))
  case first =>
    as_aux_lemma =>
      rcases Hs.out.mv with rfl | ⟨vb, len, hov, hv⟩
      · obtain rfl : z = true := by
          have h1 := (hz w).symm.trans (i32s_nil w)
          injection h1 with h1; injection h1
        clear hz hg
        go_wp2_with fail
        go_meet
        have hx := H.out
        refine ⟨rfl, w.heap.size, .inr (Nat.le_refl _), (fun x l k e => ?_), ((Chg.refl (Own d) w).own 17 _).alloc _, ?_, (hx.put 17 _).new (Chg.new _ _)⟩
        · rcases Hs.out.dv with e2 | ⟨gb, -, hgb⟩
          · rw [e] at e2; cases e2
          · have e3 := hgb.v
            rw [e] at e3
            injection e3 with e3; injection e3 with e3; injection e3 with e3
            have := hgb.lt
            omega
        · exact OwnV.made (.int .i32 0) 21 (hx.put 17 (.slice (some ⟨w.heap.size, 0, none⟩) 0 n)) hL rfl 0 (Nat.zero_le n) (by simp)
      · have hvv := hv.v
        subst hvv
        obtain rfl : z = false := by
          have h1 := (hz w).symm.trans (i32s_not_nil _ _ _ w)
          injection h1 with h1; injection h1
        clear hz hg
        go_wp2_with fail
        go_meet
        have hx := H.out
        have hc : Chg (Own d) w (w.setCell ⟨d, 17, none⟩ (.slice (some ⟨vb, 0, none⟩) 0 n)) := (Chg.refl (Own d) w).own 17 _
        exact ⟨rfl, vb, .inl hov, (fun x l k e => Hs.out.ne _ _ _ _ _ _ rfl e), hc, (hv.len 0 (Nat.zero_le _)).keep hc (fun _ e => hv.nd e), hx.put 17 _⟩
  case rest =>
    obtain ⟨rfl, vb, hvO, hvd, hC, hO, hX⟩ := hcut
    clear hz hg p17 p17f p9
    have p11 := hX.row.at 11 rfl
    have p13 := hX.row.at 13 rfl
    have p12 := hX.row.at 12 rfl
    have p14 := hX.row.at 14 rfl
    have p14f := hX.row.fr 14
    have hbd := (hX.bvn b rfl).1
    have hwb := hC.keep Hw.out (fun e => hbd e)
    have HX := Lib.hid hX
    have HO := Lib.hid hO
    have HC := Lib.hid hC
    clear hX hO hC
    have hiM : (i : Int) < M := by omega
    have hin : (i : Int).toNat = i := by omega
    have hiw : IntKind.i64.wrap (i : Int) = i := IntWalk.i64_in _ (by omega)
    go_upto_region 4 with fail
    go_cut [2] (fun v wx => v = .nilIface ∧ Chg (Own d) w wx ∧ OwnV c wx d mb (.slice (some ⟨b, 0, none⟩) 64 64) (.slice (some ⟨vb, 0, none⟩) 0 n) 0 n vb ∧ DX c wx d mb o f (dl nv data true (.pointer (some ⟨c.B, 0, none⟩)) S cbv M n cmb md i (.pointer (some ⟨mb, 0, none⟩)) W tot last (.slice (some ⟨vb, 0, none⟩) 0 n) dbuf) M 64 (.slice (some ⟨b, 0, none⟩) 64 64))
    case first =>
      have HI : HR.InvL [(⟨d, 13, none⟩, .pointer (some ⟨mb, 0, none⟩)), (⟨d, 12, none⟩, .int .u64 i), (⟨b, i, none⟩, .int .u8 W)] wc.drew := .cons p13 (.cons p12 (.cons hwb (.nil _)))
      refine HR.region (HR.InvL [(⟨d, 13, none⟩, .pointer (some ⟨mb, 0, none⟩)), (⟨d, 12, none⟩, .int .u64 i), (⟨b, i, none⟩, .int .u8 W)]) (by kernel_rfl) (by kernel_rfl) ?_
      repeat (first | (refine HR.pure rfl rfl (fun K hK => ?_); go_simp; refine hK _ ?_; clear hK K) | (refine HR.loadI HI 0 rfl rfl rfl ?_ ?_; (focus (intro w' hc; go_simp; done)); go_simp) | (refine HR.loadI HI 1 rfl rfl rfl ?_ ?_; (focus (intro w' hc; go_simp; done)); go_simp) | (refine HR.loadI HI 2 rfl rfl rfl ?_ ?_; (focus (intro w' hc; go_simp; done)); go_simp) | (refine HR.loadI HI 3 rfl rfl rfl ?_ ?_; (focus (intro w' hc; go_simp; done)); go_simp))
      (refine HR.effect rfl rfl HI (fun K hK => ?_); go_simp)
      refine (bufBytes_ok _ mb M b (by exact HX.out.drew.wb) (by omega) hM).mono ?_
      rintro e w6 ⟨rfl, rfl⟩
      dsimp only
      refine HR.back hK ?_ (fun HI2 => ?_)
      · exact HI
      clear hK K HI
      have HI := HI2
      repeat (first | (refine HR.pure rfl rfl (fun K hK => ?_); go_simp; refine hK _ ?_; clear hK K) | (refine HR.loadI HI 0 rfl rfl rfl ?_ ?_; (focus (intro w' hc; go_simp; done)); go_simp) | (refine HR.loadI HI 1 rfl rfl rfl ?_ ?_; (focus (intro w' hc; go_simp; done)); go_simp) | (refine HR.loadI HI 2 rfl rfl rfl ?_ ?_; (focus (intro w' hc; go_simp; done)); go_simp) | (refine HR.loadI HI 3 rfl rfl rfl ?_ ?_; (focus (intro w' hc; go_simp; done)); go_simp))
      (refine HR.store rfl rfl (fun K hK => ?_); go_simp; refine hK _ _ ?_; clear hK K)
      refine HR.nil ?_
      go_wp2_with fail
      go_meet
      exact ⟨rfl, (HC.out.own 14 _).drew.drew, HO.out.keep ((Chg.refl (Own d) wc).own 14 _).drew.drew (fun _ e => HO.out.nd e), (HX.out.put 14 _).drew.drew⟩
    case rest =>
      obtain ⟨rfl, hC, hO, hX⟩ := hcut
      have hbl := H.out.lts hL |>.2.2.1
      clear p11 p13 p12 p14 p14f hwb HX HO HC
      have p14 := hX.row.at 14 rfl
      have p9 := hX.row.at 9 rfl
      have p10 := hX.row.at 10 rfl
      have p10f := hX.row.fr 10
      have HX := Lib.hid hX
      have HO := Lib.hid hO
      have HC := Lib.hid hC
      clear hX hO hC
      have hW' : ¬ (32 : Int) < W := by omega
      have hnw : IntKind.i64.wrap (n : Int) = n := IntWalk.i64_in _ (by omega)
      go_wp2_with fail
      refine (isInt32_ok _).mono ?_
      rintro e w3 ⟨rfl, rfl⟩
      go_upto_if 78 with fail
      have hX0 := HX.out.put 10 (.int .u32 n)
      have hc0 : Chg (Own d) w3 (w3.setCell ⟨d, 10, none⟩ (.int .u32 n)) := (Chg.refl _ _).own 10 _
      have hO0 := HO.out.keep hc0 (fun _ e => HO.out.nd e)
      have hC0 := HC.out.own 10 (.int .u32 n)
      generalize w3.setCell ⟨d, 10, none⟩ (.int .u32 n) = wA at hX0 hc0 hO0 hC0 ⊢
      have hU0 : ∀ T : Nat → Prop, T d → UM T c w wA d mb b (miniX c.D q W md last) vb n (LU nv data (.pointer (some ⟨c.B, 0, none⟩)) S cbv M n md i (.pointer (some ⟨mb, 0, none⟩)) W tot dbuf) M o f 0 := fun T hT => ⟨hC0.mono (fun a _ _ (e : a = d) => e ▸ hT), hX0, hO0, fun j hj => by omega⟩
      have HU0 := Lib.hid hU0
      clear hX0 hc0 hO0 hC0 hU0 HX HO HC p14 p9 p10 p10f
      go_cut [2] (fun v wx => v = .nilIface ∧ UE O c w wx d mb b q W n M md last (fun mbv dbuf => dl nv data true (.pointer (some ⟨c.B, 0, none⟩)) S cbv M n n md i (.pointer (some ⟨mb, 0, none⟩)) W tot (miniX c.D q W md last n) mbv dbuf))
      case first =>
        obtain ⟨X, hXX⟩ : ∃ X, X = miniX c.D q W md last := ⟨_, rfl⟩
        have hcb : ((W : Int) == 0) = false := by rw [beq_eq_false_iff_ne]; omega
        have hn32 : n * W / 8 * 8 = n * W := Nat.div_mul_cancel (Nat.dvd_trans (Nat.dvd_of_mod_eq_zero (show n % 8 = 0 by omega)) (Nat.dvd_mul_right n W))
        have hmin : min (n : Int) 1024 = n := by omega
        have hmn : min (n : Int) n = n := by omega
        have hn0 : (0 : Int) < n := by omega
        have hnn0 : ¬ (n : Int) < n := by omega
        have hmk2 := make_U64 n (by omega)
        have HU1 := Lib.hid (HU0.out (fun a => a = d ∨ a = vb) (.inl rfl))
        obtain ⟨pd, ld, kd, rfl⟩ : ∃ pd ld kd, dbuf = .slice pd ld kd := by
          rcases Hs.out.dv with e | ⟨gb, -, ho⟩
          · exact ⟨_, _, _, e⟩
          · exact ⟨_, _, _, ho.v⟩
        have p18 := HU1.out.dx.row.at 18 rfl
        have p18f := HU1.out.dx.row.fr 18
        have hdlA := HU1.out.dx.dlt
        go_upto_if 117 with fail
        rw [hcb]
        go_cut [2, 7] (fun v2 v7 wx => v2 = .nilIface ∧ v7 = .int .i64 n ∧ ∃ gb, (O gb ∨ w.heap.size ≤ gb) ∧ gb ≠ vb ∧ OwnV c wx d mb (.slice (some ⟨b, 0, none⟩) 64 64) (.slice (some ⟨gb, 0, none⟩) n n) n n gb ∧ UM (fun a => a = d ∨ a = vb) c w wx d mb b (miniX c.D q W md last) vb n (LU nv data (.pointer (some ⟨c.B, 0, none⟩)) S cbv M n md i (.pointer (some ⟨mb, 0, none⟩)) W tot (.slice (some ⟨gb, 0, none⟩) n n)) M o f 0)
        case first =>
          rcases Hs.out.dv with e | ⟨gb, hgb, ho⟩
          · injection e with e1 e2 e3
            subst e1 e2 e3
            go_wp2_with fail
            go_meet
            have hu := HU1.out
            have hsz := hu.chg.size
            have hvl := hu.own.lt
            have hu2 := hu.dbuf (.inl rfl) (.slice (some ⟨wA.heap.size, 0, none⟩) n n)
            have hnew := hu2.new (Chg.new _ (.cells (madeCells #[.int .u64 0] n) 70))
            have hgo := OwnV.made (.int .u64 0) 70 hu2.dx hL rfl n (Nat.le_refl n) (show wA.heap.size = (wA.setCell ⟨d, 18, none⟩ (.slice (some ⟨wA.heap.size, 0, none⟩) n n)).heap.size by simp)
            refine ⟨rfl, rfl, wA.heap.size, .inr hsz, by omega, hgo, hnew⟩
          · have e := ho.v
            injection e with e1 e2 e3
            subst e1 e2 e3
            go_wp2_with fail
            go_meet
            exact ⟨rfl, rfl, gb, .inl hgb, (hvd _ _ _ rfl).symm, ho.keep HU1.out.chg (fun x e => e.elim ho.nd (hvd _ _ _ rfl).symm), HU1.out⟩
        case rest =>
          obtain ⟨rfl, rfl, gb, hgO, hgv, hgo, hU⟩ := hcut
          clear p18 p18f hdlA HU1 HU0
          have HU := Lib.hid hU
          have Hgo := Lib.hid hgo
          have p18 := hU.dx.row.at 18 rfl
          have p18f := hU.dx.row.fr 18
          have p11 := hU.dx.row.at 11 rfl
          clear hU hgo
          have hin2 : (n : Int).toNat = n := by omega
          have hnle : (n : Int) ≤ n := Int.le_refl _
          have h0n : (0 : Int) ≤ n := by omega
          go_wp2_with fail
          have hU2 := (HU.out.dbuf (.inl rfl) (.slice (some ⟨gb, 0, none⟩) n n)).mono (T' := T5 c d vb gb) (fun a e => e.elim .inl (fun e => .inr (.inl e)))
          have hc2 : Chg (Own d) wc (wc.setCell ⟨d, 18, none⟩ (.slice (some ⟨gb, 0, none⟩) n n)) := (Chg.refl _ _).own 18 _
          have hgo2 := Hgo.out.keep hc2 (fun _ e => Hgo.out.nd e)
          generalize wc.setCell ⟨d, 18, none⟩ (.slice (some ⟨gb, 0, none⟩) n n) = wB at hU2 hgo2 ⊢
          have HU2 := Lib.hid hU2
          have Hgo2 := Lib.hid hgo2
          clear hU2 hgo2 hc2 p18 p18f p11
          go_loopw [2, 9] (fun v2 r wr => v2 = .nilIface ∧ ((r = .int .i64 n ∧ wr = wB) ∨ (r = .int .i64 0 ∧ UE O c w wr d mb b q W n M md last (fun mbv dbuf => dl nv data true (.pointer (some ⟨c.B, 0, none⟩)) S cbv M n n md i (.pointer (some ⟨mb, 0, none⟩)) W tot (miniX c.D q W md last n) mbv dbuf)))) (fun _ r _ => (intOf r).toNat)
          case atStart => exact ⟨rfl, .inl ⟨rfl, rfl⟩⟩
          case round =>
            obtain ⟨rfl, ⟨rfl, rfl⟩ | ⟨rfl, hE⟩⟩ := hrel
            · have p18 := HU2.out.dx.row.at 18 rfl
              have p5 := HU2.out.dx.row.at 5 rfl
              have Hcall := Lib.hid (getBatch_ok c o f W gb 0 n n wr.drew HU2.out.dx.drew.rs (Hgo2.out.keep ((Chg.refl Nix wr).drew) (fun _ e => e) |>.dst n (Nat.le_refl n)) hW1 (by omega) (by omega) (Nat.le_refl n) (by omega))
              go_wp2_with fail
              (refine wp_region_txt [] (by kernel_rfl) (by kernel_rfl) ?_; repeat (first | (refine wpTxt_pure rfl rfl (fun K hK => ?_); go_simp; refine hK _ ?_; clear hK K) | (refine wpTxt_still rfl rfl (fun K hK => ?_); go_simp; refine hK _ ?_; clear hK K)))
              (refine wpTxt_effect rfl rfl (fun K hK => ?_); go_simp)
              refine Hcall.out.mono ?_
              rintro e w6 ⟨rfl, h1, h2, o', f', h3, h4⟩
              dsimp only
              have hU6 := HU2.out.batch Hgo2.out hgv h1.undrew h4.rs (.inr (.inr (.inr (.inl rfl)))) (.inr (.inr (.inr (.inr rfl)))) (.inr (.inr (.inl rfl)))
              have hgc6 : ∀ j, j < n → w6.cell? ⟨gb, j, none⟩ = some (.int .u64 (bitsV c.D (8 * q + j * W) W)) := fun j hj => by
                have := h2 j hj
                rwa [Nat.zero_add, hof] at this
              have hpos : 8 * o' + f' = 8 * (q + n * W / 8) := by omega
              have hgo6 := Hgo2.out.chg h1.undrew (fun x _ hx => ⟨_, hgc6 x hx⟩)
              have Hgo6 := Lib.hid hgo6
              have HU6 := Lib.hid hU6
              have Hgc6 := Lib.hid hgc6
              have Hpos := Lib.hid hpos
              clear h1 h2 h3 h4 hU6 hgc6 hgo6 hpos Hcall p5 p18
              (refine hK _ _ ?_; clear hK K)
              repeat (first | (refine wpTxt_pure rfl rfl (fun K hK => ?_); go_simp; refine hK _ ?_; clear hK K) | (refine wpTxt_still rfl rfl (fun K hK => ?_); go_simp; refine hK _ ?_; clear hK K))
              refine wpTxt_nil ?_
              have p18 := HU6.out.dx.row.at 18 rfl
              go_wp2_with fail
              go_loopw [188] (fun v188 wr => ∃ k : Nat, k ≤ n ∧ v188 = .int .i64 k ∧ (∀ j, j < n → wr.cell? ⟨gb, j, none⟩ = some (.int .u64 (bitsV c.D (8 * q + j * W) W))) ∧ OwnV c wr d mb (.slice (some ⟨b, 0, none⟩) 64 64) (.slice (some ⟨gb, 0, none⟩) n n) n n gb ∧ UM (T5 c d vb gb) c w wr d mb b (miniX c.D q W md last) vb n (LU nv data (.pointer (some ⟨c.B, 0, none⟩)) S cbv M n md i (.pointer (some ⟨mb, 0, none⟩)) W tot (.slice (some ⟨gb, 0, none⟩) n n)) M o' f' k) (fun i _ => n - (intOf i).toNat)
              case atStart => exact ⟨0, Nat.zero_le _, rfl, Hgc6.out, Hgo6.out, HU6.out⟩
              case round =>
                as_aux_lemma =>
                  obtain ⟨k, hk, rfl, hgc, hgk, hU⟩ := hrel
                  clear HU6 Hgc6 Hgo6
                  by_cases hlt : k < n
                  · have pg := hgc k hlt
                    obtain ⟨v, hv⟩ : ∃ v, v = bitsV c.D (8 * q + k * W) W := ⟨_, rfl⟩
                    have hvlt : v < 2 ^ 32 := by rw [hv]; exact Nat.lt_of_lt_of_le (bitsV_lt _ _ _) (Nat.pow_le_pow_right (by decide) hW)
                    obtain ⟨X, hXX⟩ : ∃ X, X = miniX c.D q W md last := ⟨_, rfl⟩
                    have hXs : RowKit.wrap64 (X k + RowKit.wrap64 ((v : Nat) + md)) = X (k + 1) := by rw [hXX, hv]; rfl
                    have hvw : IntKind.i64.wrap (v : Int) = v := IntWalk.i64_in _ (by omega)
                    have hs1 : IntKind.i64.wrap (X k + IntKind.i64.wrap ((v : Int) + md)) = X (k + 1) := by
                      have := hXs
                      unfold RowKit.wrap64 at this
                      rw [IntKind.wrap_i64, IntKind.wrap_i64]; exact this
                    rw [← hv] at pg
                    rw [← hXX] at hU
                    have HXX := Lib.hid hXX; clear hXX
                    have Hv := Lib.hid hv; clear hv
                    have p16 := hU.dx.row.at 16 rfl
                    have p16f := hU.dx.row.fr 16
                    have p17 := hU.dx.row.at 17 rfl
                    have p11 := hU.dx.row.at 11 rfl
                    have hst := hU.step hlt (.inl rfl) (.inr (.inl rfl)) (wr.setCell ⟨d, 16, none⟩ (.int .i64 (X (k + 1)))) (.inl rfl)
                    obtain ⟨q16, q17, q17f, qd, qdl, qvl, ⟨uu, qc⟩, qf, hst⟩ := hst
                    have Hst := Lib.hid hst
                    have Hgc := Lib.hid hgc
                    have hgvd : gb ≠ d := Hgo2.out.nd
                    have hlti : (k : Int) < n := by omega
                    have hki : (k : Int).toNat = k := by omega
                    have Hgk := Lib.hid hgk
                    have hlt1 : k + 1 ≤ n := hlt
                    have HXs := Lib.hid hXs
                    clear hU hst hgc hgk hXs hvlt
                    go_wp2_with fail
                    rw [HXs.out]
                    obtain ⟨w1, hw1⟩ : ∃ w1, w1 = wr.setCell ⟨d, 16, none⟩ (.int .i64 (X (k + 1))) := ⟨_, rfl⟩
                    rw [← hw1] at q16 q17 q17f qdl qvl qc qf Hst ⊢
                    clear p16 p16f p11 p17 hw1 pg hs1 hvw
                    have HI : HR.InvL [(⟨d, 16, none⟩, .int .i64 (X (k + 1))), (⟨d, 17, none⟩, .slice (some ⟨vb, 0, none⟩) k n)] w1.drew := .cons q16 (.cons q17 (.nil _))
                    refine HR.region (HR.InvL [(⟨d, 16, none⟩, .int .i64 (X (k + 1))), (⟨d, 17, none⟩, .slice (some ⟨vb, 0, none⟩) k n)]) (by kernel_rfl) (by kernel_rfl) ?_
                    repeat (first | (refine HR.pure rfl rfl (fun K hK => ?_); go_simp; refine hK _ ?_; clear hK K) | (refine HR.loadI HI 0 rfl rfl rfl ?_ ?_; (focus (intro w' hc; go_simp; done)); go_simp) | (refine HR.loadI HI 1 rfl rfl rfl ?_ ?_; (focus (intro w' hc; go_simp; done)); go_simp) | (refine HR.loadI HI 2 rfl rfl rfl ?_ ?_; (focus (intro w' hc; go_simp; done)); go_simp) | (refine HR.loadI HI 3 rfl rfl rfl ?_ ?_; (focus (intro w' hc; go_simp; done)); go_simp))
                    (refine HR.effect rfl rfl HI (fun K hK => ?_); go_simp)
                    refine HR.back hK ?_ (fun HI2 => ?_)
                    · exact .cons (cell_alloc _ q16) (.cons (cell_alloc _ q17) (.nil _))
                    clear hK K HI
                    have HI := HI2
                    repeat (first | (refine HR.pure rfl rfl (fun K hK => ?_); go_simp; refine hK _ ?_; clear hK K) | (refine HR.loadI HI 0 rfl rfl rfl ?_ ?_; (focus (intro w' hc; go_simp; done)); go_simp) | (refine HR.loadI HI 1 rfl rfl rfl ?_ ?_; (focus (intro w' hc; go_simp; done)); go_simp) | (refine HR.loadI HI 2 rfl rfl rfl ?_ ?_; (focus (intro w' hc; go_simp; done)); go_simp) | (refine HR.loadI HI 3 rfl rfl rfl ?_ ?_; (focus (intro w' hc; go_simp; done)); go_simp))
                    (refine HR.effect rfl rfl HI (fun K hK => ?_); go_simp)
                    refine HR.back hK ?_ (fun HI3 => ?_)
                    · exact .cons (cell_alloc _ (cell_ne _ q16 (fun e => qd e.1))) (.cons (cell_alloc _ (cell_ne _ q17 (fun e => qd e.1))) (.nil _))
                    clear hK K HI HI2
                    have HI := HI3
                    repeat (first | (refine HR.pure rfl rfl (fun K hK => ?_); go_simp; refine hK _ ?_; clear hK K) | (refine HR.loadI HI 0 rfl rfl rfl ?_ ?_; (focus (intro w' hc; go_simp; done)); go_simp) | (refine HR.loadI HI 1 rfl rfl rfl ?_ ?_; (focus (intro w' hc; go_simp; done)); go_simp) | (refine HR.loadI HI 2 rfl rfl rfl ?_ ?_; (focus (intro w' hc; go_simp; done)); go_simp) | (refine HR.loadI HI 3 rfl rfl rfl ?_ ?_; (focus (intro w' hc; go_simp; done)); go_simp))
                    (refine HR.store rfl rfl (fun K hK => ?_); go_simp; refine hK _ _ ?_; clear hK K)
                    refine HR.nil ?_
                    go_wp2_with fail
                    go_roundw
                    case rel =>
                      have hch := (Hst.out (.cells #[.int .i32 (RowKit.wrap32 (X (k + 1)))] 21)).2
                      have hX := HXX.out
                      subst hX
                      exact ⟨k + 1, by omega, by go_num, fun j hj => hch.keep (Hgc.out j hj) (fun e => e.elim hgvd hgv), Hgk.out.keep hch (fun _ e => e.elim hgvd hgv), (Hst.out _).1⟩
                    case measure => simp [intOf]; omega
                  · have hke : k = n := by omega
                    subst hke
                    have hs : UE O c w wr d mb b q W k M md last (fun mbv dbuf => dl nv data true (.pointer (some ⟨c.B, 0, none⟩)) S cbv M k k md i (.pointer (some ⟨mb, 0, none⟩)) W tot (miniX c.D q W md last k) mbv dbuf) := by
                      refine UM.fin (fun a ha hl => ?_) hvO (fun e => by rcases e with e | e | e | e | e; exact hbd e; exact hU.own.nw b rfl e.symm; exact hgk.nw b rfl e.symm; exact (hU.dx.bvn b rfl).2.1 e; exact (hU.dx.bvn b rfl).2.2.1 e) hU Hs.out (.inr ⟨gb, hgO, hgv, ?_⟩) hL hbl Hpos.out
                      · rcases ha with e | e | e | e | e
                        · exact e ▸ Hs.out.od
                        · exact hvO.elim (fun q => e ▸ q) (fun q => absurd hl (by omega))
                        · exact hgO.elim (fun q => e ▸ q) (fun q => absurd hl (by omega))
                        · exact e ▸ Hs.out.oB
                        · exact e ▸ Hs.out.or
                      · exact hgk
                    have Hs2 := Lib.hid hs
                    clear hs hU hgk hgc
                    go_wp2_with fail
                    go_roundw
                    case rel => exact ⟨rfl, .inr ⟨by go_num, Hs2.out⟩⟩
                    case measure => simp [intOf]; omega
            · have HE := Lib.hid hE
              clear hE
              go_wp2_with fail
              go_meet
              exact ⟨rfl, HE.out⟩
      case rest =>
        obtain ⟨rfl, ⟨O', vb', dbuf', o', f', h1, h2, h3, h4, h5, h6, h7, h8⟩⟩ := hcut
        clear HU0
        have p12 := h5.row.at 12 rfl
        have p12f := h5.row.fr 12
        have hiw2 : IntKind.u64.wrap ((i : Int) + 1) = (i : Int) + 1 := wrap64 _ (by omega) (by show (i : Int) + 1 < 18446744073709551616; omega)
        have H5 := Lib.hid h5
        have H6 := Lib.hid h6
        have H7 := Lib.hid h7
        have H4 := Lib.hid h4
        have H1 := Lib.hid h1
        have H2 := Lib.hid h2
        have H8 := Lib.hid h8
        clear h1 h2 h4 h5 h6 h7 h8
        go_wp2_with fail
        go_ret
        have hc : Chg (Own d) wc (wc.setCell ⟨d, 12, none⟩ (.int .u64 ((i : Int) + 1))) := (Chg.refl _ _).own 12 _
        exact ⟨rfl, ⟨O', vb', dbuf', o', f', H1.out, H2.out, h3, H4.out.setCell _ _ (fun _ => Hs.out.od) _, H5.out.put 12 _, H6.out.own hc, fun j hj => hc.keep (H7.out j hj) (fun e => H6.out.vd e), fun x u hu => hc.keep (H8.out x u hu) (fun e => hbd e)⟩⟩
end Go.Proofs.YtaageikelkcphaaGreatDoor
/- The decoder of deltas: the next mini block, of whatever width. -/
namespace Go.Proofs.YtaageikelkcphaaGreatDoor
open Go Go.RowKit
theorem unpackMini_ok (O : Nat → Prop) (c : RC) (w : World) (d mb b o f q i W n S M : Nat) (nv : Int) (data : Value) (cbv cmb md w8 tot last : Int) (mbv dbuf : Value)
    (h : DX c w d mb o f (dl nv data true (.pointer (some ⟨c.B, 0, none⟩)) S cbv M n cmb md i (.pointer (some ⟨mb, 0, none⟩)) w8 tot last mbv dbuf) M 64 (.slice (some ⟨b, 0, none⟩) 64 64))
    (hs : Scr O c w d mb (.slice (some ⟨b, 0, none⟩) 64 64) mbv dbuf n)
    (hof : 8 * o + f = 8 * q) (hi : i < M) (hM : M < 64) (hw : w.cell? ⟨b, i, none⟩ = some (.int .u8 W)) (hW : W ≤ 32) (hn : n % 32 = 0) (hn1 : 0 < n) (hn2 : n ≤ 1024) (hq : q + n * W / 8 ≤ c.L) (hL : 0 < c.L) (hmd : RowKit.wrap64 md = md) :
    Calls Tryz.prog 48 #[.pointer (some ⟨d, 0, none⟩)] w fun e w' => e = .returned .nilIface ∧
      UE O c w w' d mb b q W n M md last (fun mbv dbuf => dl nv data true (.pointer (some ⟨c.B, 0, none⟩)) S cbv M n n md (i + 1) (.pointer (some ⟨mb, 0, none⟩)) W tot (miniX c.D q W md last n) mbv dbuf) := by
  by_cases h0 : W = 0
  · exact unpackMini0_ok O c w d mb b o f q i W n S M nv data cbv cmb md w8 tot last mbv dbuf h hs hof hi hM hw hW hn hn1 hn2 hq hL hmd h0
  · exact unpackMini1_ok O c w d mb b o f q i W n S M nv data cbv cmb md w8 tot last mbv dbuf h hs hof hi hM hw hW hn hn1 hn2 hq hL hmd (by omega)
end Go.Proofs.YtaageikelkcphaaGreatDoor
/- The decoder of deltas: where it stands; a block's head and a mini block, as steps of that. -/
namespace Go.Proofs.YtaageikelkcphaaGreatDoor
open Go Go.RowKit
/-- What a decoder's cells hold. -/
structure DV where
  (o f q cbv cmb mbi : Nat) (md w8 last : Int) (mbv dbuf bv : Value) (ln bl : Nat) (st : Option (Nat × Nat × Int))
/-- A decoder of deltas, its first number read, stands before the numbers xs, whose bytes end at e. -/
structure DS (uf : Bool) (O : Nat → Prop) (c : RC) (w : World) (d mb S M n : Nat) (nv tot : Int) (data : Value) (xs : List Int) (e : Nat) (v : DV) : Prop where
  dx : DX c w d mb v.o v.f (dl nv data uf (.pointer (some ⟨c.B, 0, none⟩)) S v.cbv M n v.cmb v.md v.mbi (.pointer (some ⟨mb, 0, none⟩)) v.w8 tot v.last v.mbv v.dbuf) v.ln v.bl v.bv
  scr : Scr O c w d mb v.bv v.mbv v.dbuf n
  pos : 8 * v.o + v.f = 8 * v.q
  cm : v.cmb ≤ n
  cb : v.cbv = (match v.st with | none => 0 | some (_, j, _) => (M - j) * n) + v.cmb
  pend : 0 < v.cmb → ∃ vb, v.mbv = .slice (some ⟨vb, 0, none⟩) n n ∧ ∀ t x, xs[t]? = some x → t < v.cmb → w.cell? ⟨vb, n - v.cmb + t, none⟩ = some (.int .i32 x)
  mi : Minis RowKit.wrap32 32 c.D M n v.q v.st v.last (xs.drop v.cmb) e
  st1 : ∀ wb j m, v.st = some (wb, j, m) → m = v.md ∧ v.mbi = j ∧ RowKit.wrap64 v.md = v.md ∧ v.ln = M ∧ v.bl = 64 ∧ ∃ b, v.bv = .slice (some ⟨b, 0, none⟩) 64 64 ∧ ∀ i, i < M → w.cell? ⟨b, i, none⟩ = some (.int .u8 (c.D (wb + i)))
  bv1 : (v.ln = 0 ∧ v.bl = 0 ∧ v.bv = .slice none 0 0) ∨ (v.ln = M ∧ v.bl = 64 ∧ ∃ b, v.bv = .slice (some ⟨b, 0, none⟩) 64 64)
  el : e ≤ c.L
  l0 : 0 < c.L
  n32 : n % 32 = 0
  n1 : 0 < n
  n2 : n ≤ 1024
  m1 : 1 ≤ M
  m2 : M < 64
  s : S = M * n
  s2 : S ≤ 4294967295
  cbl : v.cbv ≤ S
theorem unzig_64 {z : Nat} (h1 : -2147483648 ≤ unzig z) (h2 : unzig z ≤ 2147483647) : RowKit.wrap64 (unzig z) = unzig z := IntWalk.wrap64_in _ (by omega)
theorem DS.init {uf : Bool} {O : Nat → Prop} {c : RC} {w : World} {d mb S M n : Nat} {nv tot : Int} {data : Value} {xs : List Int} {e : Nat} {v : DV} (h : DS uf O c w d mb S M n nv tot data xs e v) (h0 : v.cbv = 0) (hx : xs ≠ []) :
    Calls Tryz.prog 47 #[.pointer (some ⟨d, 0, none⟩)] w fun e1 w' => e1 = .returned .nilIface ∧ ∃ O' v', Grow O w O' ∧ (∀ a, O a → O' a) ∧ Chg (fun a _ => O a) w w' ∧ DS uf O' c w' d mb S M n nv tot data xs e v' ∧ v'.cmb = 0 ∧ 0 < v'.cbv := by
  obtain ⟨o, f, q, cbv, cmb, mbi, md, w8, last, mbv, dbuf, bv, ln, bl, st⟩ := v
  have hcb := h.cb
  have hmi := h.mi
  simp only at h0 hcb hmi
  subst h0
  have hn1 := h.n1
  have hcm0 : cmb = 0 := by omega
  subst hcm0
  rw [List.drop_zero] at hmi
  have hst : st = none := by
    cases hs : st with
    | none => rfl
    | some p =>
      obtain ⟨wb, j, m⟩ := p
      rw [hs] at hmi hcb
      have := (hmi.some_inv hx).1
      have h2 := Nat.mul_le_mul (show 1 ≤ M - j by omega) hn1
      simp only at hcb
      omega
  subst hst
  obtain ⟨k, zz, hk, hz, hr⟩ := hmi.none_inv hx
  obtain ⟨hz1, hz2⟩ := hz rfl
  have hle := hr.le
  have hel := h.el
  have hpos := h.pos
  simp only at hpos
  have hln : ln = 0 ∨ ln = M := h.bv1.imp (fun e => e.1) (fun e => e.1)
  have hcall := initBlock_ok c w d mb o f q k zz S M ln bl nv data uf ((0 : Nat) : Int) n ((0 : Nat) : Int) md mbi w8 tot last mbv dbuf bv h.dx (by omega) hln hk (by omega) h.m1 h.m2 h.s2 hz1 hz2
  refine hcall.mono ?_
  rintro e1 w' ⟨rfl, b, hb1, hb2, hC, hX, hW⟩
  have hscr := h.scr
  simp only at hscr
  have hbO : O b ∨ w.heap.size ≤ b := hln.elim (fun e => .inr (hb2 e)) (fun e => .inl (hscr.ob b (hb1 e)))
  have hown : ∀ {u : Value} {len cap vb : Nat}, OwnV c w d mb bv u len cap vb → OwnV c w' d mb (.slice (some ⟨b, 0, none⟩) 64 64) u len cap vb := by
    intro u len cap vb ho
    have hvb : vb ≠ b := hln.elim (fun e => by have := hb2 e; have := ho.lt; omega) (fun e => ho.nw b (hb1 e))
    have := ho.keep hC (fun x e => by rcases e with e | e | e | e | e; exact ho.nd e; exact ho.nm e; exact ho.nB e; exact ho.nr e; exact hvb e)
    exact ⟨this.v, this.le, this.lt, this.cel, this.fr, this.nd, this.nm, (fun b' e => by injection e with e; injection e with e; injection e with e; omega), this.nB, this.nr, this.nb, this.g⟩
  have hbn := hX.bvn b rfl
  refine ⟨rfl, (fun a => O a ∨ a = b), ⟨q + k + M, 0, q + k + M, S, 0, 0, unzig zz, c.D (q + k), last, mbv, dbuf, .slice (some ⟨b, 0, none⟩) 64 64, M, 64, some (q + k, 0, unzig zz)⟩, fun a ha => ha.elim .inl (fun e => e ▸ hbO), fun a ha => .inl ha, ?_, ?_, rfl, ?_⟩
  · refine hC.mono (fun a x ha e => ?_)
    rcases e with e | e | e | e | e
    · exact e ▸ hscr.od
    · exact e ▸ hscr.om
    · exact e ▸ hscr.oB
    · exact e ▸ hscr.or
    · exact hbO.elim (fun p => e ▸ p) (fun p => absurd ha (by omega))
  · refine ⟨hX, ⟨.inl hscr.od, .inl hscr.oB, .inl hscr.or, .inl hscr.om, fun b' e => by injection e with e; injection e with e; injection e with e; exact .inr e.symm, fun a ha => ha.elim (fun p => hC.lt (hscr.lt a p)) (fun e => e ▸ hX.blt), fun ha => ha.elim hscr.nb (fun e => hbn.2.2.2.1 e.symm), fun a ha => ha.elim (hscr.gt a) (fun e => e ▸ hbn.2.2.2.2), hscr.mv.imp id (fun ⟨vb, len, h1, h2⟩ => ⟨vb, len, .inl h1, hown h2⟩), hscr.dv.imp id (fun ⟨gb, h1, h2⟩ => ⟨gb, .inl h1, hown h2⟩), hscr.ne⟩, by simp only; omega, Nat.zero_le _, ?_, fun hh => absurd hh (by simp), by simp only [List.drop_zero]; exact hr, ?_, .inr ⟨rfl, rfl, b, rfl⟩, hel, h.l0, h.n32, hn1, h.n2, h.m1, h.m2, h.s, h.s2, Nat.le_refl _⟩
    · simp only [Nat.sub_zero, Nat.add_zero]; exact h.s
    · intro wb j m e
      injection e with e
      injection e with e1 e
      injection e with e2 e3
      subst e1; subst e2; subst e3
      exact ⟨rfl, rfl, unzig_64 hz1 hz2, rfl, rfl, b, rfl, hW⟩
  · show 0 < S
    rw [h.s]; exact Nat.mul_pos h.m1 hn1
theorem DS.unpack {O : Nat → Prop} {c : RC} {w : World} {d mb S M n : Nat} {nv tot : Int} {data : Value} {xs : List Int} {e : Nat} {v : DV} (h : DS true O c w d mb S M n nv tot data xs e v) (h0 : v.cmb = 0) (h1 : 0 < v.cbv) (hx : xs ≠ []) :
    Calls Tryz.prog 48 #[.pointer (some ⟨d, 0, none⟩)] w fun e1 w' => e1 = .returned .nilIface ∧ ∃ O' v', Grow O w O' ∧ (∀ a, O a → O' a) ∧ Chg (fun a _ => O a) w w' ∧ DS true O' c w' d mb S M n nv tot data xs e v' ∧ 0 < v'.cmb := by
  obtain ⟨o, f, q, cbv, cmb, mbi, md, w8, last, mbv, dbuf, bv, ln, bl, st⟩ := v
  have hcb := h.cb
  have hmi := h.mi
  have hst1 := h.st1
  simp only at h0 h1 hcb hmi hst1
  subst h0
  rw [List.drop_zero] at hmi
  cases st with
  | none => simp only at hcb; omega
  | some p =>
    obtain ⟨wb, j, m⟩ := p
    obtain ⟨rfl, rfl, hmd, rfl, rfl, b, rfl, hW⟩ := hst1 wb j m rfl
    obtain ⟨hj, hw32, hv, hr⟩ := hmi.some_inv hx
    have hle := hr.le
    have hel := h.el
    have hcall := unpackMini_ok O c w d mb b o f q mbi (c.D (wb + mbi)) n S ln nv data cbv ((0 : Nat) : Int) m w8 tot last mbv dbuf h.dx h.scr h.pos hj h.m2 (hW mbi hj) hw32 h.n32 h.n1 h.n2 (by omega) h.l0 hmd
    refine hcall.mono ?_
    rintro e1 w' ⟨rfl, O', vb, dbuf', o', f', hg, hO, hp, hC, hX, hS, hV, hB⟩
    have hb : ∀ i, i < ln → w'.cell? ⟨b, i, none⟩ = some (.int .u8 (c.D (wb + i))) := fun i hi => hB i _ (hW i hi)
    refine ⟨rfl, O', ⟨o', f', q + n * c.D (wb + mbi) / 8, cbv, n, mbi + 1, m, c.D (wb + mbi), miniX c.D q (c.D (wb + mbi)) m last n, .slice (some ⟨vb, 0, none⟩) n n, dbuf', .slice (some ⟨b, 0, none⟩) 64 64, ln, 64, if mbi + 1 = ln then none else some (wb, mbi + 1, m)⟩, hg, hO, hC, ?_, h.n1⟩
    refine ⟨by exact_mod_cast hX, hS, hp, Nat.le_refl _, ?_, fun _ => ⟨vb, rfl, fun t x ht htn => ?_⟩, hr, fun wb' j' m' e => ?_, .inr ⟨rfl, rfl, b, rfl⟩, hel, h.l0, h.n32, h.n1, h.n2, h.m1, h.m2, h.s, h.s2, h.cbl⟩
    · simp only at hcb ⊢
      by_cases hl : mbi + 1 = ln
      · rw [if_pos hl]
        rw [show ln - mbi = 1 by omega] at hcb
        simp only; omega
      · rw [if_neg hl]
        simp only
        rw [hcb, show ln - mbi = (ln - (mbi + 1)) + 1 by omega, Nat.succ_mul]; omega
    · rw [Nat.sub_self, Nat.zero_add, hV t htn, hv t x ht htn]
    · simp only at e
      by_cases hl : mbi + 1 = ln
      · rw [if_pos hl] at e; cases e
      · rw [if_neg hl] at e
        injection e with e
        injection e with e1 e
        injection e with e2 e3
        subst e1; subst e2; subst e3
        exact ⟨rfl, rfl, hmd, rfl, rfl, b, rfl, hb⟩
/-- Blocks that are not the decoder's turn. -/
theorem DS.keep {uf : Bool} {O : Nat → Prop} {c : RC} {w w' : World} {d mb S M n : Nat} {nv tot : Int} {data : Value} {xs : List Int} {e : Nat} {v : DV} (h : DS uf O c w d mb S M n nv tot data xs e v) {F : Nat → Nat → Prop} (hc : Chg F w w') (hF : ∀ k x, F k x → ¬ O k ∧ k ≠ c.b ∧ 4 < k) : DS uf O c w' d mb S M n nv tot data xs e v := by
  have hx := h.dx
  have hs := h.scr
  have hno : ∀ a, O a → ∀ x, ¬ F a x := fun a ha x e => (hF a x e).1 ha
  have hown : ∀ {u : Value} {len cap vb : Nat}, O vb → OwnV c w d mb v.bv u len cap vb → OwnV c w' d mb v.bv u len cap vb := fun ho h => h.keep hc (hno _ ho)
  refine ⟨⟨hx.row.keep hx.dlt hc (hno _ hs.od), hc.lt hx.dlt, hx.rs.keep hc (fun k x e => ⟨(hF k x e).2.1, fun e2 => hno _ hs.or x (e2 ▸ e), fun e2 => hno _ hs.oB x (e2 ▸ e), (hF k x e).2.2⟩), hx.wb.keep hc (hno _ hs.om) (fun b x e => hno _ (hs.ob b e) x), hx.dB, hx.dr, hx.db, hx.gd, hx.dm, hx.mB, hx.mr, hx.mbb, hx.gm, hx.bvn⟩, ⟨hs.od, hs.oB, hs.or, hs.om, hs.ob, fun a ha => hc.lt (hs.lt a ha), hs.nb, hs.gt, hs.mv.imp id (fun ⟨vb, len, h1, h2⟩ => ⟨vb, len, h1, hown h1 h2⟩), hs.dv.imp id (fun ⟨gb, h1, h2⟩ => ⟨gb, h1, hown h1 h2⟩), hs.ne⟩, h.pos, h.cm, h.cb, fun hp => ?_, h.mi, fun wb j m e => ?_, h.bv1, h.el, h.l0, h.n32, h.n1, h.n2, h.m1, h.m2, h.s, h.s2, h.cbl⟩
  · obtain ⟨vb, h1, h2⟩ := h.pend hp
    have hvo : O vb := by
      rcases hs.mv with e | ⟨vb', len, h3, h4⟩
      · rw [h1] at e; cases e
      · have := h4.v
        rw [h1] at this; injection this with this; injection this with this; injection this with this
        exact this ▸ h3
    exact ⟨vb, h1, fun t x ht htn => hc.keep (h2 t x ht htn) (hno _ hvo _)⟩
  · obtain ⟨a1, a2, a3, a4, a5, b, a6, a7⟩ := h.st1 wb j m e
    exact ⟨a1, a2, a3, a4, a5, b, a6, fun i hi => hc.keep (a7 i hi) (hno _ (hs.ob b a6) _)⟩
/-- Cells of the decoder's own block turn that are no row. -/
theorem DS.own {uf : Bool} {O : Nat → Prop} {c : RC} {w : World} {d mb S M n : Nat} {nv tot : Int} {data : Value} {xs : List Int} {e : Nat} {v : DV} (h : DS uf O c w d mb S M n nv tot data xs e v) {uf' : Bool} {nv' : Int} {v' : DV} {xs' : List Int} {w' : World} (hc : Chg (Own d) w w')
    (hx : DX c w' d mb v'.o v'.f (dl nv' data uf' (.pointer (some ⟨c.B, 0, none⟩)) S v'.cbv M n v'.cmb v'.md v'.mbi (.pointer (some ⟨mb, 0, none⟩)) v'.w8 tot v'.last v'.mbv v'.dbuf) v'.ln v'.bl v'.bv)
    (cbv cmb : Nat) (hv : v' = { v with cbv := cbv, cmb := cmb }) (k : Nat) (hk : k ≤ v.cmb) (h1 : cbv = v.cbv - k) (h2 : cmb = v.cmb - k) (hxs : xs' = xs.drop k) : DS uf' O c w' d mb S M n nv' tot data xs' e v' := by
  have hs := h.scr
  have hcb := h.cb
  have hcm := h.cm
  subst hv; subst h1; subst h2; subst hxs
  refine ⟨hx, hs.own hc, h.pos, by simp only; omega, ?_, fun hp => ?_, ?_, fun wb j m e => ?_, h.bv1, h.el, h.l0, h.n32, h.n1, h.n2, h.m1, h.m2, h.s, h.s2, Nat.le_trans (Nat.sub_le _ _) h.cbl⟩
  · simp only
    rw [hcb]
    omega
  · simp only at hp ⊢
    obtain ⟨vb, e1, e2⟩ := h.pend (by omega)
    have hvd : vb ≠ d := by
      rcases hs.mv with e | ⟨vb', len, h3, h4⟩
      · rw [e1] at e; cases e
      · have := h4.v
        rw [e1] at this; injection this with this; injection this with this; injection this with this
        exact this ▸ h4.nd
    refine ⟨vb, e1, fun t x ht htn => hc.keep ?_ (fun e => hvd e)⟩
    rw [show n - (v.cmb - k) + t = n - v.cmb + (k + t) by omega]
    exact e2 (k + t) x (by rwa [List.getElem?_drop] at ht) (by omega)
  · simp only
    rw [List.drop_drop, show k + (v.cmb - k) = v.cmb by omega]
    exact h.mi
  · obtain ⟨a1, a2, a3, a4, a5, b, a6, a7⟩ := h.st1 wb j m e
    have hbd := (h.dx.bvn b a6).1
    exact ⟨a1, a2, a3, a4, a5, b, a6, fun i hi => hc.keep (a7 i hi) (fun e => hbd e)⟩
end Go.Proofs.YtaageikelkcphaaGreatDoor
