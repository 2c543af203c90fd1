/- Part 22 of the proof: the texts SH, SI, SE, joined. What each proves stands ahead of it. -/
import Derived.Test.YtaageikelkcphaaGreatDoorKU
set_option linter.unusedVariables false
set_option linter.unusedSimpArgs false
/- spec.PutDeltas: the mini blocks of a block. -/
namespace Go.Proofs.YtaageikelkcphaaGreatDoor
open Go Go.RowKit Go.Proofs.YtaageikelkcphaaGreatDoor.PFnPrefixesRead Go.Proofs.YtaageikelkcphaaGreatDoorW.PrintWords Go.Proofs.YtaageikelkcphaaGreatDoorW.PrintMore
noncomputable def minC : Code := cL (cR (cR (cR (cR (cR (cR (cR (cB (cL (cR (cB (cB (cR (cL (cR (cR (cR (cR (cR (Tryz.f20.body.getD .skip))))))))))))))))))))
set_option maxRecDepth 100000 in
set_option maxHeartbeats 20000000 in
theorem min_seg {w1 w0 : World} {bb gd B cap n S M More : Nat} {odd : Bool} {least : Int} {D : List Int} {v8 : Value} {bs : List Nat} {Q : Exit → Act → World → Prop} {c0 c2 c3 c4 c6 c7 c8 c9 c12 c13 c17 c18 c19 c20 c21 c22 c23 c24 c25 c26 c27 c28 c29 c30 c31 c32 c33 c34 c35 c36 c37 c38 c39 c40 c41 c42 c43 c44 c45 c46 c47 c48 c49 c50 c51 c52 c53 c54 c55 c56 c57 c58 c59 c60 c61 c62 c63 c64 c65 c66 c67 c68 c69 c70 c71 c72 c73 c74 c75 c76 c77 c78 c79 c80 c81 c82 c83 c84 c85 c86 c87 c88 c89 c90 c91 c92 c93 c94 c95 c96 c97 c98 c99 c100 c101 c102 c103 c104 c105 c106 c107 c108 c109 c110 c111 c112 c113 c114 c115 c116 c117 c118 c119 c120 c121 c122 c123 c124 c125 c126 c127 c128 c129 c130 c131 c132 c133 c134 c135 c136 c137 c138 c139 c140 c141 c142 c143 c144 c145 c146 c147 c148 c149 c150 c151 c152 c153 c154 c155 c156 c157 c158 c159 c160 c161 c162 c163 c164 c165 c166 c167 c168 c169 c170 c171 c172 c173 c174 c175 c176 c177 c178 c179 c180 c181 c182 c183 c184 c185 c186 c187 c188 c189 c190 c191 c192 c193 c194 c195 c196 c197 c198 c199 c200 c201 c202 c203 c204 c205 c206 c207 c208 c209 c210 c211 c212 c213 c214 c215 : Value}
    (hM : MinI w1 w0 D least n (.slice (some ⟨gd, 0, none⟩) B cap) v8 bs 0 (.slice none 0 0) (.slice none 0 0) [] []) (k0 : w1.cell? ⟨bb, 0, none⟩ = some (.int .i64 S)) (k2 : w1.cell? ⟨bb, 2, none⟩ = some (.int .i64 More)) (k3 : w1.cell? ⟨bb, 3, none⟩ = some (.bool odd)) (hMore : More ≤ 8) (hB : D.length = B) (hcapi : B ≤ cap) (hcapm : cap ≤ 9223372036854775807) (hn1 : 32 ≤ n) (hn1024 : n ≤ 1024) (hn32 : n % 32 = 0)
    (hSn : S = M * n) (s3 : S ≤ 1024) (n4 : M ≤ 32) (hle : ∀ d ∈ D, least ≤ d ∧ d - least ≤ 12288 ∧ -4096 ≤ d ∧ d ≤ 4096) (hb1 : -8192 ≤ least) (hb2 : least ≤ 8192)
    (hQ : ∀ (v15' v16' u17 u18 u19 u21 u22 u23 u24 u25 u26 u117 u118 u119 u120 u121 u122 u123 u124 u125 u126 u127 u128 u129 u130 u131 u132 u133 u134 u135 u136 u137 u138 u139 u140 u141 u142 u143 u144 u145 u146 u147 u148 u149 u150 u151 u152 u153 u154 u155 u156 u157 u158 u159 u160 u161 u162 u163 u164 u165 u166 u167 u168 u169 u170 u171 u172 u173 u174 u175 u176 u177 u178 u179 u180 u181 u182 u183 u184 u185 u186 u187 u188 u189 u190 u191 u192 u193 u194 u195 u196 u197 u198 u199 u200 u201 u202 u203 u204 u205 u206 u207 u208 u209 : Value) (w' : World) (ws bd : List Nat), MinI w1 w' D least n (.slice (some ⟨gd, 0, none⟩) B cap) v8 bs M v15' v16' ws bd → Q .normal ⟨#[c0, .int .i64 32, c2, c3, c4, .pointer (some ⟨bb, 0, none⟩), c6, c7, c8, c9, .slice (some ⟨gd, 0, none⟩) B cap, .int .i64 least, c12, c13, .int .i64 n, v15', v16', u17, u18, u19, c20, u21, u22, u23, u24, u25, u26, c27, c28, c29, c30, c31, c32, c33, c34, c35, c36, c37, c38, c39, c40, c41, c42, c43, c44, c45, c46, c47, c48, c49, c50, c51, c52, c53, c54, c55, c56, c57, c58, c59, c60, c61, c62, c63, c64, c65, c66, c67, c68, c69, c70, c71, c72, c73, c74, c75, c76, c77, c78, c79, c80, c81, c82, c83, c84, c85, c86, c87, c88, c89, c90, c91, c92, c93, c94, c95, c96, c97, c98, c99, c100, c101, c102, c103, c104, c105, c106, c107, c108, c109, c110, c111, c112, c113, c114, c115, c116, u117, u118, u119, u120, u121, u122, u123, u124, u125, u126, u127, u128, u129, u130, u131, u132, u133, u134, u135, u136, u137, u138, u139, u140, u141, u142, u143, u144, u145, u146, u147, u148, u149, u150, u151, u152, u153, u154, u155, u156, u157, u158, u159, u160, u161, u162, u163, u164, u165, u166, u167, u168, u169, u170, u171, u172, u173, u174, u175, u176, u177, u178, u179, u180, u181, u182, u183, u184, u185, u186, u187, u188, u189, u190, u191, u192, u193, u194, u195, u196, u197, u198, u199, u200, u201, u202, u203, u204, u205, u206, u207, u208, u209, c210, c211, c212, c213, c214, c215], []⟩ w') :
    Code.wp Tryz.prog minC Q ⟨#[c0, .int .i64 32, c2, c3, c4, .pointer (some ⟨bb, 0, none⟩), c6, c7, c8, c9, .slice (some ⟨gd, 0, none⟩) B cap, .int .i64 least, c12, c13, .int .i64 n, .slice none 0 0, .slice none 0 0, c17, c18, c19, c20, c21, c22, c23, c24, c25, c26, c27, c28, c29, c30, c31, c32, c33, c34, c35, c36, c37, c38, c39, c40, c41, c42, c43, c44, c45, c46, c47, c48, c49, c50, c51, c52, c53, c54, c55, c56, c57, c58, c59, c60, c61, c62, c63, c64, c65, c66, c67, c68, c69, c70, c71, c72, c73, c74, c75, c76, c77, c78, c79, c80, c81, c82, c83, c84, c85, c86, c87, c88, c89, c90, c91, c92, c93, c94, c95, c96, c97, c98, c99, c100, c101, c102, c103, c104, c105, c106, c107, c108, c109, c110, c111, c112, c113, c114, c115, c116, c117, c118, c119, c120, c121, c122, c123, c124, c125, c126, c127, c128, c129, c130, c131, c132, c133, c134, c135, c136, c137, c138, c139, c140, c141, c142, c143, c144, c145, c146, c147, c148, c149, c150, c151, c152, c153, c154, c155, c156, c157, c158, c159, c160, c161, c162, c163, c164, c165, c166, c167, c168, c169, c170, c171, c172, c173, c174, c175, c176, c177, c178, c179, c180, c181, c182, c183, c184, c185, c186, c187, c188, c189, c190, c191, c192, c193, c194, c195, c196, c197, c198, c199, c200, c201, c202, c203, c204, c205, c206, c207, c208, c209, c210, c211, c212, c213, c214, c215], []⟩ w0 := by
  have HM0 := Lib.hid hM
  have HSn := Lib.hid hSn
  have Hle := Lib.hid hle
  have HQ := Lib.hid hQ
  have HBl := Lib.hid hB
  clear hM hSn hle hQ hB
  conv => arg 2; whnf
  go_wp2_with fail
  go_loopw [15, 16, 17] (fun v15 v16 v17 wx => ∃ (j : Nat) (ws bd : List Nat) (t15 t16 : Value), v17 = .int .i64 ((j * n : Nat) : Int) ∧ t15 = v15 ∧ t16 = v16 ∧ j ≤ M ∧ MinI w1 wx D least n (.slice (some ⟨gd, 0, none⟩) B cap) v8 bs j t15 t16 ws bd) (fun _ _ v17 _ => S - (intOf v17).toNat)
  case atStart => exact ⟨0, [], [], _, _, by simp, rfl, rfl, Nat.zero_le _, HM0.out⟩
  case round =>
    obtain ⟨j, ws, bd, v15, v16, rfl, rfl, rfl, hjM, hM⟩ := hrel
    clear HM0
    have hkk0 := hM.nix.keep k0 (fun e => e)
    have hkk2 := hM.nix.keep k2 (fun e => e)
    have hkk3 := hM.nix.keep k3 (fun e => e)
    obtain ⟨KK, hKK⟩ : ∃ KK, KK = j * n := ⟨_, rfl⟩
    rw [← hKK]
    have HM := Lib.hid hM
    by_cases hjl : j < M
    · have hKS : KK + n ≤ S := by
        rw [HSn.out, hKK]
        have := Nat.mul_le_mul_right n (show j + 1 ≤ M by omega)
        rwa [Nat.succ_mul] at this
      have hKS2 : (KK : Int) < S := by omega
      have HKK := Lib.hid hKK
      have hj1 : (j + 1) * n = KK + n := by rw [Nat.succ_mul, hKK]
      have Hj1 := Lib.hid hj1
      clear hM hKK hj1
      by_cases hge : B ≤ KK
      · have hge2 : (B : Int) ≤ KK := by omega
        go_upto_region 27 with fail
        go_wp2_with fail
        refine (truth_ok odd _).mono ?_
        rintro e wD ⟨rfl, hcD⟩
        have HcD := Lib.hid hcD
        clear hcD
        have hob2 : odd.toNat ≤ 1 := by cases odd <;> decide
        have hxx : (odd.toNat : Int) * 7 = ((odd.toNat * 7 : Nat) : Int) := by omega
        have hmn : j * n ≤ 1024 := by rw [← HKK.out]; omega
        have Hxx := Lib.hid hxx
        have Hmn := Lib.hid hmn
        clear hxx hmn
        go_wp2_with (at_builtin; go_loud (refine (wpList_app info8 rfl (by decide) Tryz.underlying31 rfl (.tmp 128) (.tmp 135) rfl ((HM.out.own.nix HcD.out).nix (Chg.new _ _)) ((HM.out.nix.trans HcD.out).alloc _) 0 _ _ rfl rfl _ [.int .u8 ((odd.toNat : Int) * 7)] rfl (one_reads _ _ _) (by intro u hu; simp at hu; subst hu; rfl) (by rw [u8s_len, HM.out.wl]; simp; omega) ?_)))
        intro vN wN hON hNN
        have hnext : MinI w1 wN D least n (.slice (some ⟨gd, 0, none⟩) B cap) v8 bs (j + 1) vN v16 (ws ++ [odd.toNat * 7]) bd := by
          refine ⟨?_, hNN, by rw [List.length_append, HM.out.wl]; rfl, minis_pad HM.out.mi (by rw [← HKK.out, HBl.out]; exact hge), fun x hx => ?_, HM.out.l2, by rw [Hj1.out]; have := HM.out.bl; rw [← HKK.out] at this; omega⟩
          · rw [Hxx.out] at hON
            rw [u8s_app]
            exact hON
          · rcases List.mem_append.1 hx with hx | hx
            · exact HM.out.l1 x hx
            · rw [List.mem_singleton.1 hx]; omega
        have Hnext := Lib.hid hnext
        clear hnext hON hNN
        go_wp2_with fail
        go_roundw
        case rel => exact ⟨j + 1, ws ++ [odd.toNat * 7], bd, _, _, by rw [Hj1.out]; go_num, rfl, rfl, hjl, Hnext.out⟩
        case measure => simp [intOf]; omega
      · have hge2 : ¬ (B : Int) ≤ KK := by omega
        go_upto_if 127 with fail
        go_cut [15] from 124 to 127 (fun t15 wx => t15 = v15 ∧ wx = wr)
        case first =>
          go_wp2_with fail
          go_meet
          exact ⟨rfl, rfl⟩
        case rest =>
          obtain ⟨rfl, rfl⟩ := hcut
          apply_assumption
          refine mini_seg (S := S) (M := M) HM.out k2 hMore HBl.out hcapi hcapm hn1 hn1024 hn32 HKK.out (by omega) (by omega) Hle.out hb1 hb2 ?_
          clear HM
          intros
          rename_i hmi
          have Hmi := Lib.hid hmi
          clear hmi
          go_wp2_with fail
          go_roundw
          case rel => exact ⟨j + 1, _, _, _, _, by rw [Hj1.out]; go_num, rfl, rfl, hjl, Hmi.out⟩
          case measure => simp [intOf]; omega
    · have hjM2 : j = M := by omega
      subst hjM2
      have hKS2 : ¬ (KK : Int) < S := by rw [HSn.out, hKK]; omega
      have HM2 := Lib.hid hM
      clear hM hKK
      go_wp2_with fail
      exact HQ.out _ _ _ _ _ _ _ _ _ _ _ _ _ _ _ _ _ _ _ _ _ _ _ _ _ _ _ _ _ _ _ _ _ _ _ _ _ _ _ _ _ _ _ _ _ _ _ _ _ _ _ _ _ _ _ _ _ _ _ _ _ _ _ _ _ _ _ _ _ _ _ _ _ _ _ _ _ _ _ _ _ _ _ _ _ _ _ _ _ _ _ _ _ _ _ _ _ _ _ _ _ _ _ _ _ _ _ HM2.out
end Go.Proofs.YtaageikelkcphaaGreatDoor
/- spec.PutDeltas: a block. -/
namespace Go.Proofs.YtaageikelkcphaaGreatDoor
open Go Go.RowKit Go.Proofs.YtaageikelkcphaaGreatDoor.PFnPrefixesRead Go.Proofs.YtaageikelkcphaaGreatDoorW.PrintWords Go.Proofs.YtaageikelkcphaaGreatDoorW.PrintMore
theorem blkD_bnd {x0 : Int} {ys : List Int} {k S : Nat} (hr : ∀ x ∈ x0 :: ys, 0 ≤ x ∧ x ≤ 4096) {d : Int} (hd : d ∈ blkD x0 ys k S) : -4096 ≤ d ∧ d ≤ 4096 := by
  obtain ⟨i, hi, rfl⟩ := List.mem_iff_getElem.1 hd
  have hl := blkD_len x0 ys k S
  have hg := blkD_get x0 ys k S i (by omega) (by omega)
  rw [List.getElem?_eq_getElem hi] at hg
  injection hg with hg
  rw [hg]
  have hmem : ∀ j, j < (x0 :: ys).length → 0 ≤ (x0 :: ys).getD j 0 ∧ (x0 :: ys).getD j 0 ≤ 4096 := fun j hj => by
    rw [List.getD_eq_getElem?_getD, List.getElem?_eq_getElem hj]
    exact hr _ (List.getElem_mem hj)
  have h1 := hmem (k + i + 1) (by simp; omega)
  have h2 := hmem (k + i) (by simp; omega)
  generalize (x0 :: ys).getD (k + i + 1) 0 = a at *
  generalize (x0 :: ys).getD (k + i) 0 = b at *
  unfold RowKit.wrap32
  omega
noncomputable def blkC : Code := cB (cL (cR (cB (cB (cR (cL (cR (cR (cR (cR (cR (Tryz.f20.body.getD .skip))))))))))))
set_option maxRecDepth 100000 in
set_option maxHeartbeats 20000000 in
theorem blk_seg {w1 w0 : World} {g o L c AT q S M More bb : Nat} {odd : Bool} {x0 : Int} {ys : List Int} {bs : List Nat} {v7 : Value} {Q : Exit → Act → World → Prop} {c2 c3 c4 c6 c9 c10 c11 c12 c13 c14 c15 c16 c17 c18 c19 c20 c21 c22 c23 c24 c25 c26 c27 c28 c29 c30 c31 c32 c33 c34 c35 c36 c37 c38 c39 c40 c41 c42 c43 c44 c45 c46 c47 c48 c49 c50 c51 c52 c53 c54 c55 c56 c57 c58 c59 c60 c61 c62 c63 c64 c65 c66 c67 c68 c69 c70 c71 c72 c73 c74 c75 c76 c77 c78 c79 c80 c81 c82 c83 c84 c85 c86 c87 c88 c89 c90 c91 c92 c93 c94 c95 c96 c97 c98 c99 c100 c101 c102 c103 c104 c105 c106 c107 c108 c109 c110 c111 c112 c113 c114 c115 c116 c117 c118 c119 c120 c121 c122 c123 c124 c125 c126 c127 c128 c129 c130 c131 c132 c133 c134 c135 c136 c137 c138 c139 c140 c141 c142 c143 c144 c145 c146 c147 c148 c149 c150 c151 c152 c153 c154 c155 c156 c157 c158 c159 c160 c161 c162 c163 c164 c165 c166 c167 c168 c169 c170 c171 c172 c173 c174 c175 c176 c177 c178 c179 c180 c181 c182 c183 c184 c185 c186 c187 c188 c189 c190 c191 c192 c193 c194 c195 c196 c197 c198 c199 c200 c201 c202 c203 c204 c205 c206 c207 c208 c209 c210 c211 c212 c213 c214 c215 : Value}
    (hQ0 : OutQ w1 w0 S M (x0 :: ys) q v7 bs) (hf : BlkFit S M) (hAT : AT = 1 + S * q) (hlt : AT < L) (hLy1 : L ≤ ys.length + 1) (hLy2 : ys.length + 1 ≤ L) (hLn : L ≤ 2001) (hLc : L ≤ c) (hr : ∀ x ∈ x0 :: ys, 0 ≤ x ∧ x ≤ 4096) (hMore : More ≤ 8)
    (hcel : ∀ (j : Nat) x, (x0 :: ys)[j]? = some x → w1.cell? ⟨g, o + j, none⟩ = some (.int .i64 x)) (k0 : w1.cell? ⟨bb, 0, none⟩ = some (.int .i64 S)) (k1 : w1.cell? ⟨bb, 1, none⟩ = some (.int .i64 M)) (k2 : w1.cell? ⟨bb, 2, none⟩ = some (.int .i64 More)) (k3 : w1.cell? ⟨bb, 3, none⟩ = some (.bool odd))
    (hQ : ∀ (v7' u9 u10 u11 u12 u13 u14 u15 u16 u17 u18 u19 u21 u22 u23 u24 u25 u26 u63 u64 u65 u66 u67 u68 u69 u70 u71 u72 u73 u74 u75 u76 u77 u78 u79 u80 u81 u82 u83 u84 u85 u86 u87 u88 u89 u90 u91 u92 u93 u94 u95 u96 u97 u98 u99 u100 u101 u102 u103 u104 u105 u106 u107 u108 u109 u110 u111 u112 u113 u114 u115 u116 u117 u118 u119 u120 u121 u122 u123 u124 u125 u126 u127 u128 u129 u130 u131 u132 u133 u134 u135 u136 u137 u138 u139 u140 u141 u142 u143 u144 u145 u146 u147 u148 u149 u150 u151 u152 u153 u154 u155 u156 u157 u158 u159 u160 u161 u162 u163 u164 u165 u166 u167 u168 u169 u170 u171 u172 u173 u174 u175 u176 u177 u178 u179 u180 u181 u182 u183 u184 u185 u186 u187 u188 u189 u190 u191 u192 u193 u194 u195 u196 u197 u198 u199 u200 u201 u202 u203 u204 u205 u206 u207 u208 u209 u210 u211 u212 u213 u214 : Value) (w' : World) (bs' : List Nat), OutQ w1 w' S M (x0 :: ys) (q + 1) v7' bs' → Q .normal ⟨#[.slice (some ⟨g, o, none⟩) L c, .int .i64 32, c2, c3, c4, .pointer (some ⟨bb, 0, none⟩), c6, v7', .int .i64 AT, u9, u10, u11, u12, u13, u14, u15, u16, u17, u18, u19, c20, u21, u22, u23, u24, u25, u26, c27, c28, c29, c30, c31, c32, c33, c34, c35, c36, c37, c38, c39, c40, c41, c42, c43, c44, c45, c46, c47, c48, c49, c50, c51, c52, c53, c54, c55, c56, c57, c58, c59, c60, c61, c62, u63, u64, u65, u66, u67, u68, u69, u70, u71, u72, u73, u74, u75, u76, u77, u78, u79, u80, u81, u82, u83, u84, u85, u86, u87, u88, u89, u90, u91, u92, u93, u94, u95, u96, u97, u98, u99, u100, u101, u102, u103, u104, u105, u106, u107, u108, u109, u110, u111, u112, u113, u114, u115, u116, u117, u118, u119, u120, u121, u122, u123, u124, u125, u126, u127, u128, u129, u130, u131, u132, u133, u134, u135, u136, u137, u138, u139, u140, u141, u142, u143, u144, u145, u146, u147, u148, u149, u150, u151, u152, u153, u154, u155, u156, u157, u158, u159, u160, u161, u162, u163, u164, u165, u166, u167, u168, u169, u170, u171, u172, u173, u174, u175, u176, u177, u178, u179, u180, u181, u182, u183, u184, u185, u186, u187, u188, u189, u190, u191, u192, u193, u194, u195, u196, u197, u198, u199, u200, u201, u202, u203, u204, u205, u206, u207, u208, u209, u210, u211, u212, u213, u214, c215], []⟩ w') :
    Code.wp Tryz.prog blkC Q ⟨#[.slice (some ⟨g, o, none⟩) L c, .int .i64 32, c2, c3, c4, .pointer (some ⟨bb, 0, none⟩), c6, v7, .int .i64 AT, c9, c10, c11, c12, c13, c14, c15, c16, c17, c18, c19, c20, c21, c22, c23, c24, c25, c26, c27, c28, c29, c30, c31, c32, c33, c34, c35, c36, c37, c38, c39, c40, c41, c42, c43, c44, c45, c46, c47, c48, c49, c50, c51, c52, c53, c54, c55, c56, c57, c58, c59, c60, c61, c62, c63, c64, c65, c66, c67, c68, c69, c70, c71, c72, c73, c74, c75, c76, c77, c78, c79, c80, c81, c82, c83, c84, c85, c86, c87, c88, c89, c90, c91, c92, c93, c94, c95, c96, c97, c98, c99, c100, c101, c102, c103, c104, c105, c106, c107, c108, c109, c110, c111, c112, c113, c114, c115, c116, c117, c118, c119, c120, c121, c122, c123, c124, c125, c126, c127, c128, c129, c130, c131, c132, c133, c134, c135, c136, c137, c138, c139, c140, c141, c142, c143, c144, c145, c146, c147, c148, c149, c150, c151, c152, c153, c154, c155, c156, c157, c158, c159, c160, c161, c162, c163, c164, c165, c166, c167, c168, c169, c170, c171, c172, c173, c174, c175, c176, c177, c178, c179, c180, c181, c182, c183, c184, c185, c186, c187, c188, c189, c190, c191, c192, c193, c194, c195, c196, c197, c198, c199, c200, c201, c202, c203, c204, c205, c206, c207, c208, c209, c210, c211, c212, c213, c214, c215], []⟩ w0 := by
  obtain ⟨n1, n2, n3, n4⟩ := hf.n1
  have s1 := hf.s1
  have s3 := hf.s3
  have m1 := hf.m1
  have hm3 := hf.m3
  obtain ⟨k, hk⟩ : ∃ k, k = S * q := ⟨_, rfl⟩
  have hATk : AT = 1 + k := by rw [hk]; exact hAT
  obtain ⟨B, hB⟩ : ∃ B, B = min S (ys.length - k) := ⟨_, rfl⟩
  have hB1 : 1 ≤ B := by omega
  have i1 : (AT : Int) < L := by omega
  have i2 : (0 : Int) ≤ AT := by omega
  have i3 : (AT : Int).toNat = AT := by omega
  have i4 : ¬ c = AT := by omega
  obtain ⟨E, hE⟩ : ∃ E, E = AT + B := ⟨_, rfl⟩
  have hmin : (if (AT : Int) + S < L then (AT : Int) + S else (L : Int)) = (E : Int) := by split <;> omega
  have i5 : (0 : Int) ≤ E := by omega
  have i6 : (E : Int).toNat = E := by omega
  have i7 : (E : Int) ≤ c := by omega
  have i8 : E ≤ c := by omega
  have i9 : AT ≤ E := by omega
  have hEB : E - AT = B := by omega
  have hq20 : q ≤ 20 := by
    have h1 : 128 * q ≤ S * q := Nat.mul_le_mul_right q s1
    omega
  have hkk0 := hQ0.nix.keep k0 (fun e => e)
  have hD0 : DelI w1 w0 (blkD x0 ys k S) v7 bs 0 0 (.slice none 0 0) := ⟨hQ0.own.consNil _ hQ0.nix.size, hQ0.nix, fun d hd => by simp at hd, by omega, by omega⟩
  have HD0 := Lib.hid hD0
  have HQ0 := Lib.hid hQ0
  have Hf := Lib.hid hf
  have HATk := Lib.hid hATk
  have HB := Lib.hid hB
  have Hk := Lib.hid hk
  have Hr := Lib.hid hr
  have Hcel := Lib.hid hcel
  have HQ := Lib.hid hQ
  have Hmin := Lib.hid hmin
  have HEB := Lib.hid hEB
  have Hn3 := Lib.hid n3
  have Hm3 := Lib.hid hm3
  clear hD0 hQ0 hf hATk hB hk hr hcel hQ hmin hE hEB hAT n3 hm3
  conv => arg 2; whnf
  go_upto_region 10 with fail
  rw [Hmin.out, i6, HEB.out]
  go_upto_region 11 with fail
  go_cut [11] from 63 to 72 (fun v11 wx => v11 = .int .i64 0 ∧ wx = w0)
  case first =>
    go_wp2_with fail
    go_meet
    exact ⟨rfl, rfl⟩
  case rest =>
    obtain ⟨rfl, rfl⟩ := hcut
    clear hkk0
    apply_assumption
    refine wp_seq ?_
    refine del_seg HD0.out HATk.out HB.out s3 hLy1 hLy2 hLn Hr.out Hcel.out ?_
    intros
    rename_i v10 u12 u13 u73 u74 u75 u76 u77 u78 u79 u80 u81 u82 u83 u84 u85 u86 u87 u88 u89 u90 u91 u92 u93 u94 u95 u96 u97 u98 u99 u100 u101 u102 u103 u104 u105 u106 least wD hD
    have hne : blkD x0 ys k S ≠ [] := by
      intro e
      have := blkD_len x0 ys k S
      rw [e, ← HB.out] at this
      simp at this
      omega
    have hds := blkD_len x0 ys k S
    rw [← HB.out] at hds
    have htk : (blkD x0 ys k S).take B = blkD x0 ys k S := List.take_of_length_le (by omega)
    have hO1 := hD.own
    rw [htk] at hO1
    have hle := hD.le
    rw [htk] at hle
    have hb1 := hD.b1
    have hb2 := hD.b2
    obtain ⟨gd, cap, rfl, hcap, hcapm, -⟩ := own_form (hO1.at 0 rfl) hne
    rw [hds] at hcap hO1 ⊢
    have HO1 := Lib.hid hO1
    have Hle := Lib.hid hle
    have HN1 := Lib.hid hD.nix
    have Hds := Lib.hid hds
    clear hD hO1 hle htk hne hds HD0
    go_upto_region 20 with fail
    go_wp2_with fail
    refine (zig_ok least (by omega) _).mono ?_
    rintro e wB ⟨rfl, hcB⟩
    have HcB := Lib.hid hcB
    clear hcB
    go_wp2_with fail
    refine (putLeb_ok (zigN least) (zigN_lt least (by omega)) _).mono ?_
    rintro e wC ⟨vC, rfl, hoC, hcC⟩
    have HoC := Lib.hid hoC
    have HcC := Lib.hid hcC
    clear hoC hcC
    have hb5 := vlq_le (zigN_lt least (by omega))
    have hbl := HQ0.out.len
    go_wp2_with (at_builtin; go_loud (refine (wpList_app info8 rfl (by decide) Tryz.underlying31 rfl (.tmp 107) (.tmp 110) rfl ((HO1.out.nix HcB.out).nix HcC.out) ((HN1.out.trans HcB.out).trans HcC.out) 1 _ _ rfl rfl _ (u8s (vlq (zigN least))) rfl HoC.out.reads (u8s_one _) (by rw [u8s_len, u8s_len]; omega) ?_)))
    intro v8 w8 hO8 hN8
    have hO8' : Owns w8 w1.heap.size [(2, .slice (some ⟨gd, 0, none⟩) B cap, ksOf .i64 (blkD x0 ys k S)), (5, v8, u8s (bs ++ vlq (zigN least)))] := by
      rw [u8s_app]; exact hO8
    have HO8 := Lib.hid hO8'
    have HN8 := Lib.hid hN8
    have hkk0 := hN8.keep k0 (fun e => e)
    have hkk1 := hN8.keep k1 (fun e => e)
    clear hO8 hO8' hN8 HO1 HN1 HcB HoC HcC
    obtain ⟨n, hn⟩ : ∃ n, n = S / M := ⟨_, rfl⟩
    have hMn : ¬ M = 0 := by omega
    have hMn2 : ¬ (M : Int) = 0 := by omega
    have hSM : (S : Int) / M = n := by rw [hn]; exact (Int.natCast_ediv S M).symm
    have hSn : S = M * n := by rw [hn]; exact Hn3.out
    have hn32 : n % 32 = 0 := by rw [hn]; exact Hm3.out
    have hn1 : 32 ≤ n := by omega
    have hn1024 : n ≤ 1024 := by omega
    have HSM := Lib.hid hSM
    have HSn := Lib.hid hSn
    have Hn := Lib.hid hn
    clear hSM hSn hn
    go_upto_region 22 with fail
    rw [HSM.out]
    have hM0 : MinI w1 w8 (blkD x0 ys k S) least n (.slice (some ⟨gd, 0, none⟩) B cap) v8 (bs ++ vlq (zigN least)) 0 (.slice none 0 0) (.slice none 0 0) [] [] :=
      ⟨((HO8.out.consNil _ HN8.out.size).consNil _ HN8.out.size), HN8.out, rfl, by simp; exact .nil _, fun x hx => by simp at hx, fun x hx => by simp at hx, by simp⟩
    have HM0 := Lib.hid hM0
    clear hM0 hkk0 hkk1
    go_cut [15, 16] from 112 to 116 (fun v15 v16 wx => v15 = .slice none 0 0 ∧ v16 = .slice none 0 0 ∧ wx = w8)
    case first =>
      go_wp2_with fail
      go_meet
      exact ⟨rfl, rfl, rfl⟩
    case rest =>
      obtain ⟨rfl, rfl, rfl⟩ := hcut
      apply_assumption
      refine wp_seq ?_
      refine min_seg HM0.out k0 k2 k3 hMore Hds.out hcap hcapm hn1 hn1024 hn32 HSn.out s3 n4 (fun d hd => ?_) hb1 hb2 ?_
      · have h1 := Hle.out d hd
        have h2 := blkD_bnd Hr.out hd
        exact ⟨h1, by omega, h2.1, h2.2⟩
      intros
      rename_i wM ws bd hM
      have hwl := hM.wl
      have hbd := hM.bl
      have HM := Lib.hid hM
      clear hM HM0
      go_upto_region 51 with fail
      go_wp2_with (at_builtin; go_loud (refine (wpList_app info8 rfl (by decide) Tryz.underlying31 rfl (.tmp 210) (.tmp 211) rfl HM.out.own HM.out.nix 3 _ _ rfl rfl _ (u8s ws) rfl (HM.out.own.at 0 rfl).reads (u8s_one _) (by rw [u8s_len, u8s_len, List.length_append]; omega) ?_)))
      intro v9 w9 hO9 hN9
      have HO9 := Lib.hid hO9
      have HN9 := Lib.hid hN9
      clear hO9 hN9
      have hbd2 : bd.length ≤ 4096 := by have := HSn.out; omega
      go_wp2_with (at_builtin; go_loud (refine (wpList_app info8 rfl (by decide) Tryz.underlying31 rfl (.tmp 212) (.tmp 213) rfl HO9.out HN9.out 3 _ _ rfl rfl _ (u8s bd) rfl (HO9.out.at 1 rfl).reads (u8s_one _) (by rw [List.length_append, u8s_len, u8s_len, u8s_len, List.length_append]; omega) ?_)))
      intro vE wE hOE hNE
      have hfin : OutQ w1 wE S M (x0 :: ys) (q + 1) vE (bs ++ vlq (zigN least) ++ ws ++ bd) := by
        have hkk := Hk.out
        have hBB := HB.out
        refine ⟨?_, ?_, fun x hx => ?_, ?_, hNE, by omega⟩
        · have h3 := Owns.tail (Owns.tail (Owns.tail hOE))
          simp only [u8s_app, List.append_assoc] at h3 ⊢
          exact h3
        · rw [Nat.mul_succ, ← hkk]
          refine Part.step (x0 := x0) (ys := ys) ?_ rfl (by omega) (zigN_lt least (by omega)) (by rw [zigN_unzig]; omega) hwl ?_
          · rw [hkk]; exact HQ0.out.part
          · rw [zigN_unzig, ← Hn.out]
            have h4 := HM.out.mi
            rw [← HSn.out, List.take_of_length_le (by rw [Hds.out]; omega)] at h4
            exact h4
        · simp only [List.mem_append] at hx
          rcases hx with ((hx | hx) | hx) | hx
          · exact HQ0.out.lt x hx
          · exact vlq_lt (zigN_lt least (by omega)) x hx
          · exact HM.out.l1 x hx
          · exact HM.out.l2 x hx
        · simp only [List.length_append]
          omega
      have Hfin := Lib.hid hfin
      clear hfin hOE hNE
      go_wp2_with fail
      exact HQ.out _ _ _ _ _ _ _ _ _ _ _ _ _ _ _ _ _ _ _ _ _ _ _ _ _ _ _ _ _ _ _ _ _ _ _ _ _ _ _ _ _ _ _ _ _ _ _ _ _ _ _ _ _ _ _ _ _ _ _ _ _ _ _ _ _ _ _ _ _ _ _ _ _ _ _ _ _ _ _ _ _ _ _ _ _ _ _ _ _ _ _ _ _ _ _ _ _ _ _ _ _ _ _ _ _ _ _ _ _ _ _ _ _ _ _ _ _ _ _ _ _ _ _ _ _ _ _ _ _ _ _ _ _ _ _ _ _ _ _ _ _ _ _ _ _ _ _ _ _ _ _ _ _ _ _ _ _ _ _ _ _ _ _ _ _ _ _ _ _ _ _ _ Hfin.out
end Go.Proofs.YtaageikelkcphaaGreatDoor
/- spec.PutDeltas at 32 bits: what is written. -/
namespace Go.Proofs.YtaageikelkcphaaGreatDoor
open Go Go.RowKit Go.Proofs.YtaageikelkcphaaGreatDoor.PFnPrefixesRead Go.Proofs.YtaageikelkcphaaGreatDoorW.PrintWords Go.Proofs.YtaageikelkcphaaGreatDoorW.PrintMore
set_option maxRecDepth 100000 in
set_option maxHeartbeats 4000000 in
theorem putDeltas_ok (w : World) (g o c S M More : Nat) (odd : Bool) (x0 : Int) (ys : List Int) (hf : BlkFit S M) (hMore : More ≤ 8) (hl : ys.length ≤ 2000) (hr : ∀ x ∈ x0 :: ys, 0 ≤ x ∧ x ≤ 4096) (hc : (x0 :: ys).length ≤ c)
    (hcel : ∀ (j : Nat) x, (x0 :: ys)[j]? = some x → w.cell? ⟨g, o + j, none⟩ = some (.int .i64 x)) :
    Calls Tryz.prog 20 #[.slice (some ⟨g, o, none⟩) (x0 :: ys).length c, .int .i64 32, .agg #[.int .i64 S, .int .i64 M, .int .i64 More, .bool odd]] w fun e w' =>
      ∃ v bs, e = .returned v ∧ Own1 w' w.heap.size 5 v (u8s bs) ∧ DeltaEnc RowKit.wrap32 32 S M (x0 :: ys) bs ∧ (∀ x ∈ bs, x < 256) ∧ bs.length ≤ 1000200 ∧ Chg Nix w w' := by
  have h20 := hr x0 List.mem_cons_self
  have hx0 : w.cell? ⟨g, o, none⟩ = some (.int .i64 x0) := by have := hcel 0 x0 rfl; rwa [Nat.add_zero] at this
  obtain ⟨n1, n2, n3, n4⟩ := hf.n1
  have s1 := hf.s1
  have s3 := hf.s3
  have m1 := hf.m1
  obtain ⟨L, hL⟩ : ∃ L, L = (x0 :: ys).length := ⟨_, rfl⟩
  have hL' : L = ys.length + 1 := hL
  have hL0 : 0 < L := by omega
  have hLc : L ≤ c := by rw [hL]; exact hc
  have hLn : L ≤ 2001 := by omega
  obtain ⟨w1, hw1⟩ : ∃ w1, w1 = w.alloc (.cells #[.int .i64 S, .int .i64 M, .int .i64 More, .bool odd] 24) := ⟨_, rfl⟩
  have hc1 : Chg Nix w w1 := by rw [hw1]; exact Chg.new _ _
  obtain ⟨bb, hbb⟩ : ∃ bb, bb = w.heap.size := ⟨_, rfl⟩
  have hbox : ∀ (j : Nat) u, #[Value.int .i64 S, .int .i64 M, .int .i64 More, .bool odd][j]? = some u → w1.cell? ⟨bb, j, none⟩ = some u := fun j u hu => by
    rw [hw1]; subst hbb; rw [World.cell?_alloc_new]; exact hu
  have hs1 : w1.heap.size = bb + 1 := by rw [hw1, hbb]; simp
  have k0 : w1.cell? ⟨bb, 0, none⟩ = some (.int .i64 S) := hbox 0 _ rfl
  have k1 : w1.cell? ⟨bb, 1, none⟩ = some (.int .i64 M) := hbox 1 _ rfl
  have k2 : w1.cell? ⟨bb, 2, none⟩ = some (.int .i64 More) := hbox 2 _ rfl
  have k3 : w1.cell? ⟨bb, 3, none⟩ = some (.bool odd) := hbox 3 _ rfl
  have hcel1 : ∀ (j : Nat) x, (x0 :: ys)[j]? = some x → w1.cell? ⟨g, o + j, none⟩ = some (.int .i64 x) := fun j x hx => hc1.keep (hcel j x hx) (fun e => e)
  have p0 : (S : Int) < 18446744073709551616 := by omega
  have u0 : IntKind.u64.wrap (S : Int) = S := wrap64 _ (by omega) (by show (S : Int) < 18446744073709551616; omega)
  have u1 : IntKind.u64.wrap (M : Int) = M := wrap64 _ (by omega) (by show (M : Int) < 18446744073709551616; omega)
  have u2 : IntKind.u64.wrap (L : Int) = L := wrap64 _ (by omega) (by show (L : Int) < 18446744073709551616; omega)
  have hLne : ((L : Int) == 0) = false := beq_eq_false_iff_ne.2 (by omega)
  have hLne2 : ¬ (L : Int) = 0 := by omega
  rw [← hL]
  have Hf := Lib.hid hf
  have Hr := Lib.hid hr
  have Hc1 := Lib.hid hc1
  have Hbb := Lib.hid hbb
  have Hs1 := Lib.hid hs1
  have Hcel1 := Lib.hid hcel1
  have Hw1 := Lib.hid hw1
  have HL := Lib.hid hL
  have HL' := Lib.hid hL'
  have Hn3 := Lib.hid n3
  clear hf hr hc1 hbb hs1 hcel1 hw1 hL hL' hcel hbox hx0 p0 n3 hc
  go_enter Tryz.func20, Tryz.ntmps20
  go_upto_region 1 with fail
  rw [← Hbb.out, ← Hw1.out]
  have hS64 : S < 2 ^ 64 := Nat.lt_of_le_of_lt s3 (by decide)
  have hM64 : M < 2 ^ 64 := Nat.lt_of_le_of_lt n4 (by decide)
  have hL64 : L < 2 ^ 64 := Nat.lt_of_le_of_lt hLn (by decide)
  have HS64 := Lib.hid hS64
  have HM64 := Lib.hid hM64
  have HL64 := Lib.hid hL64
  clear hS64 hM64 hL64
  go_cut [7] (fun v7 wx => ∃ bs, bs = vlq S ++ vlq M ∧ Owns wx w1.heap.size [(5, v7, u8s bs)] ∧ Chg Nix w1 wx)
  case first =>
    have HI : HR.InvL [(⟨bb, 0, none⟩, .int .i64 S), (⟨bb, 1, none⟩, .int .i64 M)] w1.drew := .cons k0 (.cons k1 (.nil _))
    refine HR.region (HR.InvL [(⟨bb, 0, none⟩, .int .i64 S), (⟨bb, 1, none⟩, .int .i64 M)]) (by kernel_rfl) (by kernel_rfl) ?_
    repeat (first | (refine HR.pure rfl rfl (fun K hK => ?_); go_simp; refine hK _ ?_; clear hK K) | (refine HR.loadI HI 0 rfl rfl rfl ?_ ?_; (focus (intro w' hc; go_simp; done)); go_simp) | (refine HR.loadI HI 1 rfl rfl rfl ?_ ?_; (focus (intro w' hc; go_simp; done)); go_simp) | (refine HR.loadI HI 2 rfl rfl rfl ?_ ?_; (focus (intro w' hc; go_simp; done)); go_simp) | (refine HR.loadI HI 3 rfl rfl rfl ?_ ?_; (focus (intro w' hc; go_simp; done)); go_simp))
    (refine HR.effect rfl rfl HI (fun K hK => ?_); go_simp)
    refine (putLeb_ok S HS64.out _).mono ?_
    rintro e wA ⟨vA, rfl, hoA, hcA⟩
    dsimp only
    refine HR.back hK ?_ (fun HI2 => ?_)
    · exact .cons (hcA.keep (HI.get 0 rfl) (fun e => e)) (.cons (hcA.keep (HI.get 1 rfl) (fun e => e)) (.nil _))
    clear hK K HI
    have HI := HI2
    repeat (first | (refine HR.pure rfl rfl (fun K hK => ?_); go_simp; refine hK _ ?_; clear hK K) | (refine HR.loadI HI 0 rfl rfl rfl ?_ ?_; (focus (intro w' hc; go_simp; done)); go_simp) | (refine HR.loadI HI 1 rfl rfl rfl ?_ ?_; (focus (intro w' hc; go_simp; done)); go_simp) | (refine HR.loadI HI 2 rfl rfl rfl ?_ ?_; (focus (intro w' hc; go_simp; done)); go_simp) | (refine HR.loadI HI 3 rfl rfl rfl ?_ ?_; (focus (intro w' hc; go_simp; done)); go_simp))
    (refine HR.effect rfl rfl HI (fun K hK => ?_); go_simp)
    refine (putLeb_ok M HM64.out _).mono ?_
    rintro e wB ⟨vB, rfl, hoB, hcB⟩
    dsimp only
    refine HR.back hK ?_ (fun HI3 => ?_)
    · exact .cons (hcB.keep (HI.get 0 rfl) (fun e => e)) (.cons (hcB.keep (HI.get 1 rfl) (fun e => e)) (.nil _))
    clear hK K HI HI2
    have HI := HI3
    have hcA' : Chg Nix w1 wA := hcA.undrew
    have hOA : Owns wB w1.heap.size [(5, vA, u8s (vlq S))] := ((Owns.empty w1 _).cons hcA' hoA (Nat.le_refl _)).nix hcB
    have hb1 := vlq_le HS64.out
    have hb2 := vlq_le HM64.out
    refine hr_app info8 rfl (by decide) Tryz.underlying31 HI rfl (.tmp 30) (.tmp 34) rfl hOA (hcA'.trans hcB) 0 vA _ rfl rfl vB (u8s (vlq M)) rfl hoB.reads (u8s_one _) (by rw [u8s_len, u8s_len]; omega) ?_
    intro v' w' hO' hN'
    refine ⟨.cons (hN'.keep k0 (fun e => e)) (.cons (hN'.keep k1 (fun e => e)) (.nil _)), ?_⟩
    repeat (first | (refine HR.pure rfl rfl (fun K hK => ?_); go_simp; refine hK _ ?_; clear hK K) | (refine HR.loadI HI 0 rfl rfl rfl ?_ ?_; (focus (intro w' hc; go_simp; done)); go_simp) | (refine HR.loadI HI 1 rfl rfl rfl ?_ ?_; (focus (intro w' hc; go_simp; done)); go_simp) | (refine HR.loadI HI 2 rfl rfl rfl ?_ ?_; (focus (intro w' hc; go_simp; done)); go_simp) | (refine HR.loadI HI 3 rfl rfl rfl ?_ ?_; (focus (intro w' hc; go_simp; done)); go_simp))
    refine HR.nil ?_
    go_wp2_with fail
    go_meet
    exact ⟨_, rfl, by rw [u8s_app]; exact hO', hN'⟩
  case rest =>
    obtain ⟨bs0, hbs0, hO0, hN0⟩ := hcut
    have hb1 := vlq_le HS64.out
    have hb2 := vlq_le HM64.out
    have hb3 := vlq_le HL64.out
    have hbl0 : bs0.length ≤ 20 := by rw [hbs0, List.length_append]; omega
    have HO0 := Lib.hid hO0
    have HN0 := Lib.hid hN0
    have Hbs0 := Lib.hid hbs0
    clear hO0 hN0 hbs0
    have hx0 := HN0.out.keep (show w1.cell? ⟨g, o, none⟩ = some (.int .i64 x0) by have := Hcel1.out 0 x0 rfl; rwa [Nat.add_zero] at this) (fun e => e)
    go_wp2_with fail
    refine (putLeb_ok L HL64.out _).mono ?_
    rintro e wA ⟨vA, rfl, hoA, hcA⟩
    have hxA := hcA.keep hx0 (fun e => e)
    have HoA := Lib.hid hoA
    have HcA := Lib.hid hcA
    clear hoA hcA hx0
    go_wp2_with (at_builtin; go_loud (refine (wpList_app info8 rfl (by decide) Tryz.underlying31 rfl (.tmp 36) (.tmp 40) rfl (HO0.out.nix HcA.out) (HN0.out.trans HcA.out) 0 _ (u8s bs0) rfl rfl _ (u8s (vlq L)) rfl HoA.out.reads (u8s_one _) (by rw [u8s_len, u8s_len]; omega) ?_)))
    intro v2 w2 hO2 hN2
    have hx2 := hN2.keep (show w1.cell? ⟨g, o, none⟩ = some (.int .i64 x0) by have := Hcel1.out 0 x0 rfl; rwa [Nat.add_zero] at this) (fun e => e)
    have HO2 := Lib.hid hO2
    have HN2 := Lib.hid hN2
    clear hO2 hN2 HO0 HN0 HoA HcA hxA
    go_wp2_with fail
    refine (zig_ok x0 (by omega) _).mono ?_
    rintro e wB ⟨rfl, hcB⟩
    have HcB := Lib.hid hcB
    clear hcB
    go_wp2_with fail
    refine (putLeb_ok (zigN x0) (zigN_lt x0 (by omega)) _).mono ?_
    rintro e wC ⟨vC, rfl, hoC, hcC⟩
    have HoC := Lib.hid hoC
    have HcC := Lib.hid hcC
    clear hoC hcC
    have hb4 := vlq_le (zigN_lt x0 (by omega))
    go_wp2_with (at_builtin; go_loud (refine (wpList_app info8 rfl (by decide) Tryz.underlying31 rfl (.tmp 48) (.tmp 53) rfl ((HO2.out.nix HcB.out).nix HcC.out) ((HN2.out.trans HcB.out).trans HcC.out) 0 _ _ rfl rfl _ (u8s (vlq (zigN x0))) rfl HoC.out.reads (u8s_one _) (by rw [List.length_append, u8s_len, u8s_len, u8s_len]; omega) ?_)))
    intro v3 w3 hO3 hN3
    have h0 : OutQ w1 w3 S M (x0 :: ys) 0 v3 (vlq S ++ vlq M ++ vlq (x0 :: ys).length ++ vlq (zigN x0)) := by
      refine ⟨?_, by rw [Nat.mul_zero]; exact Part.start (zigN_unzig x0) (zigN_lt x0 (by omega)), fun x hx => ?_, ?_, hN3, Nat.zero_le _⟩
      · simp only [List.set_cons_zero, Hbs0.out, u8s_app, List.append_assoc, HL.out] at hO3 ⊢
        exact hO3
      · rw [← HL.out] at hx
        simp only [List.mem_append] at hx
        rcases hx with ((hx | hx) | hx) | hx
        · exact vlq_lt HS64.out x hx
        · exact vlq_lt HM64.out x hx
        · exact vlq_lt HL64.out x hx
        · exact vlq_lt (zigN_lt x0 (by omega)) x hx
      · rw [← HL.out]
        simp only [List.length_append]
        omega
    have H0 := Lib.hid h0
    clear h0 hO3 hN3 HO2 HN2 HcB HoC HcC hx2
    go_wp2_with fail
    go_loopw [7, 8] (fun v7 v8 wr => ∃ q bs t7, v8 = .int .i64 ((1 + S * q : Nat) : Int) ∧ t7 = v7 ∧ OutQ w1 wr S M (x0 :: ys) q t7 bs ∧ S * q ≤ ys.length + S) (fun _ v8 _ => L - (intOf v8).toNat)
    case atStart => exact ⟨0, _, _, rfl, rfl, H0.out, by omega⟩
    case round =>
      obtain ⟨q, bs, v7, rfl, rfl, hQ, hq⟩ := hrel
      clear H0
      obtain ⟨AT, hAT⟩ : ∃ AT, AT = 1 + S * q := ⟨_, rfl⟩
      rw [← hAT]
      have hLy1 : L ≤ ys.length + 1 := by have := HL'.out; omega
      have hLy2 : ys.length + 1 ≤ L := by have := HL'.out; omega
      have HQ := Lib.hid hQ
      have hkk0 := hQ.nix.keep k0 (fun e => e)
      clear hQ
      by_cases hlt : AT < L
      · have i1 : (AT : Int) < L := by omega
        have HAT := Lib.hid hAT
        clear hAT
        go_upto_if 58 with fail
        go_cut [7] (fun t7 wx => t7 = v7 ∧ wx = wr)
        case first =>
          go_wp2_with fail
          go_meet
          exact ⟨rfl, rfl⟩
        case rest =>
          obtain ⟨rfl, rfl⟩ := hcut
          apply_assumption
          refine wp_seq (wp_block ?_)
          refine blk_seg HQ.out Hf.out HAT.out hlt hLy1 hLy2 hLn hLc Hr.out hMore Hcel1.out k0 k1 k2 k3 ?_
          intros
          rename_i wE bs2 hOut
          have hEk0 := hOut.nix.keep k0 (fun e => e)
          have HOut := Lib.hid hOut
          clear hOut
          have hmul : AT + S = 1 + S * (q + 1) := by have := HAT.out; rw [Nat.mul_succ]; omega
          have hqn : S * (q + 1) ≤ ys.length + S := by have := HAT.out; rw [Nat.mul_succ]; omega
          have Hmul := Lib.hid hmul
          have Hqn := Lib.hid hqn
          clear hmul hqn
          go_wp2_with fail
          go_roundw
          case rel => exact ⟨q + 1, bs2, _, by rw [← Hmul.out]; go_num, rfl, HOut.out, Hqn.out⟩
          case measure => simp [intOf]; omega
      · have i1 : ¬ (AT : Int) < L := by omega
        have HAT := Lib.hid hAT
        clear hAT
        go_wp2_with fail
        go_ret
        have hbs := HQ.out.len
        have hqq := HQ.out.q
        have hw := Hs1.out
        have hb := Hbb.out
        refine ⟨_, rfl, bs, (HQ.out.own.at 0 rfl).lower (by omega), HQ.out.part.done ?_, HQ.out.lt, by omega, Hc1.out.trans HQ.out.nix⟩
        have := HAT.out
        simp only [List.length_cons]
        omega
end Go.Proofs.YtaageikelkcphaaGreatDoor
