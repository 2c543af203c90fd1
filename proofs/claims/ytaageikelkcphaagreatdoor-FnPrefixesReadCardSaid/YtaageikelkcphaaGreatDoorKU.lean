/- Part 21 of the proof: the texts SD, SF, SG, joined. What each proves stands ahead of it. -/
import Derived.Test.YtaageikelkcphaaGreatDoorKT
import Derived.Test.YtaageikelkcphaaGreatDoorKK
import Derived.Test.YtaageikelkcphaaGreatDoorKH
set_option linter.unusedVariables false
set_option linter.unusedSimpArgs false
/- Rows of one's own in a walk: bytes, numbers, bools appended. -/
namespace Go.Proofs.YtaageikelkcphaaGreatDoor
open Go Go.RowKit
theorem info8 : (Tryz.prog.info? 5).map (fun i => (i.zero, i.size, i.bytes)) = some (some (.int .u8 0), 1, 1) := by kernel_rfl
theorem info64 : (Tryz.prog.info? 2).map (fun i => (i.zero, i.size, i.bytes)) = some (some (.int .i64 0), 1, 8) := by kernel_rfl
theorem infoB : (Tryz.prog.info? 4).map (fun i => (i.zero, i.size, i.bytes)) = some (some (.bool false), 1, 1) := by kernel_rfl
theorem infoStr : (Tryz.prog.info? 9).map (fun i => (i.zero, i.size, i.bytes)) = some (some (.string ⟨#[]⟩), 1, 16) := by kernel_rfl
theorem one_reads (w : World) (e : TypeId) (y : Value) : Reads (w.alloc (.cells #[y] e)) (.slice (some ⟨w.heap.size, 0, none⟩) 1 1) [y] := by
  refine ⟨_, 1, rfl, .inr ⟨w.heap.size, 0, rfl, fun j u hu => ?_⟩⟩
  cases j with
  | zero => simp at hu; subst hu; simp
  | succ j => simp at hu
/-- Behind an append to a row from base on, nothing else has turned. -/
theorem nixOwn {w1 w w' : World} {v : Value} (hN : Chg Nix w1 w) (hb : ∀ g, v.ownBlock = some g → w1.heap.size ≤ g) (hc : Chg (fun k _ => v.ownBlock = some k) w w') : Chg Nix w1 w' :=
  hN.comp hc (fun _ _ _ h => h) (fun a x ha h => by have := hb a h; omega)
section
variable {e t : TypeId} {z : Value} {by_ : Nat}
/-- append to row i of one's own. -/
theorem wpList_app (hinf : (Tryz.prog.info? e).map (fun i => (i.zero, i.size, i.bytes)) = some (some z, 1, by_)) (hzs : z.cells.size = 1) (hby : by_ ≤ 24) (ht : Tryz.prog.underlying t = some (.slice e))
    {w1 w : World} {ops : Array Oper} {rest : List Oper} {o : Oper} {a : Act} {Q : Exit → Act → World → Prop} (hgd : o.guard = none) (s x : Operand)
    (ho : o.op = .call { callee := .builtin .append, args := #[s, x], argTypes := #[t, t] })
    {L : List (TypeId × Value × List Value)} (hO : Owns w w1.heap.size L) (hN : Chg Nix w1 w) (i : Nat) (v : Value) (xs : List Value) (hi : L[i]? = some (e, v, xs)) (hs : a.eval s = v)
    (y : Value) (news : List Value) (hx : a.eval x = y) (hy : Reads w y news) (h1 : ∀ u ∈ news, u.oneCell' = true)
    (hb : xs.length + news.length ≤ 1000000000)
    (h : ∀ v' w', Owns w' w1.heap.size (L.set i (e, v', xs ++ news)) → Chg Nix w1 w' → wpList Tryz.prog ops Q rest (a.put o.dst v') w') : wpList Tryz.prog ops Q (o :: rest) a w := by
  obtain ⟨inf, hinf1, hinf2⟩ := Option.map_eq_some_iff.1 hinf
  injection hinf2 with h2 h3
  injection h3 with h3 h4
  refine wpList_append_own hgd s x t ho w1.heap.size e inf z by_ ht hinf1 h2 h3 h4 hzs v xs hs (hO.at i hi) y news hx hy h1 (by unfold maxLen; omega) ?_ hN.size (fun v' w' k1 k2 k3 => h v' w' (hO.put i hi k1 k2 k3) (nixOwn hN (fun g hg => ((hO.at i hi).lt g hg).1) k2))
  have := Nat.mul_le_mul hb hby
  omega
theorem hr_app (hinf : (Tryz.prog.info? e).map (fun i => (i.zero, i.size, i.bytes)) = some (some z, 1, by_)) (hzs : z.cells.size = 1) (hby : by_ ≤ 24) (ht : Tryz.prog.underlying t = some (.slice e))
    {w1 w : World} {Inv : World → Prop} {ops : Array Oper} {rest : List Oper} {o : Oper} {a : Act} {K : Act → World → Prop} (HI : Inv w) (hgd : o.guard = none) (s x : Operand)
    (ho : o.op = .call { callee := .builtin .append, args := #[s, x], argTypes := #[t, t] })
    {L : List (TypeId × Value × List Value)} (hO : Owns w w1.heap.size L) (hN : Chg Nix w1 w) (i : Nat) (v : Value) (xs : List Value) (hi : L[i]? = some (e, v, xs)) (hs : a.eval s = v)
    (y : Value) (news : List Value) (hx : a.eval x = y) (hy : Reads w y news) (h1 : ∀ u ∈ news, u.oneCell' = true)
    (hb : xs.length + news.length ≤ 1000000000)
    (h : ∀ v' w', Owns w' w1.heap.size (L.set i (e, v', xs ++ news)) → Chg Nix w1 w' → Inv w' ∧ HR.wpTxt Tryz.prog Inv ops K rest (a.put o.dst v') w') : HR.wpTxt Tryz.prog Inv ops K (o :: rest) a w := by
  obtain ⟨inf, hinf1, hinf2⟩ := Option.map_eq_some_iff.1 hinf
  injection hinf2 with h2 h3
  injection h3 with h3 h4
  refine HR.effect hgd (by simp [HR.cls, ho]) HI fun _ hK => wp_append_own w s x t ho w1.heap.size e inf z by_ ht hinf1 h2 h3 h4 hzs v xs hs (hO.at i hi) y news hx hy h1 (by unfold maxLen; omega) ?_ hN.size (fun v' w' k1 k2 k3 => ?_)
  · have := Nat.mul_le_mul hb hby
    omega
  · obtain ⟨g1, g2⟩ := h v' w' (hO.put i hi k1 k2 k3) (nixOwn hN (fun g hg => ((hO.at i hi).lt g hg).1) k2)
    exact hK _ _ g1 g2
end
end Go.Proofs.YtaageikelkcphaaGreatDoor
/- spec.PutDeltas at 32 bits: what its loops keep; a mini block. -/
namespace Go.Proofs.YtaageikelkcphaaGreatDoor
open Go Go.RowKit Go.Proofs.YtaageikelkcphaaGreatDoor.PFnPrefixesRead Go.Proofs.YtaageikelkcphaaGreatDoorW.PrintWords Go.Proofs.YtaageikelkcphaaGreatDoorW.PrintMore
/-- The differences of a block. -/
def blkD (x0 : Int) (ys : List Int) (k S : Nat) : List Int := ((diffsG RowKit.wrap32 x0 ys).drop k).take S
theorem blkD_len (x0 : Int) (ys : List Int) (k S : Nat) : (blkD x0 ys k S).length = min S (ys.length - k) := by
  unfold blkD
  rw [List.length_take, List.length_drop, diffsG_len]
theorem blkD_get (x0 : Int) (ys : List Int) (k S i : Nat) (h : i < S) (h2 : k + i < ys.length) : (blkD x0 ys k S)[i]? = some (RowKit.wrap32 ((x0 :: ys).getD (k + i + 1) 0 - (x0 :: ys).getD (k + i) 0)) := by
  unfold blkD
  rw [List.getElem?_take_of_lt h, List.getElem?_drop, diffsG_get _ _ _ _ h2]
theorem Own1.lower {w : World} {base base' : Nat} {e : TypeId} {v : Value} {xs : List Value} (h : Own1 w base e v xs) (hb : base' ≤ base) : Own1 w base' e v xs :=
  ⟨h.1, h.2.imp id (fun ⟨g, cap, cur, hv, hg, rest⟩ => ⟨g, cap, cur, hv, by omega, rest⟩)⟩
/-- What the loop over the blocks has written. -/
structure OutQ (w1 wx : World) (S M : Nat) (l : List Int) (q : Nat) (v : Value) (bs : List Nat) : Prop where
  own : Owns wx w1.heap.size [(5, v, u8s bs)]
  part : Part S M l (S * q) bs
  lt : ∀ x ∈ bs, x < 256
  len : bs.length ≤ 100 + 10000 * q
  nix : Chg Nix w1 wx
  q : q ≤ 100
/-- Behind i differences. -/
structure DelI (w1 wx : World) (D : List Int) (v7 : Value) (bs : List Nat) (i : Nat) (least : Int) (v10 : Value) : Prop where
  own : Owns wx w1.heap.size [(2, v10, ksOf .i64 (D.take i)), (5, v7, u8s bs)]
  nix : Chg Nix w1 wx
  le : ∀ d ∈ D.take i, least ≤ d
  b1 : -8192 ≤ least
  b2 : least ≤ 8192
theorem own_form {k : IntKind} {w : World} {base : Nat} {e : TypeId} {v : Value} {xs : List Int} (h : Own1 w base e v (ksOf k xs)) (hne : xs ≠ []) : ∃ g cap, v = .slice (some ⟨g, 0, none⟩) xs.length cap ∧ xs.length ≤ cap ∧ cap ≤ 9223372036854775807 ∧ ∀ (j : Nat) x, xs[j]? = some x → w.cell? ⟨g, j, none⟩ = some (.int k x) := by
  have h1 := h
  rcases h.2 with ⟨rfl, hn⟩ | ⟨g, cap, cur, rfl, hbg, hg, hnc, hcm, rest⟩
  · rw [ksOf_len] at hn
    exact absurd (List.eq_nil_of_length_eq_zero hn) hne
  · rw [ksOf_len] at hnc ⊢
    refine ⟨g, cap, rfl, hnc, by unfold maxLen at hcm; omega, fun j x hx => ?_⟩
    have := World.ownsRow.cells h1 (g := g) (by rw [ksOf_len]; rfl) j _ (show (ksOf k xs)[j]? = some (.int k x) by unfold ksOf; rw [List.getElem?_map, hx]; rfl)
    rwa [addr_add, Nat.zero_add] at this
/-- Behind j mini blocks. -/
structure MinI (w1 wx : World) (D : List Int) (least : Int) (n : Nat) (v10 v8 : Value) (bs : List Nat) (j : Nat) (v15 v16 : Value) (ws bd : List Nat) : Prop where
  own : Owns wx w1.heap.size [(5, v15, u8s ws), (5, v16, u8s bd), (2, v10, ksOf .i64 D), (5, v8, u8s bs)]
  nix : Chg Nix w1 wx
  wl : ws.length = j
  mi : MinisOf n 32 least (D.take (j * n)) ws bd
  l1 : ∀ x ∈ ws, x < 256
  l2 : ∀ x ∈ bd, x < 256
  bl : bd.length ≤ 4 * (j * n)
theorem vlq_lt {u : Nat} (hu : u < 2 ^ 64) : ∀ x ∈ vlq u, x < 256 := vlq_byte 9 u (Nat.lt_of_lt_of_le hu (by decide))
theorem vlq_le {u : Nat} (hu : u < 2 ^ 64) : (vlq u).length ≤ 10 := (vlq_len 9 u (Nat.lt_of_lt_of_le hu (by decide))).2
theorem own_cell {k : IntKind} {w : World} {base : Nat} {e : TypeId} {g n c : Nat} {xs : List Int} (h : Own1 w base e (.slice (some ⟨g, 0, none⟩) n c) (ksOf k xs)) {j : Nat} {x : Int} (hx : xs[j]? = some x) : w.cell? ⟨g, j, none⟩ = some (.int k x) := by
  have := World.ownsRow.cells h (g := g) rfl j _ (show (ksOf k xs)[j]? = some (.int k x) by unfold ksOf; rw [List.getElem?_map, hx]; rfl)
  rwa [addr_add, Nat.zero_add] at this
theorem and_one_bit (V s : Nat) (hV : V < 2 ^ 64) : (bits .and .u64 ((V : Int) / 2 ^ s) 1 == 1) = V.testBit s := by
  rw [shr_is, show (1 : Int) = ((1 : Nat) : Int) from rfl, u64_and_nat _ _ (Nat.lt_of_le_of_lt (Nat.div_le_self _ _) hV) (by decide), Nat.and_one_is_mod, Nat.testBit_eq_decide_div_mod_eq]
  have hm : V / 2 ^ s % 2 < 2 := Nat.mod_lt _ (by decide)
  by_cases h : V / 2 ^ s % 2 = 1
  · rw [h]; rfl
  · have h0 : V / 2 ^ s % 2 = 0 := by omega
    rw [h0]; rfl
/-- Behind so many bits. -/
structure BitI (w1 wx : World) (L : List (TypeId × Value × List Value)) (part : List Int) (least : Int) (W q : Nat) (v23 : Value) (bl : List Bool) : Prop where
  own : Owns wx w1.heap.size ((4, v23, blsOf bl) :: L)
  nix : Chg Nix w1 wx
  len : bl.length = q
  bit : ∀ p, p < q → bl.getD p false = (valAt part least (p / W)).testBit (p % W)
/-- Parts of a code. -/
def cL : Code → Code
  | .seq a _ => a
  | c => c
def cR : Code → Code
  | .seq _ b => b
  | c => c
def cB : Code → Code
  | .block _ c => c
  | .loop c => c
  | c => c
/-- The code of a mini block. -/
noncomputable def segC : Code := cR (cB (cL (cR (cB (cB (cR (cL (cR (cR (cR (cR (cR (cR (cR (cB (cL (cR (cB (cB (cR (cL (cR (cR (cR (cR (cR (Tryz.f20.body.getD .skip)))))))))))))))))))))))))))
set_option maxRecDepth 100000 in
set_option maxHeartbeats 20000000 in
theorem mini_seg {w1 w0 : World} {bb gd B cap n KK j More S M : Nat} {least : Int} {D : List Int} {v8 v15 v16 : Value} {bs ws bd : List Nat} {Q : Exit → Act → World → Prop} {c0 c2 c3 c4 c6 c7 c8 c9 c12 c13 c18 c19 c20 c21 c22 c23 c24 c25 c26 c27 c28 c29 c30 c31 c32 c33 c34 c35 c36 c37 c38 c39 c40 c41 c42 c43 c44 c45 c46 c47 c48 c49 c50 c51 c52 c53 c54 c55 c56 c57 c58 c59 c60 c61 c62 c63 c64 c65 c66 c67 c68 c69 c70 c71 c72 c73 c74 c75 c76 c77 c78 c79 c80 c81 c82 c83 c84 c85 c86 c87 c88 c89 c90 c91 c92 c93 c94 c95 c96 c97 c98 c99 c100 c101 c102 c103 c104 c105 c106 c107 c108 c109 c110 c111 c112 c113 c114 c115 c116 c117 c118 c119 c120 c121 c122 c123 c124 c125 c126 c127 c128 c129 c130 c131 c132 c133 c134 c135 c136 c137 c138 c139 c140 c141 c142 c143 c144 c145 c146 c147 c148 c149 c150 c151 c152 c153 c154 c155 c156 c157 c158 c159 c160 c161 c162 c163 c164 c165 c166 c167 c168 c169 c170 c171 c172 c173 c174 c175 c176 c177 c178 c179 c180 c181 c182 c183 c184 c185 c186 c187 c188 c189 c190 c191 c192 c193 c194 c195 c196 c197 c198 c199 c200 c201 c202 c203 c204 c205 c206 c207 c208 c209 c210 c211 c212 c213 c214 c215 : Value}
    (hM : MinI w1 w0 D least n (.slice (some ⟨gd, 0, none⟩) B cap) v8 bs j v15 v16 ws bd) (hk2 : w1.cell? ⟨bb, 2, none⟩ = some (.int .i64 More)) (hMore : More ≤ 8) (hB : D.length = B) (hcap : B ≤ cap) (hcapm : cap ≤ 9223372036854775807) (hn : 32 ≤ n) (hn2 : n ≤ 1024) (hn3 : n % 32 = 0)
    (hKK : KK = j * n) (hKB : KK < B) (hKS : KK + n ≤ 1024) (hle : ∀ d ∈ D, least ≤ d ∧ d - least ≤ 12288 ∧ -4096 ≤ d ∧ d ≤ 4096) (hb1 : -8192 ≤ least) (hb2 : least ≤ 8192)
    (hQ : ∀ (v15' v16' u18 u19 u21 u22 u23 u24 u25 u26 u137 u138 u139 u140 u141 u142 u143 u144 u145 u146 u147 u148 u149 u150 u151 u152 u153 u154 u155 u156 u157 u158 u159 u160 u161 u162 u163 u164 u165 u166 u167 u168 u169 u170 u171 u172 u173 u174 u175 u176 u177 u178 u179 u180 u181 u182 u183 u184 u185 u186 u187 u188 u189 u190 u191 u192 u193 u194 u195 u196 u197 u198 u199 u200 u201 u202 u203 u204 u205 u206 u207 u208 u209 : Value) (w' : World) (ws' bd' : List Nat), MinI w1 w' D least n (.slice (some ⟨gd, 0, none⟩) B cap) v8 bs (j + 1) v15' v16' ws' bd' → Q .normal ⟨#[c0, .int .i64 32, c2, c3, c4, .pointer (some ⟨bb, 0, none⟩), c6, c7, c8, c9, .slice (some ⟨gd, 0, none⟩) B cap, .int .i64 least, c12, c13, .int .i64 n, v15', v16', .int .i64 KK, u18, u19, c20, u21, u22, u23, u24, u25, u26, c27, c28, c29, c30, c31, c32, c33, c34, c35, c36, c37, c38, c39, c40, c41, c42, c43, c44, c45, c46, c47, c48, c49, c50, c51, c52, c53, c54, c55, c56, c57, c58, c59, c60, c61, c62, c63, c64, c65, c66, c67, c68, c69, c70, c71, c72, c73, c74, c75, c76, c77, c78, c79, c80, c81, c82, c83, c84, c85, c86, c87, c88, c89, c90, c91, c92, c93, c94, c95, c96, c97, c98, c99, c100, c101, c102, c103, c104, c105, c106, c107, c108, c109, c110, c111, c112, c113, c114, c115, c116, c117, c118, c119, c120, c121, c122, c123, c124, c125, c126, c127, c128, c129, c130, c131, c132, c133, c134, c135, c136, u137, u138, u139, u140, u141, u142, u143, u144, u145, u146, u147, u148, u149, u150, u151, u152, u153, u154, u155, u156, u157, u158, u159, u160, u161, u162, u163, u164, u165, u166, u167, u168, u169, u170, u171, u172, u173, u174, u175, u176, u177, u178, u179, u180, u181, u182, u183, u184, u185, u186, u187, u188, u189, u190, u191, u192, u193, u194, u195, u196, u197, u198, u199, u200, u201, u202, u203, u204, u205, u206, u207, u208, u209, c210, c211, c212, c213, c214, c215], []⟩ w') :
    Code.wp Tryz.prog segC Q ⟨#[c0, .int .i64 32, c2, c3, c4, .pointer (some ⟨bb, 0, none⟩), c6, c7, c8, c9, .slice (some ⟨gd, 0, none⟩) B cap, .int .i64 least, c12, c13, .int .i64 n, v15, v16, .int .i64 KK, c18, c19, c20, c21, c22, c23, c24, c25, c26, c27, c28, c29, c30, c31, c32, c33, c34, c35, c36, c37, c38, c39, c40, c41, c42, c43, c44, c45, c46, c47, c48, c49, c50, c51, c52, c53, c54, c55, c56, c57, c58, c59, c60, c61, c62, c63, c64, c65, c66, c67, c68, c69, c70, c71, c72, c73, c74, c75, c76, c77, c78, c79, c80, c81, c82, c83, c84, c85, c86, c87, c88, c89, c90, c91, c92, c93, c94, c95, c96, c97, c98, c99, c100, c101, c102, c103, c104, c105, c106, c107, c108, c109, c110, c111, c112, c113, c114, c115, c116, c117, c118, c119, c120, c121, c122, c123, c124, c125, c126, c127, c128, c129, c130, c131, c132, c133, c134, c135, c136, c137, c138, c139, c140, c141, c142, c143, c144, c145, c146, c147, c148, c149, c150, c151, c152, c153, c154, c155, c156, c157, c158, c159, c160, c161, c162, c163, c164, c165, c166, c167, c168, c169, c170, c171, c172, c173, c174, c175, c176, c177, c178, c179, c180, c181, c182, c183, c184, c185, c186, c187, c188, c189, c190, c191, c192, c193, c194, c195, c196, c197, c198, c199, c200, c201, c202, c203, c204, c205, c206, c207, c208, c209, c210, c211, c212, c213, c214, c215], []⟩ w0 := by
  have H2 := Lib.hid (fun w (h : Chg Nix w0 w) => (hM.nix.trans h).keep hk2 (fun e => e))
  have HM := Lib.hid hM
  have HKK := Lib.hid hKK
  have Hle := Lib.hid hle
  have HQ := Lib.hid hQ
  have HBl := Lib.hid hB
  clear hM hKK hle hQ hk2 hB
  conv => arg 2; whnf
  obtain ⟨P, hP⟩ : ∃ P, P = min n (B - KK) := ⟨_, rfl⟩
  obtain ⟨E2, hE2⟩ : ∃ E2, E2 = KK + P := ⟨_, rfl⟩
  have hP1 : 1 ≤ P := by omega
  have hPn : P ≤ n := by omega
  have hPi : KK + P ≤ B := by omega
  have hmin2 : (if (KK : Int) + n < B then (KK : Int) + n else (B : Int)) = (E2 : Int) := by split <;> omega
  have e1 : (0 : Int) ≤ KK := by omega
  have e2 : (KK : Int).toNat = KK := by omega
  have e3 : ¬ cap = KK := by omega
  have e4 : (0 : Int) ≤ E2 := by omega
  have e5 : (E2 : Int).toNat = E2 := by omega
  have e6 : E2 ≤ cap := by omega
  have e7 : (E2 : Int) ≤ cap := by omega
  have e8 : KK ≤ E2 := by omega
  have e9 : E2 - KK = P := by omega
  have hpart : ∀ t, t < P → ∃ x, D[KK + t]? = some x := fun t ht => ⟨_, List.getElem?_eq_getElem (by rw [HBl.out]; omega)⟩
  obtain ⟨part, hprt⟩ : ∃ part, part = (D.drop KK).take n := ⟨_, rfl⟩
  have hpl : part.length = P := by rw [hprt, List.length_take, List.length_drop, HBl.out, hP]
  have hpg : ∀ t, t < P → part[t]? = D[KK + t]? := fun t ht => by rw [hprt, List.getElem?_take_of_lt (by omega), List.getElem?_drop]
  have hpm : ∀ d ∈ part, least ≤ d ∧ d - least ≤ 12288 ∧ -4096 ≤ d ∧ d ≤ 4096 := fun d hd => Hle.out d (by rw [hprt] at hd; exact List.mem_of_mem_drop (List.mem_of_mem_take hd))
  have Hpart := Lib.hid hpart
  have Hmin2 := Lib.hid hmin2
  have He9 := Lib.hid e9
  have HP := Lib.hid hP
  have Hprt := Lib.hid hprt
  have Hpl := Lib.hid hpl
  have Hpg := Lib.hid hpg
  have Hpm := Lib.hid hpm
  clear hpart hmin2 e9 hP hE2 hprt hpl hpg hpm
  go_upto_region 29 with fail
  rw [Hmin2.out, e5, He9.out]
  clear e1 e2 e3 e4 e5 e6 e7 e8
  go_wp2_with fail
  go_loopw [19, 148] (fun v19 v148 wx => ∃ (t mst : Nat), v148 = .int .i64 t ∧ v19 = .int .i64 mst ∧ t ≤ P ∧ mst ≤ 14 ∧ Chg Nix w0 wx ∧ ∀ d ∈ part.take t, (d - least).toNat < 2 ^ mst) (fun _ v148 _ => P - (intOf v148).toNat)
  case atStart => exact ⟨0, 0, rfl, rfl, Nat.zero_le _, by omega, Chg.refl _ _, fun d hd => by simp at hd⟩
  case round =>
    obtain ⟨t, mst, rfl, rfl, htP, hms, hcx, hmx⟩ := hrel
    by_cases hlt : t < P
    · obtain ⟨x, hx⟩ := Hpart.out t hlt
      have hxp : part[t]? = some x := (Hpg.out t hlt).trans hx
      have hxm := Hpm.out x (List.mem_of_getElem? hxp)
      have hcx1 := own_cell ((HM.out.own.nix hcx).at 2 rfl) hx
      obtain ⟨V, hV⟩ : ∃ V, V = (x - least).toNat := ⟨_, rfl⟩
      have p14 : (2 : Nat) ^ 14 = 16384 := by decide
      have hV14 : V < 2 ^ 14 := by omega
      have hxV : x - least = (V : Int) := by omega
      have hu64 : IntKind.u64.wrap (V : Int) = V := wrap64 _ (by omega) (by show (V : Int) < 18446744073709551616; omega)
      have hand : bits .and .u64 (V : Int) 4294967295 = V := by
        have := u64_and_nat V (2 ^ 32 - 1) (Nat.lt_trans hV14 (by decide)) (by decide)
        rw [Nat.and_two_pow_sub_one_of_lt_two_pow (Nat.lt_trans hV14 (by decide))] at this
        exact this
      have g1 : (t : Int) < P := by omega
      have g2 : (0 : Int) ≤ t := by omega
      have g3 : (t : Int).toNat = t := by omega
      have hx1 := hxm.2.2.1
      have hx2 := hxm.2.2.2
      have HxV := Lib.hid hxV
      have Hand := Lib.hid hand
      have HV := Lib.hid hV
      have HV14 := Lib.hid hV14
      have Hmx := Lib.hid hmx
      have Hxp := Lib.hid hxp
      have Hcx := Lib.hid hcx
      have Hu64 := Lib.hid hu64
      clear hxV hand hV hV14 hmx hxp hcx hu64 hx hxm p14
      go_wp2_with fail
      refine (mask_ok _).mono ?_
      rintro e wA ⟨rfl, hcA⟩
      have HcA := Lib.hid hcA
      clear hcA
      go_wp2_with fail
      rw [HxV.out, Hu64.out, Hand.out]
      refine (bitsFor_ok 14 V HV14.out (by decide) _).mono ?_
      rintro e wB ⟨m, hm14, hVm, rfl, hcB⟩
      have HcB := Lib.hid hcB
      have HVm := Lib.hid hVm
      clear hcB hVm
      have hnext : ∀ q : Nat, mst ≤ q → m ≤ q → ∀ d ∈ part.take (t + 1), (d - least).toNat < 2 ^ q := by
        intro q h1 h2 d hd
        rw [List.take_add_one, Hxp.out] at hd
        rcases List.mem_append.1 hd with hd | hd
        · exact Nat.lt_of_lt_of_le (Hmx.out d hd) (Nat.pow_le_pow_right (by decide) h1)
        · have : d = x := by simpa using hd
          rw [this, ← HV.out]
          exact Nat.lt_of_lt_of_le HVm.out (Nat.pow_le_pow_right (by decide) h2)
      have Hnext := Lib.hid hnext
      clear hnext
      by_cases hmm : mst < m
      · have hmm1 : (mst : Int) < m := by omega
        have hmm2 : ¬ (m : Int) < mst := by omega
        have hmm3 : ¬ m < mst := by omega
        go_wp2_with fail
        go_roundw
        case rel => exact ⟨t + 1, m, by go_num, by first | rfl | simp, hlt, hm14, (Hcx.out.trans HcA.out).trans HcB.out, Hnext.out m (by omega) (Nat.le_refl _)⟩
        case measure => simp [intOf]; omega
      · have hmm1 : ¬ (mst : Int) < m := by omega
        go_wp2_with fail
        all_goals (go_roundw)
        case rel => exact ⟨t + 1, mst, by go_num, by first | rfl | simp, hlt, hms, (Hcx.out.trans HcA.out).trans HcB.out, Hnext.out mst (Nat.le_refl _) (by omega)⟩
        case measure => simp [intOf]; omega
    · obtain rfl : t = P := by omega
      have htk : part.take t = part := List.take_of_length_le (by rw [Hpl.out]; omega)
      rw [htk] at hmx
      have Hmx := Lib.hid hmx
      have Hcx := Lib.hid hcx
      have hk2' := H2.out _ hcx
      clear hmx hcx htk
      have hmx2 := Hmx.out
      obtain ⟨W, hW⟩ : ∃ W, W = mst + More := ⟨_, rfl⟩
      have hW22 : W ≤ 22 := by omega
      have hWI : (mst : Int) + More = W := by omega
      have hmW : ∀ d ∈ part, (d - least).toNat < 2 ^ W := fun d hd => Nat.lt_of_lt_of_le (hmx2 d hd) (Nat.pow_le_pow_right (by decide) (by omega))
      have HWI := Lib.hid hWI
      have HmW := Lib.hid hmW
      clear hWI hmW hmx2 hW
      have hjn : j * n ≤ 1024 := by rw [← HKK.out]; omega
      have hjj : j ≤ 1024 := Nat.le_trans (Nat.le_mul_of_pos_right j (by omega)) hjn
      have Hjn := Lib.hid hjn
      clear hjn
      go_upto_region 36 with fail
      rw [HWI.out]
      clear hk2'
      go_wp2_with (at_builtin; go_loud (refine (wpList_app info8 rfl (by decide) Tryz.underlying31 rfl (.tmp 169) (.tmp 172) rfl ((HM.out.own.nix Hcx.out).nix (Chg.new _ _)) ((HM.out.nix.trans Hcx.out).alloc _) 0 _ _ rfl rfl _ [.int .u8 (W : Int)] rfl (one_reads _ _ _) (by intro u hu; simp at hu; subst hu; rfl) (by rw [u8s_len, HM.out.wl]; simp; omega) ?_)))
      intro vN wN hON hNN
      have hB0 : BitI w1 wN [(5, vN, u8s (ws ++ [W])), (5, v16, u8s bd), (2, .slice (some ⟨gd, 0, none⟩) B cap, ksOf .i64 D), (5, v8, u8s bs)] part least W 0 (.slice none 0 0) [] := by
        refine ⟨Owns.consNil ?_ _ hNN.size, hNN, rfl, fun p hp => by simp at hp⟩
        rw [u8s_app]
        exact hON
      have HB0 := Lib.hid hB0
      clear hB0 hON hNN
      go_wp2_with fail
      go_loopw [23, 175] (fun v23 v175 wx => ∃ (i : Nat) (bl : List Bool) (t23 : Value), v175 = .int .i64 i ∧ t23 = v23 ∧ i ≤ n ∧ BitI w1 wx [(5, vN, u8s (ws ++ [W])), (5, v16, u8s bd), (2, .slice (some ⟨gd, 0, none⟩) B cap, ksOf .i64 D), (5, v8, u8s bs)] part least W (i * W) t23 bl) (fun _ v175 _ => n - (intOf v175).toNat)
      case atStart => exact ⟨0, [], _, rfl, rfl, Nat.zero_le _, by rw [Nat.zero_mul]; exact HB0.out⟩
      case round =>
        obtain ⟨i, bl, v23, rfl, rfl, hin, hBI⟩ := hrel
        clear HB0
        have HBI := Lib.hid hBI
        by_cases hlt : i < n
        · obtain ⟨V, hV⟩ : ∃ V, V = valAt part least i := ⟨_, rfl⟩
          have HV := Lib.hid hV
          clear hV hBI
          have g1 : (i : Int) < n := by omega
          go_upto_if 181 with fail
          go_cut [25] from 181 to 191 (fun v25 wx => v25 = .int .u64 V ∧ Chg Nix wr wx)
          case first =>
            by_cases hit : i < t
            · obtain ⟨x, hx⟩ := Hpart.out i hit
              have hxp : part[i]? = some x := (Hpg.out i hit).trans hx
              have hxm := Hpm.out x (List.mem_of_getElem? hxp)
              have hcx1 := own_cell (HBI.out.own.at 3 rfl) hx
              have hVx : V = (x - least).toNat := by rw [HV.out]; unfold valAt; rw [hxp]; rfl
              have p14 : (2 : Nat) ^ 14 = 16384 := by decide
              have hV14 : V < 2 ^ 14 := by omega
              have hs : IntKind.i64.wrap (x - least) = (V : Int) := by rw [IntWalk.i64_in _ (by omega)]; omega
              have hu64 : IntKind.u64.wrap (V : Int) = V := wrap64 _ (by omega) (by show (V : Int) < 18446744073709551616; omega)
              have hand : bits .and .u64 (V : Int) 4294967295 = V := by
                have := u64_and_nat V (2 ^ 32 - 1) (Nat.lt_trans hV14 (by decide)) (by decide)
                rw [Nat.and_two_pow_sub_one_of_lt_two_pow (Nat.lt_trans hV14 (by decide))] at this
                exact this
              have f1 : (i : Int) < t := by omega
              have f2 : (0 : Int) ≤ i := by omega
              have f3 : (i : Int).toNat = i := by omega
              have HI : HR.InvL [(⟨gd, KK + i, none⟩, .int .i64 x)] wr.drew := .cons hcx1 (.nil _)
              clear hx hxp hxm hVx p14 hV14
              go_upto_region 43 with fail
              refine HR.region (HR.InvL [(⟨gd, KK + i, none⟩, .int .i64 x)]) (by kernel_rfl) (by kernel_rfl) ?_
              repeat (first | (refine HR.pure rfl rfl (fun K hK => ?_); go_simp; refine hK _ ?_; clear hK K) | (refine HR.loadI HI 0 rfl rfl rfl ?_ ?_; (focus (intro w' hc; go_simp; done)); go_simp) | (refine HR.loadI HI 1 rfl rfl rfl ?_ ?_; (focus (intro w' hc; go_simp; done)); go_simp) | (refine HR.loadI HI 2 rfl rfl rfl ?_ ?_; (focus (intro w' hc; go_simp; done)); go_simp) | (refine HR.loadI HI 3 rfl rfl rfl ?_ ?_; (focus (intro w' hc; go_simp; done)); go_simp))
              (refine HR.effect rfl rfl HI (fun K hK => ?_); go_simp)
              refine (mask_ok _).mono ?_
              rintro e wA ⟨rfl, hcA⟩
              dsimp only
              refine HR.back hK ?_ (fun HI2 => ?_)
              · exact .cons (hcA.keep (HI.get 0 rfl) (fun e => e)) (.nil _)
              clear hK K HI
              have HI := HI2
              repeat (first | (refine HR.pure rfl rfl (fun K hK => ?_); go_simp; refine hK _ ?_; clear hK K) | (refine HR.loadI HI 0 rfl rfl rfl ?_ ?_; (focus (intro w' hc; go_simp; done)); go_simp) | (refine HR.loadI HI 1 rfl rfl rfl ?_ ?_; (focus (intro w' hc; go_simp; done)); go_simp) | (refine HR.loadI HI 2 rfl rfl rfl ?_ ?_; (focus (intro w' hc; go_simp; done)); go_simp) | (refine HR.loadI HI 3 rfl rfl rfl ?_ ?_; (focus (intro w' hc; go_simp; done)); go_simp))
              refine HR.nil ?_
              go_wp2_with fail
              go_meet
              exact ⟨rfl, hcA.undrew⟩
            · have hV0 : V = 0 := by
                rw [HV.out]
                unfold valAt
                rw [List.getElem?_eq_none (by rw [Hpl.out]; omega)]
                rfl
              have f1 : ¬ (i : Int) < t := by omega
              have HV0 := Lib.hid hV0
              clear hV0
              go_wp2_with fail
              go_meet
              exact ⟨by rw [HV0.out]; rfl, Chg.refl _ _⟩
          case rest =>
            obtain ⟨rfl, hcV⟩ := hcut
            have hV22 : V < 2 ^ 22 := Nat.lt_of_lt_of_le (by rw [HV.out]; exact valAt_lt HmW.out i) (Nat.pow_le_pow_right (by decide) hW22)
            have HV22 := Lib.hid hV22
            have hiW : i * W ≤ 22528 := Nat.le_trans (Nat.mul_le_mul (show i ≤ 1024 by omega) hW22) (by decide)
            have hB1 : BitI w1 wc [(5, vN, u8s (ws ++ [W])), (5, v16, u8s bd), (2, .slice (some ⟨gd, 0, none⟩) B cap, ksOf .i64 D), (5, v8, u8s bs)] part least W (i * W + 0) v23 bl :=
              ⟨HBI.out.own.nix hcV, HBI.out.nix.trans hcV, HBI.out.len, HBI.out.bit⟩
            have HB1 := Lib.hid hB1
            clear hcV hV22 hB1
            go_wp2_with fail
            go_loopw [23, 193] (fun v23 v193 wx => ∃ (s : Nat) (bl2 : List Bool) (t23 : Value), v193 = .int .i64 s ∧ t23 = v23 ∧ s ≤ W ∧ BitI w1 wx [(5, vN, u8s (ws ++ [W])), (5, v16, u8s bd), (2, .slice (some ⟨gd, 0, none⟩) B cap, ksOf .i64 D), (5, v8, u8s bs)] part least W (i * W + s) t23 bl2) (fun _ v193 _ => W - (intOf v193).toNat)
            case atStart => exact ⟨0, bl, _, rfl, rfl, Nat.zero_le _, HB1.out⟩
            case round =>
              obtain ⟨s, bl2, v23, rfl, rfl, hsW, hB2⟩ := hrel
              clear HB1
              have HB2 := Lib.hid hB2
              clear hB2
              by_cases hls : s < W
              · have f1 : (s : Int) < W := by omega
                have hs64 : s < 64 := by omega
                have f2 : (0 : Int) ≤ s := by omega
                have f3 : (s : Int).toNat = s := by omega
                have hbl2 : bl2.length ≤ 22600 := by rw [HB2.out.len]; omega
                have hbit : (bits .and .u64 ((V : Int) / 2 ^ s) 1 == 1) = V.testBit s := and_one_bit V s (Nat.lt_of_lt_of_le HV22.out (by decide))
                have Hbit := Lib.hid hbit
                clear hbit
                go_wp2_with (at_builtin; go_loud (refine (wpList_app infoB rfl (by decide) Tryz.underlying88 rfl (.tmp 196) (.tmp 202) rfl (HB2.out.own.nix (Chg.new _ _)) (HB2.out.nix.alloc _) 0 _ _ rfl rfl _ [.bool (bits .and .u64 ((V : Int) / 2 ^ s) 1 == 1)] rfl (one_reads _ _ _) (by intro u hu; simp at hu; subst hu; rfl) (by rw [blsOf_len]; simp; omega) ?_)))
                intro vB wB hOB hNB
                have hB3 : BitI w1 wB [(5, vN, u8s (ws ++ [W])), (5, v16, u8s bd), (2, .slice (some ⟨gd, 0, none⟩) B cap, ksOf .i64 D), (5, v8, u8s bs)] part least W (i * W + (s + 1)) vB (bl2 ++ [V.testBit s]) := by
                  refine ⟨?_, hNB, by rw [List.length_append, HB2.out.len]; rfl, fun p hp => ?_⟩
                  · rw [Hbit.out] at hOB
                    rw [blsOf_app]
                    exact hOB
                  · have hl2 := HB2.out.len
                    by_cases hpq : p < i * W + s
                    · rw [List.getD_eq_getElem?_getD, List.getElem?_append_left (by omega), ← List.getD_eq_getElem?_getD]
                      exact HB2.out.bit p hpq
                    · obtain rfl : p = i * W + s := by omega
                      rw [List.getD_eq_getElem?_getD, List.getElem?_append_right (by omega), hl2, Nat.sub_self]
                      have d1 : (i * W + s) / W = i := by rw [Nat.mul_comm, Nat.mul_add_div (by omega), Nat.div_eq_of_lt hls, Nat.add_zero]
                      have d2 : (i * W + s) % W = s := by rw [Nat.mul_comm, Nat.mul_add_mod, Nat.mod_eq_of_lt hls]
                      rw [d1, d2, ← HV.out]
                      rfl
                have HB3 := Lib.hid hB3
                clear hB3 hOB hNB
                go_wp2_with fail
                go_roundw
                case rel => exact ⟨s + 1, _, _, by go_num, rfl, hls, HB3.out⟩
                case measure => simp [intOf]; omega
              · obtain rfl : s = W := by omega
                have f1 : ¬ (s : Int) < s := by omega
                have hend := HB2.out
                rw [show i * s + s = (i + 1) * s by rw [Nat.succ_mul]] at hend
                have Hend := Lib.hid hend
                clear hend
                go_wp2_with fail
                go_roundw
                case rel => exact ⟨i + 1, _, _, by go_num, rfl, hlt, Hend.out⟩
                case measure => simp [intOf]; omega
        · obtain rfl : i = n := by omega
          have f1 : ¬ (i : Int) < i := by omega
          obtain ⟨pq, cq, rfl, hcq, hCq⟩ := own1_C (hBI.own.at 0 rfl) (by rw [hBI.len]; have := Nat.mul_le_mul hn2 hW22; omega)
          have hblen := hBI.len
          have hiW : i * W ≤ 22528 := Nat.le_trans (Nat.mul_le_mul hn2 hW22) (by decide)
          have hi8 : i * W % 8 = 0 := by rw [Nat.mul_mod, show i % 8 = 0 by omega, Nat.zero_mul, Nat.zero_mod]
          have Hblen := Lib.hid hblen
          have HiW := Lib.hid hiW
          have Hi8 := Lib.hid hi8
          have Hpk := Lib.hid (packed_ok bl ((bl.length + 7) / 8) rfl (by rw [hblen]; omega) pq cq wr hcq hCq)
          clear hblen hiW hi8 hCq hBI
          go_wp2_with fail
          refine Hpk.out.mono ?_
          rintro e wP ⟨vP, pk, rfl, hPB, hoP, hcP⟩
          have hpkl : pk.length = i * W / 8 := by rw [hPB.len, Hblen.out]; have := Hi8.out; omega
          have hbdl := HM.out.bl
          have hpk2 : pk.length ≤ 4096 := by rw [hpkl]; have := HiW.out; omega
          have hjn2 := Hjn.out
          have HPB := Lib.hid hPB
          have HoP := Lib.hid hoP
          have HcP := Lib.hid hcP
          have Hpkl := Lib.hid hpkl
          clear hPB hoP hcP hpkl
          go_wp2_with (at_builtin; go_loud (refine (wpList_app info8 rfl (by decide) Tryz.underlying31 rfl (.tmp 206) (.tmp 208) rfl (HBI.out.own.nix HcP.out) (HBI.out.nix.trans HcP.out) 2 _ _ rfl rfl _ (u8s pk) rfl HoP.out.reads (u8s_one _) (by rw [u8s_len, u8s_len]; omega) ?_)))
          intro vE wE hOE hNE
          have hfin : MinI w1 wE D least i (.slice (some ⟨gd, 0, none⟩) B cap) v8 bs (j + 1) vN vE (ws ++ [W]) (bd ++ pk) := by
            have hkk := HKK.out
            refine ⟨?_, hNE, by rw [List.length_append, HM.out.wl]; rfl, minis_next HM.out.mi HM.out.wl (by rw [HBl.out, ← hkk]; exact hKB) (by omega) ?_, fun x hx => ?_, fun x hx => ?_, ?_⟩
            · rw [u8s_app bd pk]
              exact Owns.tail hOE
            · rw [← hkk, ← Hprt.out]
              refine MiniOf.ofBits Hpkl.out (by omega) (by rw [Hpl.out]; omega) (by omega) (fun d hd => ?_) (fun p hp => ?_)
              · obtain ⟨d1, d2, d3, d4⟩ := Hpm.out d hd
                exact ⟨d1, HmW.out d hd, by omega, by omega⟩
              · have hb := Hblen.out
                rw [HPB.out.bit p (by omega), decide_eq_true (by omega), Bool.true_and]
                exact HBI.out.bit p hp
            · rcases List.mem_append.1 hx with hx | hx
              · exact HM.out.l1 x hx
              · rw [List.mem_singleton.1 hx]; omega
            · rcases List.mem_append.1 hx with hx | hx
              · exact HM.out.l2 x hx
              · exact HPB.out.lt x hx
            · rw [List.length_append, Hpkl.out]
              have h3 : (j + 1) * i = j * i + i := Nat.succ_mul j i
              rw [h3]
              have h1 := HM.out.bl
              have h2 : i * W ≤ i * 22 := Nat.mul_le_mul_left _ hW22
              omega
          have Hfin := Lib.hid hfin
          clear hfin hOE hNE
          go_wp2_with fail
          exact HQ.out _ _ _ _ _ _ _ _ _ _ _ _ _ _ _ _ _ _ _ _ _ _ _ _ _ _ _ _ _ _ _ _ _ _ _ _ _ _ _ _ _ _ _ _ _ _ _ _ _ _ _ _ _ _ _ _ _ _ _ _ _ _ _ _ _ _ _ _ _ _ _ _ _ _ _ _ _ _ _ _ _ _ _ _ _ _ Hfin.out
end Go.Proofs.YtaageikelkcphaaGreatDoor
/- spec.PutDeltas: the differences of a block. -/
namespace Go.Proofs.YtaageikelkcphaaGreatDoor
open Go Go.RowKit Go.Proofs.YtaageikelkcphaaGreatDoor.PFnPrefixesRead Go.Proofs.YtaageikelkcphaaGreatDoorW.PrintWords Go.Proofs.YtaageikelkcphaaGreatDoorW.PrintMore
noncomputable def delC : Code := cL (cR (cR (cR (cB (cL (cR (cB (cB (cR (cL (cR (cR (cR (cR (cR (Tryz.f20.body.getD .skip))))))))))))))))
set_option maxRecDepth 100000 in
set_option maxHeartbeats 20000000 in
theorem del_seg {w1 w0 : World} {g o L c AT B k S c9 : Nat} {p9 : Option Addr} {x0 : Int} {ys : List Int} {bs : List Nat} {v7 : Value} {Q : Exit → Act → World → Prop} {c2 c3 c4 c5 c6 c12 c13 c14 c15 c16 c17 c18 c19 c20 c21 c22 c23 c24 c25 c26 c27 c28 c29 c30 c31 c32 c33 c34 c35 c36 c37 c38 c39 c40 c41 c42 c43 c44 c45 c46 c47 c48 c49 c50 c51 c52 c53 c54 c55 c56 c57 c58 c59 c60 c61 c62 c63 c64 c65 c66 c67 c68 c69 c70 c71 c72 c73 c74 c75 c76 c77 c78 c79 c80 c81 c82 c83 c84 c85 c86 c87 c88 c89 c90 c91 c92 c93 c94 c95 c96 c97 c98 c99 c100 c101 c102 c103 c104 c105 c106 c107 c108 c109 c110 c111 c112 c113 c114 c115 c116 c117 c118 c119 c120 c121 c122 c123 c124 c125 c126 c127 c128 c129 c130 c131 c132 c133 c134 c135 c136 c137 c138 c139 c140 c141 c142 c143 c144 c145 c146 c147 c148 c149 c150 c151 c152 c153 c154 c155 c156 c157 c158 c159 c160 c161 c162 c163 c164 c165 c166 c167 c168 c169 c170 c171 c172 c173 c174 c175 c176 c177 c178 c179 c180 c181 c182 c183 c184 c185 c186 c187 c188 c189 c190 c191 c192 c193 c194 c195 c196 c197 c198 c199 c200 c201 c202 c203 c204 c205 c206 c207 c208 c209 c210 c211 c212 c213 c214 c215 : Value}
    (hD : DelI w1 w0 (blkD x0 ys k S) v7 bs 0 0 (.slice none 0 0)) (hAT : AT = 1 + k) (hB : B = min S (ys.length - k)) (hS : S ≤ 1024) (hLy1 : L ≤ ys.length + 1) (hLy2 : ys.length + 1 ≤ L) (hLn : L ≤ 2001) (hr : ∀ x ∈ x0 :: ys, 0 ≤ x ∧ x ≤ 4096)
    (hcel : ∀ (j : Nat) x, (x0 :: ys)[j]? = some x → w1.cell? ⟨g, o + j, none⟩ = some (.int .i64 x))
    (hQ : ∀ (v10' u12 u13 u73 u74 u75 u76 u77 u78 u79 u80 u81 u82 u83 u84 u85 u86 u87 u88 u89 u90 u91 u92 u93 u94 u95 u96 u97 u98 u99 u100 u101 u102 u103 u104 u105 u106 : Value) (least' : Int) (w' : World), DelI w1 w' (blkD x0 ys k S) v7 bs B least' v10' → Q .normal ⟨#[.slice (some ⟨g, o, none⟩) L c, .int .i64 32, c2, c3, c4, c5, c6, v7, .int .i64 AT, .slice p9 B c9, v10', .int .i64 least', u12, u13, c14, c15, c16, c17, c18, c19, c20, c21, c22, c23, c24, c25, c26, c27, c28, c29, c30, c31, c32, c33, c34, c35, c36, c37, c38, c39, c40, c41, c42, c43, c44, c45, c46, c47, c48, c49, c50, c51, c52, c53, c54, c55, c56, c57, c58, c59, c60, c61, c62, c63, c64, c65, c66, c67, c68, c69, c70, c71, c72, u73, u74, u75, u76, u77, u78, u79, u80, u81, u82, u83, u84, u85, u86, u87, u88, u89, u90, u91, u92, u93, u94, u95, u96, u97, u98, u99, u100, u101, u102, u103, u104, u105, u106, c107, c108, c109, c110, c111, c112, c113, c114, c115, c116, c117, c118, c119, c120, c121, c122, c123, c124, c125, c126, c127, c128, c129, c130, c131, c132, c133, c134, c135, c136, c137, c138, c139, c140, c141, c142, c143, c144, c145, c146, c147, c148, c149, c150, c151, c152, c153, c154, c155, c156, c157, c158, c159, c160, c161, c162, c163, c164, c165, c166, c167, c168, c169, c170, c171, c172, c173, c174, c175, c176, c177, c178, c179, c180, c181, c182, c183, c184, c185, c186, c187, c188, c189, c190, c191, c192, c193, c194, c195, c196, c197, c198, c199, c200, c201, c202, c203, c204, c205, c206, c207, c208, c209, c210, c211, c212, c213, c214, c215], []⟩ w') :
    Code.wp Tryz.prog delC Q ⟨#[.slice (some ⟨g, o, none⟩) L c, .int .i64 32, c2, c3, c4, c5, c6, v7, .int .i64 AT, .slice p9 B c9, .slice none 0 0, .int .i64 0, c12, c13, c14, c15, c16, c17, c18, c19, c20, c21, c22, c23, c24, c25, c26, c27, c28, c29, c30, c31, c32, c33, c34, c35, c36, c37, c38, c39, c40, c41, c42, c43, c44, c45, c46, c47, c48, c49, c50, c51, c52, c53, c54, c55, c56, c57, c58, c59, c60, c61, c62, c63, c64, c65, c66, c67, c68, c69, c70, c71, c72, c73, c74, c75, c76, c77, c78, c79, c80, c81, c82, c83, c84, c85, c86, c87, c88, c89, c90, c91, c92, c93, c94, c95, c96, c97, c98, c99, c100, c101, c102, c103, c104, c105, c106, c107, c108, c109, c110, c111, c112, c113, c114, c115, c116, c117, c118, c119, c120, c121, c122, c123, c124, c125, c126, c127, c128, c129, c130, c131, c132, c133, c134, c135, c136, c137, c138, c139, c140, c141, c142, c143, c144, c145, c146, c147, c148, c149, c150, c151, c152, c153, c154, c155, c156, c157, c158, c159, c160, c161, c162, c163, c164, c165, c166, c167, c168, c169, c170, c171, c172, c173, c174, c175, c176, c177, c178, c179, c180, c181, c182, c183, c184, c185, c186, c187, c188, c189, c190, c191, c192, c193, c194, c195, c196, c197, c198, c199, c200, c201, c202, c203, c204, c205, c206, c207, c208, c209, c210, c211, c212, c213, c214, c215], []⟩ w0 := by
  have HD0 := Lib.hid hD
  have HAT := Lib.hid hAT
  have HB := Lib.hid hB
  have Hr := Lib.hid hr
  have Hcel1 := Lib.hid hcel
  have HQ := Lib.hid hQ
  have hdl := blkD_len x0 ys k S
  rw [← HB.out] at hdl
  have Hds := Lib.hid hdl
  clear hD hAT hB hr hcel hQ hdl
  conv => arg 2; whnf
  go_wp2_with fail
  go_loopw [10, 11, 75] (fun v10 v11 v75 wx => ∃ (i : Nat) (least : Int) (t10 : Value), v75 = .int .i64 i ∧ v11 = .int .i64 least ∧ t10 = v10 ∧ i ≤ B ∧ DelI w1 wx (blkD x0 ys k S) v7 bs i least t10) (fun _ _ v75 _ => B - (intOf v75).toNat)
  case atStart => exact ⟨0, 0, _, rfl, rfl, rfl, Nat.zero_le _, HD0.out⟩
  case round =>
    obtain ⟨i, least, v10, rfl, rfl, rfl, hiB, hD⟩ := hrel
    clear HD0
    by_cases hib : i < B
    · have hBS : B ≤ S := by have := HB.out; omega
      have hBk : k + B ≤ ys.length := by have := HB.out; omega
      have hAT' := HAT.out
      obtain ⟨A1, hA1⟩ : ∃ A1, A1 = AT + i := ⟨_, rfl⟩
      obtain ⟨A0, hA0⟩ : ∃ A0, A0 = k + i := ⟨_, rfl⟩
      obtain ⟨xa, hxa⟩ : ∃ xa, (x0 :: ys)[A1]? = some xa := ⟨_, List.getElem?_eq_getElem (by simp; omega)⟩
      obtain ⟨xb, hxb⟩ : ∃ xb, (x0 :: ys)[A0]? = some xb := ⟨_, List.getElem?_eq_getElem (by simp; omega)⟩
      have hra := Hr.out xa (List.mem_of_getElem? hxa)
      have hrb := Hr.out xb (List.mem_of_getElem? hxb)
      have cA := hD.nix.keep (Hcel1.out A1 xa hxa) (fun e => e)
      have cB := hD.nix.keep (Hcel1.out A0 xb hxb) (fun e => e)
      obtain ⟨dd, hdd⟩ : ∃ dd, dd = xa - xb := ⟨_, rfl⟩
      have hget : (blkD x0 ys k S)[i]? = some dd := by
        rw [blkD_get x0 ys k S i (by omega) (by omega), ← hA0, List.getD_eq_getElem?_getD, List.getD_eq_getElem?_getD, show A0 + 1 = A1 by omega, hxa, hxb]
        show some (RowKit.wrap32 (xa - xb)) = _
        rw [hdd]
        congr 1
        unfold RowKit.wrap32
        omega
      have hw1 : IntKind.i64.wrap ((AT : Int) + i) = (A1 : Int) := by rw [IntWalk.i64_in _ (by omega)]; omega
      have hw2 : IntKind.i64.wrap ((A1 : Int) - 1) = (A0 : Int) := by rw [IntWalk.i64_in _ (by omega)]; omega
      have hw3 : IntKind.i64.wrap (xa - xb) = dd := by rw [IntWalk.i64_in _ (by omega)]; omega
      have b1 : (0 : Int) ≤ A1 := by omega
      have b2 : (A1 : Int).toNat = A1 := by omega
      have b3 : (A1 : Int) < L := by omega
      have b4 : (0 : Int) ≤ A0 := by omega
      have b5 : (A0 : Int).toNat = A0 := by omega
      have b6 : (A0 : Int) < L := by omega
      have b7 : (i : Int) < B := by omega
      have hd1 : -4096 ≤ dd ∧ dd ≤ 4096 := by omega
      have hdd1 := hd1.1
      have hdd2 := hd1.2
      have HD := Lib.hid hD
      have Hget := Lib.hid hget
      clear hD hget hA1 hA0 hxa hxb hdd hAT' hra hrb hd1
      go_upto_region 15 with fail
      (refine wp_region_txt [] (by kernel_rfl) (by kernel_rfl) ?_; repeat (first | (refine wpTxt_pure rfl rfl (fun K hK => ?_); go_simp; refine hK _ ?_; clear hK K) | (refine wpTxt_still rfl rfl (fun K hK => ?_); go_simp; refine hK _ ?_; clear hK K)))
      (refine wpTxt_effect rfl rfl (fun K hK => ?_); go_simp)
      refine (wrapTo_ok dd (by omega) _).mono ?_
      rintro e wA ⟨rfl, hcA⟩
      dsimp only
      (refine hK _ _ ?_; clear hK K)
      repeat (first | (refine wpTxt_pure rfl rfl (fun K hK => ?_); go_simp; refine hK _ ?_; clear hK K) | (refine wpTxt_still rfl rfl (fun K hK => ?_); go_simp; refine hK _ ?_; clear hK K))
      refine wpTxt_nil ?_
      have HcA := Lib.hid hcA
      have hNA : Chg Nix w1 wA := HD.out.nix.trans hcA.undrew
      have HNA := Lib.hid hNA
      have hOA : Owns wA w1.heap.size [(2, v10, ksOf .i64 ((blkD x0 ys k S).take i)), (5, v7, u8s bs)] := HD.out.own.nix hcA.undrew
      have HOA := Lib.hid hOA
      clear hcA cA cB hNA hOA
      go_wp2_with (at_builtin; go_loud (refine (wpList_app info64 rfl (by decide) Tryz.underlying54 rfl (.tmp 94) (.tmp 96) rfl (HOA.out.nix (Chg.new _ _)) (HNA.out.alloc _) 0 _ (ksOf .i64 ((blkD x0 ys k S).take i)) rfl rfl _ [.int .i64 dd] rfl (one_reads _ _ _) (by intro u hu; simp at hu; subst hu; rfl) (by rw [ksOf_len, List.length_take]; simp; omega) ?_)))
      intro vN wN hON hNN
      have hnext : ∀ ln : Int, ln ≤ dd → -8192 ≤ ln → ln ≤ 8192 → (∀ d ∈ (blkD x0 ys k S).take i, ln ≤ d) → DelI w1 wN (blkD x0 ys k S) v7 bs (i + 1) ln vN := by
        intro ln h1 h2 h3 h4
        have htk : (blkD x0 ys k S).take (i + 1) = (blkD x0 ys k S).take i ++ [dd] := by rw [List.take_add_one, Hget.out]; rfl
        refine ⟨?_, hNN, ?_, h2, h3⟩
        · rw [htk, ksOf_app]; exact hON
        · intro d hd
          rw [htk] at hd
          rcases List.mem_append.1 hd with hd | hd
          · exact h4 d hd
          · rw [List.mem_singleton.1 hd]; exact h1
      have hle := HD.out.le
      have hb1 := HD.out.b1
      have hb2 := HD.out.b2
      have Hnext := Lib.hid hnext
      have Hle := Lib.hid hle
      clear hnext hON hNN hle
      by_cases hi0 : i = 0
      · have hi1 : ((i : Int) == 0) = true := by rw [hi0]; rfl
        have Hi0 := Lib.hid hi0
        clear hi0
        go_wp2_with fail
        go_roundw
        case rel => exact ⟨i + 1, dd, _, by go_num, rfl, rfl, hib, Hnext.out dd (by omega) (by omega) (by omega) (fun d hd => by rw [Hi0.out] at hd; simp at hd)⟩
        case measure => simp [intOf]; omega
      · have hi1 : ((i : Int) == 0) = false := beq_eq_false_iff_ne.2 (by omega)
        clear hi0
        by_cases hdl : dd < least
        · go_wp2_with fail
          go_roundw
          case rel => exact ⟨i + 1, dd, _, by go_num, rfl, rfl, hib, Hnext.out dd (by omega) (by omega) (by omega) (fun d hd => by have := Hle.out d hd; omega)⟩
          case measure => simp [intOf]; omega
        · go_wp2_with fail
          go_roundw
          case rel => exact ⟨i + 1, least, _, by go_num, rfl, rfl, hib, Hnext.out least (by omega) (by omega) (by omega) Hle.out⟩
          case measure => simp [intOf]; omega
    · obtain rfl : i = B := by omega
      have f1 : ¬ (i : Int) < i := by omega
      have HD := Lib.hid hD
      clear hD
      go_wp2_with fail
      exact HQ.out _ _ _ _ _ _ _ _ _ _ _ _ _ _ _ _ _ _ _ _ _ _ _ _ _ _ _ _ _ _ _ _ _ _ _ _ _ _ _ HD.out
end Go.Proofs.YtaageikelkcphaaGreatDoor
