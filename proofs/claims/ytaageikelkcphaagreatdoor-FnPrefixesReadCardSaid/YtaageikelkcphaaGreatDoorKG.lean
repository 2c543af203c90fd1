/- Part 7 of the proof: the texts UN, UD, UE, joined. What each proves stands ahead of it. -/
import Derived.Test.YtaageikelkcphaaGreatDoorKE
import Derived.Test.YtaageikelkcphaaGreatDoorKF
import Derived.Deep.DeepCutAuto
import Derived.Deep.CutBlock
set_option linter.unusedVariables false
set_option linter.unusedSimpArgs false
/- The thirty-two functions that unpack 32 numbers of a width, each by reckoning. -/
namespace Go.Proofs.YtaageikelkcphaaGreatDoor
open Go Go.RowKit
def ucfg (n m : Nat) : Cfg := { tS := 141, tU := 71, tR := 92, fRL := 104, N := n, K := 16, M := m }
theorem uinfo : (Tryz.prog.info? 71).map (fun i => (i.zero, i.size, i.bytes)) = some (some (.int .u32 0), 1, 4) := by kernel_rfl
theorem utab (n m : Nat) : TabOK Tryz.prog (ucfg n m) := by
  refine ⟨Tryz.underlying141, Tryz.underlying71, ?_, ⟨_, Tryz.func104, by kernel_rfl, by kernel_rfl⟩⟩
  obtain ⟨i, hi, h1, h2, _⟩ := info_parts uinfo
  exact ⟨i, hi, h2, h1⟩
theorem un1_ok : unpackB (ucfg Tryz.f71.ntmps 1) 1 Tryz.f71 = true := by kernel_rfl
theorem un2_ok : unpackB (ucfg Tryz.f72.ntmps 2) 2 Tryz.f72 = true := by kernel_rfl
theorem un3_ok : unpackB (ucfg Tryz.f73.ntmps 3) 3 Tryz.f73 = true := by kernel_rfl
theorem un4_ok : unpackB (ucfg Tryz.f74.ntmps 4) 4 Tryz.f74 = true := by kernel_rfl
theorem un5_ok : unpackB (ucfg Tryz.f75.ntmps 5) 5 Tryz.f75 = true := by kernel_rfl
theorem un6_ok : unpackB (ucfg Tryz.f76.ntmps 6) 6 Tryz.f76 = true := by kernel_rfl
theorem un7_ok : unpackB (ucfg Tryz.f77.ntmps 7) 7 Tryz.f77 = true := by kernel_rfl
theorem un8_ok : unpackB (ucfg Tryz.f78.ntmps 8) 8 Tryz.f78 = true := by kernel_rfl
theorem un9_ok : unpackB (ucfg Tryz.f79.ntmps 9) 9 Tryz.f79 = true := by kernel_rfl
theorem un10_ok : unpackB (ucfg Tryz.f80.ntmps 10) 10 Tryz.f80 = true := by kernel_rfl
theorem un11_ok : unpackB (ucfg Tryz.f81.ntmps 11) 11 Tryz.f81 = true := by kernel_rfl
theorem un12_ok : unpackB (ucfg Tryz.f82.ntmps 12) 12 Tryz.f82 = true := by kernel_rfl
theorem un13_ok : unpackB (ucfg Tryz.f83.ntmps 13) 13 Tryz.f83 = true := by kernel_rfl
theorem un14_ok : unpackB (ucfg Tryz.f84.ntmps 14) 14 Tryz.f84 = true := by kernel_rfl
theorem un15_ok : unpackB (ucfg Tryz.f85.ntmps 15) 15 Tryz.f85 = true := by kernel_rfl
theorem un16_ok : unpackB (ucfg Tryz.f86.ntmps 16) 16 Tryz.f86 = true := by kernel_rfl
theorem un17_ok : unpackB (ucfg Tryz.f87.ntmps 17) 17 Tryz.f87 = true := by kernel_rfl
theorem un18_ok : unpackB (ucfg Tryz.f88.ntmps 18) 18 Tryz.f88 = true := by kernel_rfl
theorem un19_ok : unpackB (ucfg Tryz.f89.ntmps 19) 19 Tryz.f89 = true := by kernel_rfl
theorem un20_ok : unpackB (ucfg Tryz.f90.ntmps 20) 20 Tryz.f90 = true := by kernel_rfl
theorem un21_ok : unpackB (ucfg Tryz.f91.ntmps 21) 21 Tryz.f91 = true := by kernel_rfl
theorem un22_ok : unpackB (ucfg Tryz.f92.ntmps 22) 22 Tryz.f92 = true := by kernel_rfl
theorem un23_ok : unpackB (ucfg Tryz.f93.ntmps 23) 23 Tryz.f93 = true := by kernel_rfl
theorem un24_ok : unpackB (ucfg Tryz.f94.ntmps 24) 24 Tryz.f94 = true := by kernel_rfl
theorem un25_ok : unpackB (ucfg Tryz.f95.ntmps 25) 25 Tryz.f95 = true := by kernel_rfl
theorem un26_ok : unpackB (ucfg Tryz.f96.ntmps 26) 26 Tryz.f96 = true := by kernel_rfl
theorem un27_ok : unpackB (ucfg Tryz.f97.ntmps 27) 27 Tryz.f97 = true := by kernel_rfl
theorem un28_ok : unpackB (ucfg Tryz.f98.ntmps 28) 28 Tryz.f98 = true := by kernel_rfl
theorem un29_ok : unpackB (ucfg Tryz.f99.ntmps 29) 29 Tryz.f99 = true := by kernel_rfl
theorem un30_ok : unpackB (ucfg Tryz.f100.ntmps 30) 30 Tryz.f100 = true := by kernel_rfl
theorem un31_ok : unpackB (ucfg Tryz.f101.ntmps 31) 31 Tryz.f101 = true := by kernel_rfl
theorem un32_ok : unpackB (ucfg Tryz.f102.ntmps 32) 32 Tryz.f102 = true := by kernel_rfl
end Go.Proofs.YtaageikelkcphaaGreatDoor
/- unpack32: so many whole groups of 32 numbers. -/
namespace Go.Proofs.YtaageikelkcphaaGreatDoor
open Go Go.RowKit
/-- The function for a width. -/
def ufn : Nat → Nat
  | 1 => 71
  | 2 => 72
  | 3 => 73
  | 4 => 74
  | 5 => 75
  | 6 => 76
  | 7 => 77
  | 8 => 78
  | 9 => 79
  | 10 => 80
  | 11 => 81
  | 12 => 82
  | 13 => 83
  | 14 => 84
  | 15 => 85
  | 16 => 86
  | 17 => 87
  | 18 => 88
  | 19 => 89
  | 20 => 90
  | 21 => 91
  | 22 => 92
  | 23 => 93
  | 24 => 94
  | 25 => 95
  | 26 => 96
  | 27 => 97
  | 28 => 98
  | 29 => 99
  | 30 => 100
  | 31 => 101
  | 32 => 102
  | _ => 0
def UFok (n : Nat) : Prop := ∃ fn, Tryz.prog.funcs[ufn n]? = some fn ∧ (fn.name == "runtime.NumGoroutine") = false ∧ fn.body.isNone = false ∧ unpackB (ucfg fn.ntmps n) n fn = true
theorem uf1 : UFok 1 := ⟨Tryz.f71, Tryz.func71, by kernel_rfl, by kernel_rfl, un1_ok⟩
theorem uf2 : UFok 2 := ⟨Tryz.f72, Tryz.func72, by kernel_rfl, by kernel_rfl, un2_ok⟩
theorem uf3 : UFok 3 := ⟨Tryz.f73, Tryz.func73, by kernel_rfl, by kernel_rfl, un3_ok⟩
theorem uf4 : UFok 4 := ⟨Tryz.f74, Tryz.func74, by kernel_rfl, by kernel_rfl, un4_ok⟩
theorem uf5 : UFok 5 := ⟨Tryz.f75, Tryz.func75, by kernel_rfl, by kernel_rfl, un5_ok⟩
theorem uf6 : UFok 6 := ⟨Tryz.f76, Tryz.func76, by kernel_rfl, by kernel_rfl, un6_ok⟩
theorem uf7 : UFok 7 := ⟨Tryz.f77, Tryz.func77, by kernel_rfl, by kernel_rfl, un7_ok⟩
theorem uf8 : UFok 8 := ⟨Tryz.f78, Tryz.func78, by kernel_rfl, by kernel_rfl, un8_ok⟩
theorem uf9 : UFok 9 := ⟨Tryz.f79, Tryz.func79, by kernel_rfl, by kernel_rfl, un9_ok⟩
theorem uf10 : UFok 10 := ⟨Tryz.f80, Tryz.func80, by kernel_rfl, by kernel_rfl, un10_ok⟩
theorem uf11 : UFok 11 := ⟨Tryz.f81, Tryz.func81, by kernel_rfl, by kernel_rfl, un11_ok⟩
theorem uf12 : UFok 12 := ⟨Tryz.f82, Tryz.func82, by kernel_rfl, by kernel_rfl, un12_ok⟩
theorem uf13 : UFok 13 := ⟨Tryz.f83, Tryz.func83, by kernel_rfl, by kernel_rfl, un13_ok⟩
theorem uf14 : UFok 14 := ⟨Tryz.f84, Tryz.func84, by kernel_rfl, by kernel_rfl, un14_ok⟩
theorem uf15 : UFok 15 := ⟨Tryz.f85, Tryz.func85, by kernel_rfl, by kernel_rfl, un15_ok⟩
theorem uf16 : UFok 16 := ⟨Tryz.f86, Tryz.func86, by kernel_rfl, by kernel_rfl, un16_ok⟩
theorem uf17 : UFok 17 := ⟨Tryz.f87, Tryz.func87, by kernel_rfl, by kernel_rfl, un17_ok⟩
theorem uf18 : UFok 18 := ⟨Tryz.f88, Tryz.func88, by kernel_rfl, by kernel_rfl, un18_ok⟩
theorem uf19 : UFok 19 := ⟨Tryz.f89, Tryz.func89, by kernel_rfl, by kernel_rfl, un19_ok⟩
theorem uf20 : UFok 20 := ⟨Tryz.f90, Tryz.func90, by kernel_rfl, by kernel_rfl, un20_ok⟩
theorem uf21 : UFok 21 := ⟨Tryz.f91, Tryz.func91, by kernel_rfl, by kernel_rfl, un21_ok⟩
theorem uf22 : UFok 22 := ⟨Tryz.f92, Tryz.func92, by kernel_rfl, by kernel_rfl, un22_ok⟩
theorem uf23 : UFok 23 := ⟨Tryz.f93, Tryz.func93, by kernel_rfl, by kernel_rfl, un23_ok⟩
theorem uf24 : UFok 24 := ⟨Tryz.f94, Tryz.func94, by kernel_rfl, by kernel_rfl, un24_ok⟩
theorem uf25 : UFok 25 := ⟨Tryz.f95, Tryz.func95, by kernel_rfl, by kernel_rfl, un25_ok⟩
theorem uf26 : UFok 26 := ⟨Tryz.f96, Tryz.func96, by kernel_rfl, by kernel_rfl, un26_ok⟩
theorem uf27 : UFok 27 := ⟨Tryz.f97, Tryz.func97, by kernel_rfl, by kernel_rfl, un27_ok⟩
theorem uf28 : UFok 28 := ⟨Tryz.f98, Tryz.func98, by kernel_rfl, by kernel_rfl, un28_ok⟩
theorem uf29 : UFok 29 := ⟨Tryz.f99, Tryz.func99, by kernel_rfl, by kernel_rfl, un29_ok⟩
theorem uf30 : UFok 30 := ⟨Tryz.f100, Tryz.func100, by kernel_rfl, by kernel_rfl, un30_ok⟩
theorem uf31 : UFok 31 := ⟨Tryz.f101, Tryz.func101, by kernel_rfl, by kernel_rfl, un31_ok⟩
theorem uf32 : UFok 32 := ⟨Tryz.f102, Tryz.func102, by kernel_rfl, by kernel_rfl, un32_ok⟩
theorem uf_all : ∀ n, 1 ≤ n → n ≤ 32 → UFok n := by
  intro n h1 h2
  have : n = 1 ∨ n = 2 ∨ n = 3 ∨ n = 4 ∨ n = 5 ∨ n = 6 ∨ n = 7 ∨ n = 8 ∨ n = 9 ∨ n = 10 ∨ n = 11 ∨ n = 12 ∨ n = 13 ∨ n = 14 ∨ n = 15 ∨ n = 16 ∨ n = 17 ∨ n = 18 ∨ n = 19 ∨ n = 20 ∨ n = 21 ∨ n = 22 ∨ n = 23 ∨ n = 24 ∨ n = 25 ∨ n = 26 ∨ n = 27 ∨ n = 28 ∨ n = 29 ∨ n = 30 ∨ n = 31 ∨ n = 32 := by omega
  rcases this with rfl | rfl | rfl | rfl | rfl | rfl | rfl | rfl | rfl | rfl | rfl | rfl | rfl | rfl | rfl | rfl | rfl | rfl | rfl | rfl | rfl | rfl | rfl | rfl | rfl | rfl | rfl | rfl | rfl | rfl | rfl | rfl
  · exact uf1
  · exact uf2
  · exact uf3
  · exact uf4
  · exact uf5
  · exact uf6
  · exact uf7
  · exact uf8
  · exact uf9
  · exact uf10
  · exact uf11
  · exact uf12
  · exact uf13
  · exact uf14
  · exact uf15
  · exact uf16
  · exact uf17
  · exact uf18
  · exact uf19
  · exact uf20
  · exact uf21
  · exact uf22
  · exact uf23
  · exact uf24
  · exact uf25
  · exact uf26
  · exact uf27
  · exact uf28
  · exact uf29
  · exact uf30
  · exact uf31
  · exact uf32
theorem rl_ok (N M rb ro b bo L C : Nat) (B : Nat → Nat) (ob oo olen ocap : Nat) (D : Nat → Nat) (hDl : ∀ j, D j < 256) (hL : L ≤ C) (hC : C ≤ 9223372036854775807) (hbr : b ≠ rb) :
    RLOK Tryz.prog (ucfg N M) { B := B, rb := rb, ro := ro, ob := ob, oo := oo, olen := olen, ocap := ocap } b bo L C D := by
  intro w pb po pos pr u hR hD hpos hc hf hne
  refine (readLittle_ok rb ro b bo L C pb po (4 * pos) pr u D hDl w hR hD hpos hL hC hne hbr hc hf).mono ?_
  rintro e w' ⟨he, h1, h2, h3⟩
  exact ⟨he, h1, ⟨-1, h2⟩, h3⟩
/-- What a reader's bytes become when four times the width are laid aside. -/
def cutD (D : Nat → Nat) (q m : Nat) (j : Nat) : Nat := if j < m then D (q + j) else 0
theorem cutD_bits (D : Nat → Nat) (q m p n : Nat) (h : p + n ≤ 8 * m) : bitsV (cutD D q m) p n = bitsV D (8 * q + p) n := by
  have : ∀ i, p ≤ i → i < p + n → bitB (cutD D q m) i = bitB (fun j => D (q + j)) i := by
    intro i h1 h2
    unfold bitB cutD
    rw [if_pos (by omega)]
  rw [bitsV_congr this]
  clear this
  have key : ∀ n p, bitsV (fun j => D (q + j)) p n = bitsV D (8 * q + p) n := by
    intro n
    induction n with
    | zero => intro p; rfl
    | succ n ih =>
      intro p
      have e : bitB (fun j => D (q + j)) p = bitB D (8 * q + p) := by
        unfold bitB
        rw [show (8 * q + p) / 8 = q + p / 8 by omega, show (8 * q + p) % 8 = p % 8 by omega]
      rw [bitsV, bitsV, ih, e]
      rfl
  exact key n p
end Go.Proofs.YtaageikelkcphaaGreatDoor
/- unpack32Default: the loop over groups of 32 numbers. -/
namespace Go.Proofs.YtaageikelkcphaaGreatDoor
open Go Go.RowKit
/-- What is known behind k groups. -/
structure Unp (rb ro b bo L C ob oo len q n nl pk : Nat) (D : Nat → Nat) (w wr : World) (k : Nat) : Prop where
  chg : Chg (fun x y => (x = rb ∧ ro ≤ y ∧ y < ro + 3) ∨ (x = ob ∧ oo ≤ y ∧ y < oo + 32 * nl)) w wr
  pk0 : w.heap.size ≤ pk
  pkc : ∀ j, j < 128 → ∃ u, wr.cell? ⟨pk, j, none⟩ = some u
  pkf : ∀ j, j < 128 → wr.frozen? ⟨pk, j, none⟩ = false
  rdr : ∃ pr, Rdr wr rb ro b bo L C (q + k * (4 * n) : Nat) pr
  out : ∀ j, j < 32 * k → wr.cell? ⟨ob, oo + j, none⟩ = some (.int .u32 (bitsV D (8 * q + j * n) n))
  oth : ∀ j, j < len → ∃ u, wr.cell? ⟨ob, oo + j, none⟩ = some u
  ofr : ∀ j, j < len → wr.frozen? ⟨ob, oo + j, none⟩ = false
set_option maxRecDepth 100000 in
set_option maxHeartbeats 1000000 in
theorem unpackD_ok (rb ro b bo L C ob oo len cap q n : Nat) (pr : Int) (D : Nat → Nat) (w : World) (hR : Rdr w rb ro b bo L C q pr) (hD : Data w b bo L D) (hn1 : 1 ≤ n) (hn2 : n ≤ 32) (hq : q + len / 32 * (4 * n) ≤ L) (hL : L ≤ C) (hC : C ≤ 9223372036854775807) (hbr : b ≠ rb) (hob : b ≠ ob) (hro : rb ≠ ob) (hlen : len ≤ cap) (hcap : cap ≤ 1000000000000000000)
    (hp : ∀ j, j < len → ∃ u, w.cell? ⟨ob, oo + j, none⟩ = some u) (hpf : ∀ j, j < len → w.frozen? ⟨ob, oo + j, none⟩ = false) :
    Calls Tryz.prog 67 #[.iface 92 (.pointer (some ⟨rb, ro, none⟩)), .slice (some ⟨ob, oo, none⟩) len cap, .int .i64 n] w fun e w' =>
      e = .returned (.tuple #[.int .i64 (len / 32 * 32 : Nat), .nilIface]) ∧ Chg (fun x y => (x = rb ∧ ro ≤ y ∧ y < ro + 3) ∨ (x = ob ∧ oo ≤ y ∧ y < oo + 32 * (len / 32))) w w' ∧ (∃ pr', Rdr w' rb ro b bo L C (q + len / 32 * (4 * n) : Nat) pr') ∧
        ∀ j, j < 32 * (len / 32) → w'.cell? ⟨ob, oo + j, none⟩ = some (.int .u32 (bitsV D (8 * q + j * n) n)) := by
  have HR := Lib.hid hR; clear hR
  have HD := Lib.hid hD; clear hD
  have Hp := Lib.hid hp; clear hp
  have Hf := Lib.hid hpf; clear hpf
  obtain ⟨nl, hnl⟩ : ∃ nl, nl = len / 32 := ⟨_, rfl⟩
  rw [← hnl] at hq ⊢
  have h32 : 32 * nl ≤ len := by omega
  have h33 : len < 32 * nl + 32 := by omega
  have Hq := Lib.hid hq; clear hq
  have Hnl := Lib.hid hnl; clear hnl
  go_enter Tryz.func67, Tryz.ntmps67
  go_upto_block 0 with fail
  go_cut [10] (fun f wx => f = .func (.func (ufn n)) #[] #[] ∧ w = wx)
  case first =>
    go_wp2
    all_goals (go_meet; have hn := beq_iff_eq.1 (show ((n : Int) == _) = true by assumption); have hn' : n = _ := Int.ofNat_inj.1 hn; subst hn'; exact ⟨rfl, rfl⟩)
  case rest =>
    obtain ⟨rfl, rfl⟩ := hcut
    have hz : Tryz.zeroCells154.size = 128 := by kernel_rfl
    go_wp2
    have h0 : Unp rb ro b bo L C ob oo len q n nl w.heap.size D w (w.alloc (Obj.cells Tryz.zeroCells154 154)) 0 := by
      have hR := HR.out.lt
      refine ⟨(Chg.refl _ _).alloc _, Nat.le_refl _, ?_, ?_, ⟨pr, by simpa using HR.out.alloc _⟩, fun j hj => by omega, ?_, ?_⟩
      · intro j hj
        rw [World.cell?_alloc_new]
        exact ⟨_, Array.getElem?_eq_getElem (by rw [hz]; exact hj)⟩
      · intro j hj; simp
      · intro j hj
        obtain ⟨u, hu⟩ := Hp.out j hj
        exact ⟨u, cell_alloc _ hu⟩
      · intro j hj
        obtain ⟨u, hu⟩ := Hp.out j hj
        exact frozen_alloc _ (World.block_lt_of_cell? w _ hu) (Hf.out j hj)
    have H0 := Lib.hid h0; clear h0
    go_loopw [13] (fun i wr => ∃ k : Nat, k ≤ nl ∧ i = .int .i64 k ∧ Unp rb ro b bo L C ob oo len q n nl w.heap.size D w wr k) (fun i _ => nl - (intOf i).toNat)
    case atStart => exact ⟨0, Nat.zero_le _, rfl, H0.out⟩
    case round =>
      obtain ⟨k, hk, rfl, hU⟩ := hrel
      have HU := Lib.hid hU; clear hU
      have e4 : ((n : Int) * 4).toNat = 4 * n := by omega
      have e40 : 0 ≤ (n : Int) * 4 := by omega
      have e41 : (n : Int) * 4 ≤ 128 := by omega
      by_cases hlt : k < nl
      · have hdec : (k : Int) < (len : Int) / 32 := by have := Hnl.out; omega
        have hk1 : (k + 1) * (4 * n) ≤ nl * (4 * n) := Nat.mul_le_mul_right _ (by omega)
        have hk2 : (k + 1) * (4 * n) = k * (4 * n) + 4 * n := Nat.succ_mul _ _
        have hq' : q + k * (4 * n) + 4 * n ≤ L := by have := Hq.out; omega
        have Hk2 := Lib.hid hk2; clear hk2 hk1
        obtain ⟨pr1, hR1⟩ := HU.out.rdr
        have HR1 := Lib.hid hR1; clear hR1
        have hpk := HU.out.pk0
        have hlr := HR.out.lt
        have Hlb : Hid (0 < L → b < w.heap.size) := fun h => World.block_lt_of_cell? w _ (HD.out.bytes 0 h)
        have HD1 := Lib.hid (HD.out.keep HU.out.chg (by rintro j _ (h | h); exact hbr h.1; exact hob h.1))
        go_wp2_with fail
        refine (readFull_exact rb ro b bo L C w.heap.size 0 (4 * n) 128 (q + k * (4 * n)) pr1 D wr HR1.out HD1.out.bytes (by omega) hq' hL hC (by omega) (by have := Hlb.out (by omega); omega) hbr (fun j hj => by simpa using HU.out.pkc j (by omega)) (fun j hj => by simpa using HU.out.pkf j (by omega)) (by omega)).mono ?_
        rintro e w1 ⟨rfl, hch, hR2, hB2⟩
        have HB2 := Lib.hid hB2; clear hB2
        have HR2 := Lib.hid hR2; clear hR2
        have Hc1 := Lib.hid hch; clear hch
        obtain ⟨fn, hfn, hfname, hfbody, hfu⟩ := uf_all n hn1 hn2
        have Hfu := Lib.hid hfu; clear hfu
        have ek0 : 0 ≤ (k : Int) * 32 := by omega
        have ek1 : (k : Int) * 32 ≤ len := by omega
        have ek2 : ((k : Int) * 32).toNat = 32 * k := by omega
        have ek3 : ¬ cap = 32 * k := by omega
        have ek4 : IntKind.i64.wrap ((k : Int) * 32) = (k : Int) * 32 := IntWalk.i64_in _ (by omega)
        have hcf := fun args w => callFunc_enter hfn hfname hfbody args w
        have Hfn := Lib.hid hfn; clear hfn hfname hfbody
        go_wp2_with fail
        (refine wp_region_txt [] (by kernel_rfl) (by kernel_rfl) ?_; repeat (first | (refine wpTxt_pure rfl rfl (fun K hK => ?_); go_simp; refine hK _ ?_; clear hK K) | (refine wpTxt_still rfl rfl (fun K hK => ?_); go_simp; refine hK _ ?_; clear hK K)))
        (refine wpTxt_effect rfl rfl (fun K hK => ?_); go_simp)
        refine (newReader_any _ _ _ _).mono ?_
        rintro e w2 ⟨rfl, rfl⟩
        (refine hK _ _ ?_; clear hK K)
        repeat (first | (refine wpTxt_pure rfl rfl (fun K hK => ?_); go_simp; refine hK _ ?_; clear hK K) | (refine wpTxt_still rfl rfl (fun K hK => ?_); go_simp; refine hK _ ?_; clear hK K))
        (refine wpTxt_effect rfl rfl (fun K hK => ?_); go_simp)
        clear hcf
        have hlt1 : w.heap.size < w1.heap.size := Nat.lt_of_lt_of_le (World.block_lt_of_cell? wr _ (HU.out.pkc 0 (by omega)).choose_spec) Hc1.out.size
        have hlr1 : rb < w1.heap.size := HR2.out.lt
        have hlo : ob < w.heap.size := World.block_lt_of_cell? w _ (Hp.out 0 (by omega)).choose_spec
        have hbase : Base { B := bitB (cutD D (q + k * (4 * n)) (4 * n)), rb := w1.heap.size, ro := 0, ob := ob, oo := oo + 32 * k, olen := len - 32 * k, ocap := cap - 32 * k } w.heap.size 0 (4 * n) (cutD D (q + k * (4 * n)) (4 * n)) (w1.alloc (.cells #[.slice (some ⟨w.heap.size, 0, none⟩) (4 * n) 128, .int .i64 0, .int .i64 (-1)] 113)).drew n := by
          refine ⟨⟨?_, ?_, ?_⟩, rfl, ?_, ?_, ?_, ?_, ?_, ?_, ?_, ?_, ?_⟩
          · intro j hj
            have h1 := cell_alloc (.cells #[.slice (some ⟨w.heap.size, 0, none⟩) (4 * n) 128, .int .i64 0, .int .i64 (-1)] 113) (HB2.out j hj)
            simp only [cutD, hj, if_true]
            exact h1
          · intro j; unfold cutD; split
            · exact HD.out.lt _
            · omega
          · intro j hj; unfold cutD; rw [if_neg (by omega)]
          all_goals (try simp)
          all_goals omega
        have hoc : ∀ i, i < 32 → ∃ u, (w1.alloc (.cells #[.slice (some ⟨w.heap.size, 0, none⟩) (4 * n) 128, .int .i64 0, .int .i64 (-1)] 113)).drew.cell? ⟨ob, oo + 32 * k + i, none⟩ = some u := by
          intro i hi
          obtain ⟨u, hu⟩ := HU.out.oth (32 * k + i) (by omega)
          rw [← Nat.add_assoc] at hu
          exact ⟨u, cell_alloc _ (Hc1.out.keep hu (by rintro (h | h); exact hro h.1.symm; omega))⟩
        have hof : ∀ i, i < 32 → (w1.alloc (.cells #[.slice (some ⟨w.heap.size, 0, none⟩) (4 * n) 128, .int .i64 0, .int .i64 (-1)] 113)).drew.frozen? ⟨ob, oo + 32 * k + i, none⟩ = false := by
          intro i hi
          have h1 := HU.out.ofr (32 * k + i) (by omega)
          rw [← Nat.add_assoc] at h1
          have hor : ob < wr.heap.size := HU.out.chg.lt hlo
          exact frozen_alloc _ (Hc1.out.lt hor) ((Hc1.out.frozen _ _ hor).trans h1)
        have hrd : ∃ pr, Rdr (w1.alloc (.cells #[.slice (some ⟨w.heap.size, 0, none⟩) (4 * n) 128, .int .i64 0, .int .i64 (-1)] 113)).drew w1.heap.size 0 w.heap.size 0 (4 * n) 128 (0 : Nat) pr := ⟨-1, ⟨by simp, by simp, by simp, fun j hj => by simp⟩⟩
        refine (unpack_any (by kernel_rfl) (utab _ _) hbase (rl_ok _ _ _ _ _ _ _ _ _ _ _ _ _ _ hbase.data.lt (by omega) (by omega) (by omega)) Hfn.out Hfu.out hrd hoc hof).mono ?_
        rintro e w3 ⟨rfl, hch3, hout3⟩
        have hch3' := hch3.undrew.unalloc (T := fun x y => x = ob ∧ oo + 32 * k ≤ y ∧ y < oo + 32 * k + 32) (by
          rintro x y hx (h | h)
          · have := h.1; simp only at this; omega
          · exact h)
        have hU3 : Unp rb ro b bo L C ob oo len q n nl w.heap.size D w w3 (k + 1) := by
          have hor : ob < wr.heap.size := HU.out.chg.lt hlo
          refine ⟨?_, Nat.le_refl _, ?_, ?_, ⟨-1, ?_⟩, ?_, ?_, ?_⟩
          · refine (HU.out.chg.comp Hc1.out (fun _ _ _ h => h) (by rintro x y hx (h | h); exact .inl h; omega)).comp hch3' (fun _ _ _ h => h) (by rintro x y hx h; exact .inr ⟨h.1, by omega, by omega⟩)
          · intro j hj
            by_cases hj4 : j < 4 * n
            · exact ⟨_, hch3'.keep (by simpa using HB2.out j hj4) (by rintro h; omega)⟩
            · obtain ⟨u, hu⟩ := HU.out.pkc j hj
              exact ⟨u, hch3'.keep (Hc1.out.keep hu (by rintro (h | h); omega; omega)) (by rintro h; omega)⟩
          · intro j hj
            have hpkr : w.heap.size < wr.heap.size := World.block_lt_of_cell? wr _ (HU.out.pkc 0 (by omega)).choose_spec
            exact (hch3'.frozen _ _ hlt1).trans ((Hc1.out.frozen _ _ hpkr).trans (HU.out.pkf j hj))
          · have h2 := HR2.out.keep hch3' (by rintro j hj h; exact hro h.1)
            have e : q + k * (4 * n) + 4 * n = q + (k + 1) * (4 * n) := by have := Hk2.out; omega
            rw [e] at h2
            exact h2
          · intro j hj
            by_cases hjk : j < 32 * k
            · exact hch3'.keep (Hc1.out.keep (HU.out.out j hjk) (by rintro (h | h); exact hro h.1.symm; omega)) (by rintro h; omega)
            · have h3 := hout3 (j - 32 * k) (by omega)
              rw [cutD_bits _ _ _ _ _ (by have : (j - 32 * k + 1) * n ≤ 32 * n := Nat.mul_le_mul_right _ (by omega); rw [Nat.succ_mul] at this; omega)] at h3
              have e1 : oo + 32 * k + (j - 32 * k) = oo + j := by omega
              have e2 : 8 * (q + k * (4 * n)) + (j - 32 * k) * n = 8 * q + j * n := by
                have e3 : j * n = (32 * k + (j - 32 * k)) * n := by congr 1; omega
                rw [e3, Nat.add_mul, Nat.mul_add]
                have e4 : 8 * (k * (4 * n)) = 32 * k * n := by rw [Nat.mul_left_comm k 4 n, ← Nat.mul_assoc 8 4, Nat.mul_assoc 32 k n]
                omega
              simp only [e1, e2] at h3
              exact h3
          · intro j hj
            by_cases hj3 : 32 * k ≤ j ∧ j < 32 * k + 32
            · have h3 := hout3 (j - 32 * k) (by omega)
              have e1 : oo + 32 * k + (j - 32 * k) = oo + j := by omega
              simp only [e1] at h3
              exact ⟨_, h3⟩
            · obtain ⟨u, hu⟩ := HU.out.oth j hj
              exact ⟨u, hch3'.keep (Hc1.out.keep hu (by rintro (h | h); exact hro h.1.symm; omega)) (by rintro h; omega)⟩
          · intro j hj
            exact (hch3'.frozen _ _ (Hc1.out.lt hor)).trans ((Hc1.out.frozen _ _ hor).trans (HU.out.ofr j hj))
        have HU3 := Lib.hid hU3
        clear hU3 hch3 hch3' hout3 hbase hoc hof hrd
        (refine hK _ _ ?_; clear hK K)
        repeat (first | (refine wpTxt_pure rfl rfl (fun K hK => ?_); go_simp; refine hK _ ?_; clear hK K) | (refine wpTxt_still rfl rfl (fun K hK => ?_); go_simp; refine hK _ ?_; clear hK K))
        refine wpTxt_nil ?_
        go_wp2
        go_roundw
        case rel => exact ⟨k + 1, by omega, by go_num, HU3.out⟩
        case measure => simp [intOf]; omega
      · have hke : k = nl := by omega
        have hdec : ¬ (k : Int) < (len : Int) / 32 := by have := Hnl.out; omega
        subst hke
        go_wp2
        go_ret2
        have e : (len : Int) / 32 = k := by have := Hnl.out; omega
        refine ⟨?_, HU.out.chg, ?_, HU.out.out⟩
        · show Ending.returned (.tuple #[.int .i64 ((len : Int) / 32 * 32), .nilIface]) = _
          rw [e]
        · obtain ⟨pr', h⟩ := HU.out.rdr
          exact ⟨pr', by simpa using h⟩
set_option maxRecDepth 100000 in
set_option maxHeartbeats 1000000 in
theorem unpack32_ok (rb ro b bo L C ob oo len cap q n : Nat) (pr : Int) (D : Nat → Nat) (w : World) (hR : Rdr w rb ro b bo L C q pr) (hD : Data w b bo L D) (hn1 : 1 ≤ n) (hn2 : n ≤ 32) (hq : q + len / 32 * (4 * n) ≤ L) (hL : L ≤ C) (hC : C ≤ 9223372036854775807) (hbr : b ≠ rb) (hob : b ≠ ob) (hro : rb ≠ ob) (hlen : len ≤ cap) (hcap : cap ≤ 1000000000000000000)
    (hp : ∀ j, j < len → ∃ u, w.cell? ⟨ob, oo + j, none⟩ = some u) (hpf : ∀ j, j < len → w.frozen? ⟨ob, oo + j, none⟩ = false) :
    Calls Tryz.prog 62 #[.iface 92 (.pointer (some ⟨rb, ro, none⟩)), .slice (some ⟨ob, oo, none⟩) len cap, .int .i64 n] w fun e w' =>
      e = .returned (.tuple #[.int .i64 (len / 32 * 32 : Nat), .nilIface]) ∧ Chg (fun x y => (x = rb ∧ ro ≤ y ∧ y < ro + 3) ∨ (x = ob ∧ oo ≤ y ∧ y < oo + 32 * (len / 32))) w w' ∧ (∃ pr', Rdr w' rb ro b bo L C (q + len / 32 * (4 * n) : Nat) pr') ∧
        ∀ j, j < 32 * (len / 32) → w'.cell? ⟨ob, oo + j, none⟩ = some (.int .u32 (bitsV D (8 * q + j * n) n)) := by
  have h := unpackD_ok rb ro b bo L C ob oo len cap q n pr D w hR hD hn1 hn2 hq hL hC hbr hob hro hlen hcap hp hpf
  have H := Lib.hid h
  clear h hR hD hq hp hpf
  go_enter Tryz.func62, Tryz.ntmps62
  go_wp2_with fail
  refine H.out.mono ?_
  rintro e w1 ⟨rfl, h1, h2, h3⟩
  have H1 := Lib.hid h1; clear h1
  have H2 := Lib.hid h2; clear h2
  have H3 := Lib.hid h3; clear h3
  go_wp2
  go_ret2
  exact ⟨rfl, H1.out, by simpa using H2.out, H3.out⟩
end Go.Proofs.YtaageikelkcphaaGreatDoor
