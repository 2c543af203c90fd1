/- Part 12 of the proof: the texts CA, joined. What each proves stands ahead of it. -/
import Derived.Test.YtameepdbnnaaaaaGreatDoorKF
import Derived.Test.YtameepdbnnaaaaaGreatDoorKG
import Derived.Test.YtameepdbnnaaaaaGreatDoorKK
import Derived.Outline
set_option linter.unusedVariables false
set_option linter.unusedSimpArgs false
/- A batch of bits to a bitmap. -/
namespace Go.Proofs.YtameepdbnnaaaaaGreatDoor
open Go Go.RowKit
/-- Bit t behind bit p. -/
def bitS (D : Nat → Nat) (p : Nat) : Nat → Bool := fun t => bitB D (p + t) == 1
theorem bitS_one (D : Nat → Nat) (p t : Nat) : (((bitsV D (p + t) 1 : Nat) : Int) != 0) = bitS D p t := by
  unfold bitS
  rw [bitsV, bitsV]
  have := bitB_le D (p + t)
  have h : bitB D (p + t) = 0 ∨ bitB D (p + t) = 1 := by omega
  rcases h with h | h <;> rw [h] <;> rfl
theorem copyB_one (β σ : Nat → Bool) (d k : Nat) : upd (copyB β σ d k) (d + k) (σ k) = copyB β σ d (k + 1) := by
  funext i
  unfold upd copyB
  by_cases h : i = d + k
  · subst h; rw [if_pos rfl, if_pos (by omega)]; congr 1; omega
  · rw [if_neg h]
    by_cases h2 : d ≤ i ∧ i < d + k
    · rw [if_pos h2, if_pos (by omega)]
    · rw [if_neg h2, if_neg (by omega)]
theorem copyB_two (β σ τ : Nat → Bool) (d k m : Nat) (h : ∀ t, t < m → τ t = σ (k + t)) : copyB (copyB β σ d k) τ (d + k) m = copyB β σ d (k + m) := by
  funext i
  unfold copyB
  by_cases h1 : d + k ≤ i ∧ i < d + k + m
  · rw [if_pos h1, if_pos (by omega), h _ (by omega)]; congr 1; omega
  · rw [if_neg h1]
    by_cases h2 : d ≤ i ∧ i < d + k
    · rw [if_pos h2, if_pos (by omega)]
    · rw [if_neg h2, if_neg (by omega)]
theorem bit_tb (D : Nat → Nat) (j t : Nat) (ht : t < 8) : (D j).testBit t = (bitB D (8 * j + t) == 1) := by
  unfold bitB
  rw [show (8 * j + t) / 8 = j by omega, show (8 * j + t) % 8 = t by omega, Nat.testBit_eq_decide_div_mod_eq]
  rfl
/-- What may turn at a batch of bits. -/
def GTM (c : RC) (b off n : Nat) : Nat → Nat → Prop := fun k x => k = c.B ∨ (k = c.rb ∧ c.ro ≤ x ∧ x < c.ro + 3) ∨ RowS b off n k x
/-- Behind k bits. -/
structure GM (c : RC) (b off n d p : Nat) (β : Nat → Bool) (w wr : World) (k o1 f1 : Nat) : Prop where
  chg : Chg (GTM c b off n) w wr
  bm : Bmp wr b off n (copyB β (bitS c.D p) d k)
  rs : RS c wr o1 f1
  tab : Tabs wr
  pos : 8 * o1 + f1 = p + k
  nB : b ≠ c.B
  nr : b ≠ c.rb
  nb : b ≠ c.b
  g : 8 < b
/-- The next bit has been read. -/
theorem GM.read {c : RC} {b off n d p : Nat} {β : Nat → Bool} {w wr w1 : World} {k o1 f1 : Nat} (h : GM c b off n d p β w wr k o1 f1) (hc : Chg (Own c.B) wr w1) : Chg (GTM c b off n) w w1 ∧ Bmp w1 b off n (copyB β (bitS c.D p) d k) ∧ Tabs w1 :=
  ⟨h.chg.trans (hc.mono (fun _ _ _ hh => .inl hh)), h.bm.keep hc (fun _ _ hh => h.nB hh), h.tab.keep hc (fun _ _ hh => by rw [hh]; exact h.rs.env.gB)⟩
theorem GM.one {c : RC} {b off n d p : Nat} {β : Nat → Bool} {w wr w1 w2 : World} {k o1 f1 o2 f2 : Nat} (h : GM c b off n d p β w wr k o1 f1) (hc : Chg (Own c.B) wr w1) (h2 : RS c w1 o2 f2) (hp : 8 * o2 + f2 = 8 * o1 + f1 + 1) (hc2 : Chg (RowS b off n) w1 w2) (hb : Bmp w2 b off n (upd (copyB β (bitS c.D p) d k) (d + k) (bitS c.D p k))) : GM c b off n d p β w w2 (k + 1) o2 f2 := by
  obtain ⟨h3, -, h5⟩ := h.read hc
  rw [copyB_one] at hb
  refine ⟨h3.trans (hc2.mono (fun _ _ _ hh => .inr (.inr hh))), hb, h2.keep hc2 (by rintro a x ⟨rfl, -⟩; exact ⟨h.nb, h.nr, h.nB, h.g⟩), h5.keep hc2 (by rintro a x ⟨rfl, -⟩; exact h.g), by have := h.pos; omega, h.nB, h.nr, h.nb, h.g⟩
theorem Bmp.setBits {w w' : World} {b off n : Nat} {β : Nat → Bool} (h : Bmp w b off n β) (q m : Nat) (τ : Nat → Bool) (hc : Chg (fun k x => k = b ∧ off + q ≤ x ∧ x < off + q + m) w w') (hb : ∀ j, j < m → ∃ x : Nat, w'.cell? ⟨b, off + q + j, none⟩ = some (.int .u8 x) ∧ x < 256 ∧ ∀ t, t < 8 → x.testBit t = τ (8 * j + t)) : Bmp w' b off n (copyB β τ (8 * q) (8 * m)) := by
  refine ⟨fun j hj => ?_, fun j hj => let ⟨x, h1, h2⟩ := h.cell j hj; (hc.frozen _ _ (World.block_lt_of_cell? w _ h1)).trans (h.fr j hj)⟩
  by_cases hjq : q ≤ j ∧ j < q + m
  · obtain ⟨x, h1, h2, h3⟩ := hb (j - q) (by omega)
    rw [show off + q + (j - q) = off + j by omega] at h1
    refine ⟨x, h1, h2, fun t ht => ?_⟩
    rw [h3 t ht]; unfold copyB; rw [if_pos (by omega)]; congr 1; omega
  · obtain ⟨x, h1, h2, h3⟩ := h.cell j hj
    refine ⟨x, hc.keep h1 (by rintro ⟨-, h⟩; omega), h2, fun t ht => ?_⟩
    rw [h3 t ht]; unfold copyB; rw [if_neg (by omega)]
theorem eql_nil_err (a : Addr) (w : World) : (binOp .eql 47 .nilIface (.iface 101 (.pointer (some a)))).run Tryz.prog w = .ok (.bool false) w := by kernel_rfl
set_option maxRecDepth 100000 in
set_option maxHeartbeats 1000000 in
theorem getBitmap_ok (c : RC) (o f b off n cap d len : Nat) (β : Nat → Bool) (w : World) (h : RS c w o f) (hT : Tabs w) (hB : Bmp w b off n β) (nB : b ≠ c.B) (nr : b ≠ c.rb) (nb : b ≠ c.b) (hg : 8 < b) (hlen1 : 1 ≤ len) (hp : 8 * o + f + len ≤ 8 * c.L) (hd : d + len ≤ 8 * n) (hnc : n ≤ cap) (hcap : cap ≤ 100000000) :
    Calls Tryz.prog 40 #[.pointer (some ⟨c.B, 0, none⟩), .slice (some ⟨b, off, none⟩) n cap, .int .i64 d, .int .i64 len] w fun e w' =>
      e = .returned (.tuple #[.int .i64 len, .nilIface]) ∧ Chg (GTM c b off n) w w' ∧ Bmp w' b off n (copyB β (bitS c.D (8 * o + f)) d len) ∧ ∃ o' f', 8 * o' + f' = 8 * o + f + len ∧ NS c w' o' f' := by
  obtain ⟨p, hpp⟩ : ∃ p, p = 8 * o + f := ⟨_, rfl⟩
  rw [← hpp] at hp ⊢
  have h0 : GM c b off n d p β w w 0 o f := ⟨Chg.refl _ _, by rw [copyB_zero]; exact hB, h, hT, by omega, nB, nr, nb, hg⟩
  have hL := h.env.hL
  have hC := h.env.hC
  have hLb := h.env.hLb
  have H0 := Lib.hid h0; clear h0
  clear h hT hB
  have hl0 : ¬ (len : Int) = 0 := by omega
  have hl0' : ((len : Int) == 0) = false := by simp; omega
  go_enter Tryz.func40, Tryz.ntmps40
  go_upto_block 0 with fail
  go_cut [10] (fun i wx => ∃ k o1 f1, k ≤ len ∧ i = .int .i64 k ∧ GM c b off n d p β w wx k o1 f1 ∧ (k < len → f1 = 0))
  case first =>
    clear hpp
    go_wp2_with fail
    go_loopw [10] (fun i wx => ∃ k o1 f1, k ≤ len ∧ i = .int .i64 k ∧ GM c b off n d p β w wx k o1 f1) (fun i _ => len - (intOf i).toNat)
    case atStart => exact ⟨0, o, f, Nat.zero_le _, rfl, H0.out⟩
    case round =>
      obtain ⟨k, o1, f1, hk, rfl, hG⟩ := hrel
      have HG := Lib.hid hG; clear hG
      by_cases hlt : k < len
      · obtain ⟨buf, vb, hb, -⟩ := HG.out.rs.br
        have c3 := hb.bi
        clear hb
        by_cases hf : f1 = 0
        · subst hf
          go_wp2_with fail
          go_meet
          exact ⟨k, o1, 0, hk, rfl, HG.out, fun _ => rfl⟩
        · have hf' : ¬ (f1 : Int) = 0 := by omega
          have hcall := next_ok c o1 f1 1 wr (HG.out.rs.ns (by omega)) (by omega) (by have := HG.out.pos; omega)
          have Hcall := Lib.hid hcall; clear hcall
          go_wp2_with fail
          refine Hcall.out.mono ?_
          rintro e w1 ⟨rfl, h1, o2, f2, h2, -, h3⟩
          have hv := bitS_one c.D p k
          rw [← HG.out.pos] at hv
          obtain ⟨g1, g2, g3⟩ := HG.out.read h1
          have hset := setBitTo_ok b off n cap (d + k) (bitS c.D p k) _ w1 g3 g2 (by omega) (by omega) hnc
          have Hset := Lib.hid hset
          have H1 := Lib.hid h1
          have H2 := Lib.hid h2
          have H3 := Lib.hid h3
          clear h1 h2 h3 g1 g2 g3 hset
          have hdk : (d : Int) + k = (d + k : Nat) := by push_cast; rfl
          have Hdk := Lib.hid hdk
          clear hdk
          go_wp2_with fail
          rw [Hdk.out]
          refine Hset.out.mono ?_
          rintro e w4 ⟨rfl, h4, b4⟩
          have HG2 := Lib.hid (HG.out.one H1.out H3.out.rs H2.out h4 b4)
          clear h4 b4
          go_wp2_with fail
          go_roundw
          case rel => exact ⟨k + 1, o2, f2, by omega, by go_num, HG2.out⟩
          case measure => simp [intOf]; omega
      · go_wp2_with fail
        go_meet
        exact ⟨k, o1, f1, hk, rfl, HG.out, fun h => absurd h hlt⟩
  case rest =>
    obtain ⟨k, o1, f1, hk, rfl, hG, hkf⟩ := hcut
    have HG := Lib.hid hG; clear hG
    clear H0
    obtain ⟨buf, vb, hb, hbq⟩ := HG.out.rs.br
    obtain ⟨ri, rp, hr⟩ := HG.out.rs.env.rdr
    have Hr := Lib.hid hr; clear hr
    have c0 := hb.rd
    have c2 := hb.bo
    have HB := Lib.hid hb; clear hb
    have Hbq := Lib.hid hbq; clear hbq
    go_wp2_with fail
    have Hn := nil_Seek
    have Hm := method_Seek
    refine wp_region_txt [] (by kernel_rfl) (by kernel_rfl) ?_
    repeat (first | (refine wpTxt_pure rfl rfl (fun K hK => ?_); go_simp; refine hK _ ?_; clear hK K) | (refine wpTxt_still rfl rfl (fun K hK => ?_); go_simp; refine hK _ ?_; clear hK K))
    refine wpTxt_effect rfl rfl (fun K hK => ?_)
    go_simp
    refine (seek_start c.rb c.ro c.b c.bo c.L c.C o1 ri rp _ Hr.out.drew).mono ?_
    rintro e w1 ⟨rfl, h1, h2⟩
    have h1' := h1.undrew
    have hG1 : GM c b off n d p β w w1 k o1 f1 :=
      ⟨HG.out.chg.trans (h1'.mono (fun _ _ _ hh => .inr (.inl hh))), HG.out.bm.keep h1' (fun _ _ hh => HG.out.nr hh.1), HG.out.rs.seek h1' (fun _ _ h => h.1) ⟨_, _, h2⟩, HG.out.tab.keep h1' (by rintro a x ⟨rfl, -⟩; exact HG.out.rs.env.gr), HG.out.pos, HG.out.nB, HG.out.nr, HG.out.nb, HG.out.g⟩
    have HG1 := Lib.hid hG1; clear hG1
    have Hr1 := Lib.hid h2; clear h2
    clear h1 h1' c0 c2 Hr HB Hbq HG Hn Hm
    (refine hK _ _ ?_; clear hK K)
    repeat (first | (refine wpTxt_pure rfl rfl (fun K hK => ?_); go_simp; refine hK _ ?_; clear hK K) | (refine wpTxt_still rfl rfl (fun K hK => ?_); go_simp; refine hK _ ?_; clear hK K))
    refine wpTxt_nil ?_
    go_upto_block 2 with fail
    go_cut [10] (fun i wx => ∃ k o1 f1, k ≤ len ∧ i = .int .i64 k ∧ GM c b off n d p β w wx k o1 f1)
    case first =>
      go_wp2_with fail
      go_loopw [10] (fun i wx => ∃ k o1 f1 pr, k ≤ len ∧ i = .int .i64 k ∧ GM c b off n d p β w wx k o1 f1 ∧ (k < len → f1 = 0) ∧ Rdr wx c.rb c.ro c.b c.bo c.L c.C o1 pr) (fun i _ => len - (intOf i).toNat)
      case atStart => exact ⟨k, o1, f1, _, hk, rfl, HG1.out, hkf, Hr1.out⟩
      case round =>
        clear hkf Hr1 HG1 hk hpp
        obtain ⟨k2, o2, f2, pr, hk2, rfl, hG, hkf, hr⟩ := hrel
        have HG := Lib.hid hG; clear hG
        have Hr := Lib.hid hr; clear hr
        by_cases hlt : k2 < len
        · obtain rfl := hkf hlt
          obtain ⟨m, hm⟩ : ∃ m : Nat, m = min 1024 (len - k2) / 32 := ⟨_, rfl⟩
          have hm32 : m ≤ 32 := by omega
          obtain ⟨M, hM⟩ : ∃ M, M = 32 * m := ⟨_, rfl⟩
          have hmk : k2 + m * 32 ≤ len := by omega
          clear hkf
          go_upto_region 15 with fail
          go_cut [15] (fun v wx => v = .int .i64 M ∧ wr = wx)
          case first =>
            by_cases hsm : (len : Int) - k2 < 1024
            · have e32 : ((len : Int) - k2) / 32 * 32 = M := by omega
              have E32 := Lib.hid e32; clear e32 hm hM
              go_wp2_with fail
              go_meet
              rw [E32.out]
              exact ⟨rfl, rfl⟩
            · have hm' : M = 1024 := by omega
              subst hm'
              clear hm hM
              go_wp2_with fail
              go_meet
              exact ⟨rfl, rfl⟩
          case rest =>
          obtain ⟨rfl, rfl⟩ := hcut
          have Hmm := Lib.hid hm; clear hm
          by_cases hm0 : m = 0
          · have hm0' : (M : Int) = 0 := by omega
            clear hM
            go_wp2_with fail
            go_meet
            exact ⟨k2, o2, 0, hk2, rfl, HG.out⟩
          · obtain ⟨y, hy⟩ : ∃ y, y = 4 * m := ⟨_, rfl⟩
            have hm0' : ¬ (M : Int) = 0 := by omega
            have hy8 : (M : Int) / 8 = y := by omega
            have hy1 : 1 ≤ y := by omega
            have hmk2 := make_bytes y (by omega)
            have hy4 : (y : Int) / 4 * 4 = y := by omega
            have hyt : ((y : Nat) : Int).toNat = y := by omega
            have hy0 : 0 ≤ (y : Int) := by omega
            have hyp : 0 < (y : Int) := by omega
            have hyp' : 0 < y := by omega
            have Hy := Lib.hid hy; clear hy
            have HM := Lib.hid hM; clear hM
            have hBl := HG.out.rs.lt
            have hrl := HG.out.rs.rlt
            have hbl := HG.out.rs.blt (by have := HG.out.pos; omega)
            obtain ⟨buf, vb, hb, -⟩ := HG.out.rs.br
            have c0 := hb.rd
            have HB := Lib.hid hb; clear hb
            obtain ⟨X, hX⟩ : ∃ X, X = Obj.cells (madeCells #[.int .u8 0] y) 5 := ⟨_, rfl⟩
            have hcellsX : ∀ j, j < y → (wr.alloc X).cell? ⟨wr.heap.size, 0 + j, none⟩ = some (.int .u8 0) := fun j hj => by rw [hX, Nat.zero_add]; exact made_cell wr _ y j _ hj
            have hfrX : ∀ j, (wr.alloc X).frozen? ⟨wr.heap.size, j, none⟩ = false := fun j => by rw [hX]; simp
            rw [← hX] at hmk2
            have HX := Lib.hid hX
            have HcX := Lib.hid hcellsX
            have HfX := Lib.hid hfrX
            clear hX hcellsX hfrX
            have hoL : o2 + y ≤ c.L := by have := HG.out.pos; have := Hy.out; omega
            have hread := readFull_exact c.rb c.ro c.b c.bo c.L c.C wr.heap.size 0 y y o2 pr c.D (wr.alloc X).drew (Hr.out.alloc X).drew (HG.out.rs.env.data.bytes.alloc X) (by omega) hoL hL hC (by omega) (by omega) HG.out.rs.env.br (fun j hj => ⟨_, HcX.out j hj⟩) (fun j hj => HfX.out _) (by omega)
            have Hread := Lib.hid hread; clear hread
            go_wp2_with fail
            (refine wp_region_txt [] (by kernel_rfl) (by kernel_rfl) ?_; repeat (first | (refine wpTxt_pure rfl rfl (fun K hK => ?_); go_simp; refine hK _ ?_; clear hK K) | (refine wpTxt_still rfl rfl (fun K hK => ?_); go_simp; refine hK _ ?_; clear hK K)))
            refine wpTxt_effect rfl rfl (fun K hK => ?_); go_simp
            refine Hread.out.mono ?_
            rintro e w5 ⟨rfl, hch, hR5, hB5⟩
            have hch1 : Chg (fun a x => a = c.rb ∧ c.ro ≤ x ∧ x < c.ro + 3) wr w5 := hch.undrew.unalloc (by rintro a x ha (hh | hh); exact hh; omega)
            obtain ⟨pb, hpb⟩ : ∃ pb, pb = wr.heap.size := ⟨_, rfl⟩
            have hG5 : GM c b off n d p β w w5 k2 o2 0 :=
              ⟨HG.out.chg.trans (hch1.mono (fun _ _ _ hh => .inr (.inl hh))), HG.out.bm.keep hch1 (fun _ _ hh => HG.out.nr hh.1), HG.out.rs.seek hch1 (fun _ _ h => h.1) ⟨_, _, hR5⟩, HG.out.tab.keep hch1 (by rintro a x ⟨rfl, -⟩; exact HG.out.rs.env.gr), HG.out.pos, HG.out.nB, HG.out.nr, HG.out.nb, HG.out.g⟩
            have hP5 : Bmp w5 pb 0 y (fun i => bitS c.D p (k2 + i)) := by
              refine ⟨fun j hj => ⟨c.D (o2 + j), by rw [hpb]; exact hB5 j hj, HG.out.rs.env.data.lt _, fun t ht => ?_⟩, fun j hj => ?_⟩
              · rw [bit_tb _ _ _ ht]; unfold bitS
                rw [show p + (k2 + (8 * j + t)) = 8 * (o2 + j) + t by have := HG.out.pos; omega]
              · rw [hpb]; exact (hch.frozen _ _ (by simp)).trans (HfX.out _)
            have hpbb : pb ≠ b := by
              obtain ⟨x, hx, -⟩ := HG.out.bm.cell 0 (by omega)
              have h2 : b < wr.heap.size := World.block_lt_of_cell? wr _ hx
              omega
            have hpg : 8 < pb := by have := HG.out.rs.env.gB; omega
            have hB5' : ∀ j, j < y → w5.cell? ⟨pb, 0 + j, none⟩ = some (.int .u8 (c.D (o2 + j))) := by rw [hpb]; exact hB5
            have hu5 := hG5.rs.env.eofs.u
            have hbr5 := HB.out.keep hch1 (fun x hh => HG.out.rs.env.rB hh.1.symm)
            have HG5 := Lib.hid hG5
            have HP5 := Lib.hid hP5
            have HR5 := Lib.hid hR5
            have HB5 := Lib.hid hbr5
            have HC5 := Lib.hid hB5'
            rw [← hpb]
            clear hch hch1 hR5 hB5 hG5 hP5 hbr5 hB5' hBl hrl hbl c0 HB HG Hr HcX HfX HX Hread hmk2 hpb
            (refine hK _ _ ?_; clear hK K)
            repeat (first | (refine wpTxt_pure rfl rfl (fun K hK => ?_); go_simp; refine hK _ ?_; clear hK K) | (refine wpTxt_still rfl rfl (fun K hK => ?_); go_simp; refine hK _ ?_; clear hK K))
            refine wpTxt_nil ?_
            have heq := eql_nil_err
            go_upto_if 117 with fail
            have hdk0 : d + k2 + 8 * y ≤ 8 * n := by have := HM.out; have := Hy.out; omega
            have Hdk0 := Lib.hid hdk0
            clear hdk0
            go_cut [] (fun wx => Chg (RowS b off n) w5 wx ∧ Bmp wx b off n (copyB β (bitS c.D p) d (k2 + 8 * y)))
            case first =>
              by_cases hal : (d + k2) % 8 = 0
              · obtain ⟨q, hq⟩ : ∃ q, q = (d + k2) / 8 := ⟨_, rfl⟩
                have e1 : ((d : Int) + k2) % 8 = 0 := by omega
                have e2 : ((d : Int) + k2) / 8 = q := by omega
                have hqt : ((q : Nat) : Int).toNat = q := by omega
                have hq0 : 0 ≤ (q : Int) := by omega
                have hqn : (q : Int) ≤ n := by have := Hdk0.out; omega
                have hqnN : q ≤ n := by have := Hdk0.out; omega
                have hqc : ¬ (cap : Int) = q := by have := Hdk0.out; omega
                have hqcn : ¬ cap = q := by have := Hdk0.out; omega
                have hws : IntKind.i64.wrap ((d : Int) + k2) = (d : Int) + k2 := IntWalk.i64_in _ (by omega)
                have htd : ((d : Int) + k2).tdiv 8 = q := by rw [Int.tdiv_eq_ediv_of_nonneg (by omega)]; omega
                have hwq : IntKind.i64.wrap (q : Int) = q := IntWalk.i64_in _ (by omega)
                have Hq := Lib.hid hq
                clear hq
                have hqn2 : y ≤ n - q := by have := Hdk0.out; have := Hq.out; omega
                go_wp2_with fail
                (refine wp_region_txt [] (by kernel_rfl) (by kernel_rfl) ?_; repeat (first | (refine wpTxt_pure rfl rfl (fun K hK => ?_); go_simp; refine hK _ ?_; clear hK K) | (refine wpTxt_still rfl rfl (fun K hK => ?_); go_simp; refine hK _ ?_; clear hK K)))
                refine wpTxt_copy_chg rfl (.tmp 123) (.tmp 126) 28 28 rfl 5 Tryz.underlying28 (by kernel_rfl) _ _ _ _ _ _ rfl rfl y (Nat.min_eq_left hqn2) b (off + q) pb 0 (fun j => .int .u8 (c.D (o2 + j))) (fun _ => ⟨rfl, rfl⟩) ?c2 ?c3 ?c4 (fun _ _ => rfl) ?_
                case c2 => exact HC5.out
                case c3 => exact fun j hj => by obtain ⟨x, hx, -⟩ := HG5.out.bm.cell (q + j) (by omega); exact ⟨_, by rw [Nat.add_assoc]; exact hx⟩
                case c4 => exact fun j hj => by rw [Nat.add_assoc]; exact HG5.out.bm.fr (q + j) (by omega)
                intro w6 h6 v6
                have h6' := h6.undrew
                have hb6 := HG5.out.bm.setBits q y (fun i => bitS c.D p (k2 + i)) h6' (fun j hj => ⟨_, v6 j hj, HG5.out.rs.env.data.lt _, fun t ht => by
                  rw [bit_tb _ _ _ ht]; unfold bitS
                  rw [show p + (k2 + (8 * j + t)) = 8 * (o2 + j) + t by have := HG5.out.pos; omega]⟩)
                rw [show 8 * q = d + k2 by have := Hq.out; omega, copyB_two _ _ _ _ _ _ (fun t _ => rfl)] at hb6
                have H6 := Lib.hid (h6'.mono (S' := RowS b off n) (fun a x _ hh => ⟨hh.1, by have := hh.2; omega, by have := hh.2; omega⟩))
                have HB6 := Lib.hid hb6
                clear h6 h6' hb6 v6
                repeat (first | (refine wpTxt_pure rfl rfl (fun K hK => ?_); go_simp; refine hK _ ?_; clear hK K) | (refine wpTxt_still rfl rfl (fun K hK => ?_); go_simp; refine hK _ ?_; clear hK K))
                refine wpTxt_nil ?_
                go_wp2_with fail
                go_meet
                exact ⟨H6.out, HB6.out⟩
              · have e1 : ¬ ((d : Int) + k2) % 8 = 0 := by omega
                have hyb : y ≤ 128 := by have := Hy.out; omega
                have hcopy := copyBitmap0_ok pb 0 y y y b off n cap (d + k2) (8 * y) (copyB β (bitS c.D p) d k2) (fun i => bitS c.D p (k2 + i)) w5 HP5.out HG5.out.bm hpbb (by omega) (by omega) (by omega) (by omega) (by omega) (by omega) (by omega) (by omega) (by have := Hdk0.out; omega) hnc (by omega)
                rw [copyB_two _ _ _ _ _ _ (fun t _ => rfl)] at hcopy
                have hdk : (d : Int) + k2 = (d + k2 : Nat) := by push_cast; rfl
                have hy8' : (y : Int) * 8 = (8 * y : Nat) := by omega
                have Hdk := Lib.hid hdk
                have Hy8' := Lib.hid hy8'
                have Hcopy := Lib.hid hcopy
                clear hdk hcopy hy8'
                go_wp2_with fail
                rw [Hdk.out, Hy8'.out]
                refine Hcopy.out.mono ?_
                rintro e w6 ⟨rfl, h6, b6⟩
                have H6 := Lib.hid h6
                have HB6 := Lib.hid b6
                clear h6 b6
                go_wp2_with fail
                go_meet
                exact ⟨H6.out, HB6.out⟩
            case rest =>
            obtain ⟨h6, b6⟩ := hcut
            have hbr6 := HB5.out.keep h6 (by rintro x ⟨hh, -⟩; exact HG5.out.nB hh.symm)
            have hRS6 := HG5.out.rs.keep h6 (by rintro a x ⟨rfl, -⟩; exact ⟨HG5.out.nb, HG5.out.nr, HG5.out.nB, HG5.out.g⟩)
            have hT6 := HG5.out.tab.keep h6 (by rintro a x ⟨rfl, -⟩; exact HG5.out.g)
            have hR6 := HR5.out.keep h6 (by rintro j _ ⟨hh, -⟩; exact HG5.out.nr hh.symm)
            have c2 := hbr6.bo
            have f2 := hbr6.fr 2 (by omega)
            have hc7 := (Chg.refl (Own c.B) wc).own 2 (.int .i64 (o2 + y : Nat))
            have hR7 := hR6.keep hc7 (fun j _ hh => HG5.out.rs.env.rB hh)
            have hG7 : GM c b off n d p β w (wc.setCell ⟨c.B, 2, none⟩ (.int .i64 (o2 + y : Nat))) (k2 + 8 * y) (o2 + y) 0 := by
              refine ⟨(HG5.out.chg.trans (h6.mono (fun _ _ _ hh => .inr (.inr hh)))).trans (hc7.mono (fun _ _ _ hh => .inl hh)), b6.keep hc7 (fun _ _ hh => HG5.out.nB hh), ⟨hRS6.env.keepB hc7 (fun _ _ hh => hh), by omega, buf, vb, hbr6.off' (o2 + y), fun hh => by omega⟩, hT6.keep hc7 (by rintro a x rfl; exact HG5.out.rs.env.gB), by have := HG5.out.pos; omega, HG5.out.nB, HG5.out.nr, HG5.out.nb, HG5.out.g⟩
            have hoy : ((o2 + y : Nat) : Int) = (o2 : Int) + y := by push_cast; rfl
            rw [hoy] at hG7 hR7
            have hy128 : (y : Int) ≤ 128 := by have := Hy.out; omega
            have HG7 := Lib.hid hG7
            have HR7 := Lib.hid hR7
            clear h6 b6 hbr6 hRS6 hT6 hR6 hc7 hR7 hG7 hoy HG5 HP5 HR5 HB5 HC5
            go_wp2_with fail
            go_roundw
            case rel => exact ⟨k2 + 8 * y, o2 + y, 0, _, by have := Hdk0.out; have := HM.out; have := Hy.out; omega, by push_cast; rw [Int.mul_comm], HG7.out, fun _ => rfl, HR7.out⟩
            case measure => simp [intOf]; omega
        · go_wp2_with fail
          go_meet
          exact ⟨k2, o2, f2, hk2, rfl, HG.out⟩
    case rest =>
      clear hk hkf hpp
      obtain ⟨k2, o2, f2, hk2, rfl, hG⟩ := hcut
      obtain ⟨buf, vb, hb, -⟩ := hG.rs.br
      have hcall := fill_ok c o2 f2 buf vb wc hG.rs.env hb hG.rs.hf
      have Hcall := Lib.hid hcall
      have HG := Lib.hid hG
      clear hcall hG hb
      go_wp2_with fail
      refine Hcall.out.mono ?_
      rintro e w1 ⟨rfl, h1, h2⟩
      obtain ⟨g1, g2, g3⟩ := HG.out.read h1
      have hG1 : GM c b off n d p β w w1 k2 o2 f2 := ⟨g1, g2, h2.rs, g3, HG.out.pos, HG.out.nB, HG.out.nr, HG.out.nb, HG.out.g⟩
      have HG1 := Lib.hid hG1; clear hG1
      have H2 := Lib.hid h2; clear h2
      clear h1 HG Hcall g1 g2 g3
      go_wp2_with fail
      go_loopw [10] (fun i wx => ∃ k o1 f1, k ≤ len ∧ i = .int .i64 k ∧ GM c b off n d p β w wx k o1 f1 ∧ NS c wx o1 f1) (fun i _ => len - (intOf i).toNat)
      case atStart => exact ⟨k2, o2, f2, hk2, rfl, HG1.out, H2.out⟩
      case round =>
        obtain ⟨k, o1, f1, hk, rfl, hG, hN⟩ := hrel
        have HG := Lib.hid hG; clear hG
        have HN := Lib.hid hN; clear hN
        by_cases hlt : k < len
        · have hcall := next_ok c o1 f1 1 wr HN.out (by omega) (by have := HG.out.pos; omega)
          have Hcall := Lib.hid hcall; clear hcall
          go_wp2_with fail
          refine Hcall.out.mono ?_
          rintro e w1 ⟨rfl, h1, o2, f2, h2, -, h3⟩
          have hv := bitS_one c.D p k
          rw [← HG.out.pos] at hv
          obtain ⟨g1, g2, g3⟩ := HG.out.read h1
          have hset := setBitTo_ok b off n cap (d + k) (bitS c.D p k) _ w1 g3 g2 (by omega) (by omega) hnc
          have Hset := Lib.hid hset
          have H1 := Lib.hid h1
          have H2 := Lib.hid h2
          have H3 := Lib.hid h3
          clear h1 h2 h3 g1 g2 g3 hset
          have hdk : (d : Int) + k = (d + k : Nat) := by push_cast; rfl
          have Hdk := Lib.hid hdk
          clear hdk
          go_wp2_with fail
          rw [Hdk.out]
          refine Hset.out.mono ?_
          rintro e w4 ⟨rfl, h4, b4⟩
          have hN4 := H3.out.keep h4 (by rintro a x ⟨rfl, -⟩; exact ⟨HG.out.nb, HG.out.nr, HG.out.nB, HG.out.g⟩)
          have HG2 := Lib.hid (HG.out.one H1.out H3.out.rs H2.out h4 b4)
          have HN4 := Lib.hid hN4
          clear h4 b4 hN4
          go_wp2_with fail
          go_roundw
          case rel => exact ⟨k + 1, o2, f2, by omega, by go_num, HG2.out, HN4.out⟩
          case measure => simp [intOf]; omega
        · have hke : k = len := by omega
          subst hke
          go_wp2_with fail
          go_ret2
          exact ⟨rfl, HG.out.chg, HG.out.bm, o1, f1, HG.out.pos, HN.out⟩
end Go.Proofs.YtameepdbnnaaaaaGreatDoor
