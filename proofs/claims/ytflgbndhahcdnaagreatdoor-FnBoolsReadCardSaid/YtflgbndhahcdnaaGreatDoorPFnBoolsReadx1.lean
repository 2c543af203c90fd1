-- PRINTED BY print.sh 35421559b90ae4d0a3588c463048766b98c2df88dd9212a6774a882060cdf62d: not written by this session
import Derived.Test.YtflgbndhahcdnaaGreatDoorPFnBoolsReadx0
namespace Go.Proofs.YtflgbndhahcdnaaGreatDoor.PFnBoolsRead
open Go.RowKit Go.Proofs.YtflgbndhahcdnaaGreatDoorW.PrintWords Go.Proofs.YtflgbndhahcdnaaGreatDoorW.PrintLast Go.Proofs.YtflgbndhahcdnaaGreatDoorW.PrintMore
attribute [local go_sem] max2_int min2_int max_two min_two max_three min_three max_four min_four   -- for this text's walks alone
set_option linter.unusedVariables false
set_option linter.unusedSimpArgs false

-- NOT PRINTED: function 11 (impl_noNumbers_bool)

/-! ### encoding_newDecoderBase: function 28 -/
def encoding_newDecoderBase.f  : Option (Int × List Int × Int) := some (0, ([] : List Int), 0)
set_option maxHeartbeats 8000000 in
set_option maxRecDepth 100000 in
theorem encoding_newDecoderBase.calls  (r1 : Int) (r2 : List Int) (r3 : Int) (w : World) (h : encoding_newDecoderBase.f  = some (r1, r2, r3)) :
    Calls Tryz.prog 28 #[] w fun e w' => ∃ v1_ : Value, e = .returned (.agg #[.int .i64 r1, v1_, .int .i64 r3]) ∧ Kd.R (Kd.int .u8) 5 w' w.heap.size (fun _ => True) v1_ r2 ∧ Below w.heap.size w w' := by
  have hu60 := Tryz.underlying60
  have HB := Aside0.mk (Below.refl w.heap.size w)
  have H : (some (0, ([] : List Int), 0)) = some (r1, r2, r3) := h
  clear h
  simp only [Option.some.injEq, Prod.mk.injEq] at H
  obtain ⟨rfl, rfl, rfl⟩ := H
  go_enter Tryz.func28, Tryz.ntmps28
  go_wp2_with (first | ((with_reducible refine gate_dst (N := 0) rfl ?_); refine box_event ?hg (N := 0) ?hd (cs := #[.int .i64 0, .slice none 0 0, .int .i64 0]) (t := 60) ?hr ?_; (case hd => rfl); (case hg => rfl); (case hr => first | (go_simp; done) | (go_simp; rfl)); intro gb101 hg w1 hbox hb; have n0_ := Aside0.mk (below_step (by repeat (first | (with_reducible first | exact HB.out | apply below_alloc | apply pw_below_drewN | apply below_drew1) | exact HB.out)) hb); have n1_ := Aside0.mk (hbox); have n2_ := Aside0.mk ((by rw [hg]; exact (below_size (by repeat (first | (with_reducible first | exact HB.out | apply below_alloc | apply pw_below_drewN | apply below_drew1) | exact HB.out))) : w.heap.size ≤ gb101)); have n3_ := Aside0.mk ((by rw [hg]; exact (below_size (by repeat (first | (with_reducible first | exact HB.out | apply below_alloc | apply pw_below_drewN | apply below_drew1) | exact HB.out))) : w.heap.size ≤ gb101)); clear HB; have HB := n0_; have BK101 := n1_; have GW101 := n2_; have GE101 := n3_; clear n0_ n1_ n2_ n3_; clear hb hbox hg; have hcz2_0 : w1.cell? ⟨gb101, 0, none⟩ = some (.int .i64 0) := (blk_cell BK101.out 0).trans rfl; have hcz2_1 : w1.cell? ⟨gb101, 1, none⟩ = some (.slice none 0 0) := (blk_cell BK101.out 1).trans rfl; have hcz2_2 : w1.cell? ⟨gb101, 2, none⟩ = some (.int .i64 0) := (blk_cell BK101.out 2).trans rfl; have hfz2_0 := blk_frozen BK101.out 0; have hfz2_1 := blk_frozen BK101.out 1; have hfz2_2 := blk_frozen BK101.out 2))
  refine bodyPost_ret (results_cell_row rfl _ _ gb101 60 #[.int .i64 0, .slice none 0 0, .int .i64 0] (0, 0) _ rfl (by (with_reducible repeat (first | refine blk_drewN ?_ _ | refine blk_drew ?_ | refine blk_alloc ?_ _)); refine blk_put (cs := #[.int .i64 0, .slice none 0 0, .int .i64 0]) ?_ 2 _ rfl; (with_reducible repeat (first | refine blk_drewN ?_ _ | refine blk_drew ?_ | refine blk_alloc ?_ _)); refine blk_put (cs := #[.int .i64 0, .slice none 0 0, .int .i64 0]) ?_ 1 _ rfl; (with_reducible repeat (first | refine blk_drewN ?_ _ | refine blk_drew ?_ | refine blk_alloc ?_ _)); refine blk_put (cs := #[.int .i64 0, .slice none 0 0, .int .i64 0]) ?_ 0 _ rfl; (with_reducible repeat (first | refine blk_drewN ?_ _ | refine blk_drew ?_ | refine blk_alloc ?_ _)); exact BK101.out) Tryz.underlying60 rfl (by kernel_rfl)) rfl ?_
  exact ⟨_, by first | rfl | (simp [errW_none, errW_some] <;> rfl) | (simp [*, errW_none, errW_some] <;> rfl), by first | exact Kd.R_nil _ _ _ _ _ | exact Kd.N_nil _ _ _ _ _ | exact Kd.V_nil _ _ _ _ _ | exact Kd.Q_nil _ _ _ _ _ | exact Kd.S_nil _ _ _ _ _, by repeat (first | (with_reducible first | exact HB.out | apply below_alloc | apply pw_below_drewN | apply below_drew1 | refine below_set ?_ GE101.out) | exact HB.out)⟩

-- NOT PRINTED: function 12 (encoding_NewRleBooleanDecoder)

-- NOT PRINTED: function 29 (errors_New)

-- NOT PRINTED: function 30 (binary_littleEndian_Uint32)

-- NOT PRINTED: function 43 (utils_NewBitReader)

-- NOT PRINTED: function 31 (utils_NewRleDecoder)

/-- A state of type 93 at block g of W; what its slices lead to came in by w0. -/
def IsS93 (w0 W : World) (g : Nat) (f0 : List Int) (f1 : Int) (f2 : Int) : Prop := ∃ A0 c0, W.heap[g]? = some (.cells #[.slice A0 f0.length c0, .int .i64 f1, .int .i64 f2] 93 (0, 0)) ∧ w0.heap.size ≤ g ∧ Kd.C (Kd.int .u8) w0 A0 f0.length f0
theorem IsS93.grown {w0 W : World} {g : Nat} {f0 : List Int} {f1 : Int} {f2 : Int} {W1 : World} {row : Option Nat} (h : IsS93 w0 W g f0 f1 f2) (hw : W.grownBy W1 row) (hne : some g ≠ row) : IsS93 w0 W1 g f0 f1 f2 := by
  obtain ⟨A0, c0, hb, hg, hr0⟩ := h
  exact ⟨A0, c0, blk_grown hb hw hne, hg, hr0⟩
theorem IsS93.own_neN {w0 W : World} {g : Nat} {f0 : List Int} {f1 : Int} {f2 : Int} {α : Type} {d : Kd α} {e : Nat} {base : Nat} {ok : Nat → Prop} {v : Value} {xs : List α} (h : IsS93 w0 W g f0 f1 f2) (ho : Kd.N d e W base ok v xs) (ht : e ≠ 93) : some g ≠ v.ownBlock := by
  obtain ⟨A0, c0, hb, hg, hr0⟩ := h
  exact Kd.N_ne ho hb ht
theorem IsS93.fresh {w0 W : World} {g : Nat} {f0 : List Int} {f1 : Int} {f2 : Int} (h : IsS93 w0 W g f0 f1 f2) : ∀ k, W.heap.size ≤ k → k ≠ g := by
  obtain ⟨A0, c0, hb, hg, hr0⟩ := h
  exact Kd.freshB hb
theorem IsS93.kept {w0 W : World} {g : Nat} {f0 : List Int} {f1 : Int} {f2 : Int} {W1 : World} {S : Nat → Prop} (h : IsS93 w0 W g f0 f1 f2) (hk : Kept W W1 S) (hne : ¬ S g) : IsS93 w0 W1 g f0 f1 f2 := by
  obtain ⟨A0, c0, hb, hg, hr0⟩ := h
  exact ⟨A0, c0, blk_kept hb hk hne, hg, hr0⟩
theorem IsS93.below {w0 W : World} {g : Nat} {f0 : List Int} {f1 : Int} {f2 : Int} {W1 : World} (h : IsS93 w0 W g f0 f1 f2) (hw : Below W.heap.size W W1) : IsS93 w0 W1 g f0 f1 f2 := h.grown (grown_of_below hw none) (by simp)
theorem IsS93.alloc {w0 W : World} {g : Nat} {f0 : List Int} {f1 : Int} {f2 : Int} (h : IsS93 w0 W g f0 f1 f2) (o : Obj) : IsS93 w0 (W.alloc o) g f0 f1 f2 := h.below (below_alloc (Below.refl _ _) o)
theorem IsS93.drewN {w0 W : World} {g : Nat} {f0 : List Int} {f1 : Int} {f2 : Int} (h : IsS93 w0 W g f0 f1 f2) (m : Nat) : IsS93 w0 (W.drewN m) g f0 f1 f2 := h
theorem IsS93.drew {w0 W : World} {g : Nat} {f0 : List Int} {f1 : Int} {f2 : Int} (h : IsS93 w0 W g f0 f1 f2) : IsS93 w0 W.drew g f0 f1 f2 := h
theorem IsS93.at_ {w0 W : World} {g : Nat} {f0 : List Int} {f1 : Int} {f2 : Int} {w' : World} {m : Nat} (hq : W.drewN m = w') (h : IsS93 w0 W g f0 f1 f2) : IsS93 w0 w' g f0 f1 f2 := by subst hq; exact IsS93.drewN h m
theorem IsS93.apart {w0 W : World} {g : Nat} {f0 : List Int} {f1 : Int} {f2 : Int} {α : Type} {d : Kd α} {e : Nat} {base : Nat} {ok : Nat → Prop} {v : Value} {xs : List α} (h : IsS93 w0 W g f0 f1 f2) (ho : d.R e W base ok v xs) (ht : ∀ q, q ∈ e :: d.E → q ≠ 93) : d.R e W base (fun k => ok k ∧ k ≠ g) v xs := by
  obtain ⟨A0, c0, hb, hg, hr0⟩ := h
  exact Kd.R_types ho hb ht
theorem IsS93.own_ne {w0 W : World} {g : Nat} {f0 : List Int} {f1 : Int} {f2 : Int} {α : Type} {d : Kd α} {e : Nat} {base : Nat} {ok : Nat → Prop} {v : Value} {xs : List α} (h : IsS93 w0 W g f0 f1 f2) (ho : d.R e W base ok v xs) (ht : e ≠ 93) : some g ≠ v.ownBlock := by
  obtain ⟨A0, c0, hb, hg, hr0⟩ := h
  exact Kd.R_ne ho hb ht
theorem IsS93.apartQ {w0 W : World} {g : Nat} {f0 : List Int} {f1 : Int} {f2 : Int} {α : Type} {d : Kd α} {e : Nat} {base : Nat} {ok : Nat → Prop} {v : Value} {xs : List α} (h : IsS93 w0 W g f0 f1 f2) (ho : d.Q e W base ok v xs) (ht : ∀ q, q ∈ e :: d.E → q ≠ 93) : d.Q e W base (fun k => ok k ∧ k ≠ g) v xs := by
  obtain ⟨A0, c0, hb, hg, hr0⟩ := h
  exact Kd.Q_types ho hb ht
theorem IsS93.own_neQ {w0 W : World} {g : Nat} {f0 : List Int} {f1 : Int} {f2 : Int} {α : Type} {d : Kd α} {e : Nat} {base : Nat} {ok : Nat → Prop} {v : Value} {xs : List α} (h : IsS93 w0 W g f0 f1 f2) (ho : d.Q e W base ok v xs) (ht : e ≠ 93) : some g ≠ v.ownBlock := by
  obtain ⟨A0, c0, hb, hg, hr0⟩ := h
  exact Kd.Q_ne ho hb ht
theorem IsS93.apartS {w0 W : World} {g : Nat} {f0 : List Int} {f1 : Int} {f2 : Int} {α : Type} {d : Kd α} {e : Nat} {base : Nat} {ok : Nat → Prop} {v : Value} {xs : List α} (h : IsS93 w0 W g f0 f1 f2) (ho : d.S e W base ok v xs) (ht : ∀ q, q ∈ e :: d.E → q ≠ 93) : d.S e W base (fun k => ok k ∧ k ≠ g) v xs := by
  obtain ⟨A0, c0, hb, hg, hr0⟩ := h
  exact Kd.S_types ho hb ht
theorem IsS93.own_neS {w0 W : World} {g : Nat} {f0 : List Int} {f1 : Int} {f2 : Int} {α : Type} {d : Kd α} {e : Nat} {base : Nat} {ok : Nat → Prop} {v : Value} {xs : List α} (h : IsS93 w0 W g f0 f1 f2) (ho : d.S e W base ok v xs) (ht : e ≠ 93) : some g ≠ v.ownBlock := by
  obtain ⟨A0, c0, hb, hg, hr0⟩ := h
  exact Kd.S_ne ho hb ht
theorem IsS93.lt {w0 W : World} {g : Nat} {f0 : List Int} {f1 : Int} {f2 : Int} (h : IsS93 w0 W g f0 f1 f2) : g < W.heap.size := by
  obtain ⟨A0, c0, hb, hg, hr0⟩ := h
  exact blk_lt hb
theorem IsS93.ge {w0 W : World} {g : Nat} {f0 : List Int} {f1 : Int} {f2 : Int} (h : IsS93 w0 W g f0 f1 f2) : w0.heap.size ≤ g := by
  obtain ⟨A0, c0, hb, hg, hr0⟩ := h
  exact hg
theorem IsS93.ne_blk {w0 W : World} {g : Nat} {f0 : List Int} {f1 : Int} {f2 : Int} {a : Nat} {cs : Array Value} {t : TypeId} {fr : Nat × Nat} (h : IsS93 w0 W g f0 f1 f2) (hb2 : W.heap[a]? = some (.cells cs t fr)) (ht : t ≠ 93) : g ≠ a := by
  obtain ⟨A0, c0, hb, hg, hr0⟩ := h
  rintro rfl
  rw [hb] at hb2
  injection hb2 with hb2
  injection hb2 with _ ht2
  exact ht ht2.symm
theorem IsS93.far {w0 W : World} {g : Nat} {f0 : List Int} {f1 : Int} {f2 : Int} {p : Addr} (h : IsS93 w0 W g f0 f1 f2) (hne : g ≠ p.block) (u : Value) : IsS93 w0 (W.setCell p u) g f0 f1 f2 := by
  obtain ⟨A0, c0, hb, hg, hr0⟩ := h
  exact ⟨A0, c0, blk_far hb hne u, hg, hr0⟩
theorem cellS93_0 {W : World} {g : Nat} {A0 : Option Addr} {c0 : Nat} {f0 : List Int} {f1 : Int} {f2 : Int} (h : W.heap[g]? = some (.cells #[.slice A0 f0.length c0, .int .i64 f1, .int .i64 f2] 93 (0, 0))) : W.cell? ⟨g, 0, none⟩ = some (.slice A0 f0.length c0) := (blk_cell h 0).trans rfl
theorem cellS93_1 {W : World} {g : Nat} {A0 : Option Addr} {c0 : Nat} {f0 : List Int} {f1 : Int} {f2 : Int} (h : W.heap[g]? = some (.cells #[.slice A0 f0.length c0, .int .i64 f1, .int .i64 f2] 93 (0, 0))) : W.cell? ⟨g, 1, none⟩ = some (.int .i64 f1) := (blk_cell h 1).trans rfl
theorem IsS93.set_1 {w0 W : World} {g : Nat} {f0 : List Int} {f1 : Int} {f2 : Int} (h : IsS93 w0 W g f0 f1 f2) (x : Int) : IsS93 w0 (W.setCell ⟨g, 1, none⟩ (.int .i64 x)) g f0 x f2 := by
  obtain ⟨A0, c0, hb, hg, hr0⟩ := h
  exact ⟨A0, c0, by simpa using blk_set hb 1 (.int .i64 x), hg, hr0⟩
theorem cellS93_2 {W : World} {g : Nat} {A0 : Option Addr} {c0 : Nat} {f0 : List Int} {f1 : Int} {f2 : Int} (h : W.heap[g]? = some (.cells #[.slice A0 f0.length c0, .int .i64 f1, .int .i64 f2] 93 (0, 0))) : W.cell? ⟨g, 2, none⟩ = some (.int .i64 f2) := (blk_cell h 2).trans rfl
theorem IsS93.set_2 {w0 W : World} {g : Nat} {f0 : List Int} {f1 : Int} {f2 : Int} (h : IsS93 w0 W g f0 f1 f2) (x : Int) : IsS93 w0 (W.setCell ⟨g, 2, none⟩ (.int .i64 x)) g f0 f1 x := by
  obtain ⟨A0, c0, hb, hg, hr0⟩ := h
  exact ⟨A0, c0, by simpa using blk_set hb 2 (.int .i64 x), hg, hr0⟩
theorem IsS93.new (w0 W : World) (A0 : Option Addr) (c0 : Nat) (f0 : List Int) (f1 : Int) (f2 : Int) (hB : Below w0.heap.size w0 W) (hr0 : Kd.C (Kd.int .u8) w0 A0 f0.length f0) : IsS93 w0 (W.alloc (.cells #[.slice A0 f0.length c0, .int .i64 f1, .int .i64 f2] 93)) W.heap.size f0 f1 f2 := ⟨A0, c0, by simpa using heap_alloc_new W _, hB.size, hr0⟩

/-! ### bytes_NewReader: function 32 -/
def bytes_NewReader.f (l0 : List Int) : Option (List Int × Int × Int) := some (l0, 0, (-1))
set_option maxHeartbeats 8000000 in
set_option maxRecDepth 100000 in
theorem bytes_NewReader.calls (A0 : Option Addr) (c0 : Nat) (l0 : List Int) (r1 : List Int) (r2 : Int) (r3 : Int) (w0 w : World) (hB : Below w0.heap.size w0 w) (hr0 : Kd.C (Kd.int .u8) w0 A0 l0.length l0) (hc0 : l0.length ≤ c0) (h : bytes_NewReader.f l0 = some (r1, r2, r3)) :
    Calls Tryz.prog 32 #[.slice A0 l0.length c0] w fun e w' => ∃ g_ : Nat, e = .returned (.pointer (some ⟨g_, 0, none⟩)) ∧ IsS93 w0 w' g_ r1 r2 r3 ∧ Below w0.heap.size w0 w' ∧ Below w.heap.size w w' := by
  have hu93 := Tryz.underlying93
  have HR0 := Aside0.mk hr0
  have HC0 := Aside0.mk hc0
  clear hr0 hc0
  have HBW := Aside0.mk (Below.refl w.heap.size w)
  have HW0 := Aside0.mk hB.size
  have HB := Aside0.mk hB
  clear hB
  have H : (some (l0, 0, (-1))) = some (r1, r2, r3) := h
  clear h
  simp only [Option.some.injEq, Prod.mk.injEq] at H
  obtain ⟨rfl, rfl, rfl⟩ := H
  go_enter Tryz.func32, Tryz.ntmps32
  go_wp2_with (first | ((with_reducible refine gate_dst (N := 5) rfl ?_); refine box_event ?hg (N := 5) ?hd (cs := #[.slice A0 l0.length c0, .int .i64 0, .int .i64 (-1)]) (t := 93) ?hr ?_; (case hd => rfl); (case hg => rfl); (case hr => first | (go_simp; done) | (go_simp; rfl)); intro gb103 hg w2 hbox hb; have n0_ := Aside0.mk (below_step HBW.out hb); have n1_ := Aside0.mk (below_step (by repeat (first | (with_reducible first | exact HB.out | apply below_alloc | apply pw_below_drewN | apply below_drew1) | exact HB.out)) hb); have n2_ := Aside0.mk (hbox); have n3_ := Aside0.mk ((by rw [hg]; exact (below_size (by repeat (first | (with_reducible first | exact HBW.out | apply below_alloc | apply pw_below_drewN | apply below_drew1) | exact HBW.out))) : w.heap.size ≤ gb103)); have n4_ := Aside0.mk ((Nat.le_trans HW0.out (by rw [hg]; exact (below_size (by repeat (first | (with_reducible first | exact HBW.out | apply below_alloc | apply pw_below_drewN | apply below_drew1) | exact HBW.out))) : w.heap.size ≤ gb103) : w0.heap.size ≤ gb103)); clear HBW; clear HB; have HBW := n0_; have HB := n1_; have BK103 := n2_; have GW103 := n3_; have GE103 := n4_; clear n0_ n1_ n2_ n3_ n4_; clear hb hbox hg))
  go_ret
  exact ⟨_, rfl, (show IsS93 w0 _ gb103 l0 0 (-1) from ⟨_, _, by (with_reducible repeat (first | refine blk_drewN ?_ _ | refine blk_drew ?_ | refine blk_alloc ?_ _)); exact BK103.out, GE103.out, HR0.out⟩), by repeat (first | (with_reducible first | exact HB.out | apply below_alloc | apply pw_below_drewN | apply below_drew1 | refine below_set ?_ GE103.out) | exact HB.out), by repeat (first | (with_reducible first | exact HBW.out | apply below_alloc | apply pw_below_drewN | apply below_drew1 | refine below_set ?_ GW103.out) | exact HBW.out)⟩

-- NOT PRINTED: function 44 (utils_BitReader_Reset)

-- NOT PRINTED: function 33 (utils_RleDecoder_Reset)

-- NOT PRINTED: function 13 (encoding_RleBooleanDecoder_SetData)

/-! ### impl_copied: function 14 -/
def impl_copied.f (l0 : List Int) : Option (List Int) := (some (([] : List Int) : List Int)).bind fun y104 => (if y104.length + l0.length < 140737488355328 then (some (y104 ++ l0)) else (none))
set_option maxHeartbeats 8000000 in
set_option maxRecDepth 100000 in
theorem impl_copied.calls (A0 : Option Addr) (c0 : Nat) (l0 : List Int) (r : List Int) (w : World) (hr0 : Kd.C (Kd.int .u8) w A0 l0.length l0) (hc0 : l0.length ≤ c0) (h : impl_copied.f l0 = some r) :
    Calls Tryz.prog 14 #[.slice A0 l0.length c0] w fun e w' => ∃ v0_ : Value, e = .returned (v0_) ∧ Kd.R (Kd.int .u8) 5 w' w.heap.size (fun _ => True) v0_ r ∧ Below w.heap.size w w' := by
  have HR0 := Aside0.mk hr0
  have HC0 := Aside0.mk hc0
  clear hr0 hc0
  have HB := Aside0.mk (Below.refl w.heap.size w)
  have H : ((some (([] : List Int) : List Int)).bind fun y104 => (if y104.length + l0.length < 140737488355328 then (some (y104 ++ l0)) else (none))) = some r := h
  clear h
  obtain ⟨y104, hy104⟩ : ∃ y_ : List Int, y_ = (([] : List Int)) := ⟨_, rfl⟩
  replace H : (if y104.length + l0.length < 140737488355328 then (some (y104 ++ l0)) else (none)) = some r := by first | (rw [hy104]; with_reducible exact H) | (have H2_ := (Option.bind_some _ _).symm.trans H; rw [hy104]; with_reducible exact H2_) | (have H2_ := (Option.bind_some _ _).symm.trans H; with_reducible exact H2_) | with_reducible exact H | (rw [hy104]; exact H) | exact H
  have Ny104 := Aside0.mk hy104
  clear hy104
  by_cases c2 : y104.length + l0.length < 140737488355328
  · rw [if_pos c2] at H
    have LMc2 := Aside0.mk c2
    clear c2
    obtain ⟨y107, hy107⟩ : ∃ y_ : List Int, y_ = (y104 ++ l0) := ⟨_, rfl⟩
    replace H : (some y107) = some r := by first | (rw [hy107]; with_reducible exact H) | (have H2_ := (Option.bind_some _ _).symm.trans H; rw [hy107]; with_reducible exact H2_) | (have H2_ := (Option.bind_some _ _).symm.trans H; with_reducible exact H2_) | with_reducible exact H | (rw [hy107]; exact H) | exact H
    have Ny107 := Aside0.mk hy107
    clear hy107
    obtain rfl := Option.some.inj H
    go_enter Tryz.func14, Tryz.ntmps14
    go_wp2_with (first | ((with_reducible refine gate_dst (N := 3) rfl ?_); refine Kd.R_lit (Kd.int .u8) _ 5 ?hg (N := 3) ?hd (xs := ([] : List Int)) (inner := []) (ok := fun _ => True) (okp := fun _ => True) ?hr ?hp (fun _ hk => hk) trivial (Below.refl _ _) (Nat.le_refl _) (by simp) ?_; (case hd => rfl); (case hg => rfl); (case hr => first | (go_simp; done) | (go_simp; rfl)); (case hp => exact (Reps.none _ _)); intro v105 w3 ho4 hb hg_ hnew_; clear hg_ hnew_; (first | rw [← Ny104.out] at ho4 | (simp only [Int.reduceToNat] at ho4; rw [← Ny104.out] at ho4)); have n0_ := Aside0.mk (Kd.R_lower ho4 (below_size (by repeat (first | (with_reducible first | exact HB.out | apply below_alloc | apply pw_below_drewN | apply below_drew1) | exact HB.out)))); have n1_ := Aside0.mk (below_step (by repeat (first | (with_reducible first | exact HB.out | apply below_alloc | apply pw_below_drewN | apply below_drew1) | exact HB.out)) hb); clear HB; have HO106 := n0_; have HB := n1_; clear n0_ n1_; clear hb ho4) | ((with_reducible refine gate_builtin (b := .append) (xs := #[.tmp 3, .tmp 4]) rfl ?_); at_builtin; refine Kd.R_append_rows (Kd.int .u8) (w0 := w) w.heap.size rfl (.tmp 3) (.tmp 4) 26 5 (.int .u8 0) 1 rfl Tryz.underlying26 info5 rfl (by decide) (by omega) v105 y104 l0 _ _ _ (fun _ => True) (fun _ => False) rfl rfl ?aO ?aR (fun _ _ h => h) (fun _ h => h.elim) ?aF ?aB ?aS ?aL ?_; (case aR => repeat (first | exact (Kd.C_below HR0.out HB.out) | (with_reducible refine Kd.C_alloc ?_ _) | (with_reducible refine Kd.C_drewN ?_ _) | (with_reducible refine Kd.C_drew ?_))); (case aB => exact (by repeat (first | (with_reducible first | exact HB.out | apply below_alloc | apply pw_below_drewN | apply below_drew1) | exact HB.out))); (case aF => exact (fun _ _ => trivial)); (case aO => exact (by (with_reducible repeat (first | apply Kd.R_alloc | apply Kd.R_drewN | apply Kd.R_drew)); exact HO106.out)); (case aS => exact (below_size (by repeat (first | (with_reducible first | exact HB.out | apply below_alloc | apply pw_below_drewN | apply below_drew1) | exact HB.out)))); (case aL => have := LMc2.out; omega); intro v108 w5 ho hb hg hat; rw [← Ny107.out] at ho; have n0_ := Aside0.mk (hb); have n1_ := Aside0.mk (ho); clear HB; clear HO106; have HB := n0_; have HO109 := n1_; clear n0_ n1_; clear ho hb hg hat))
    go_ret
    exact ⟨_, by first | rfl | (simp [errW_none, errW_some] <;> rfl) | (simp [*, errW_none, errW_some] <;> rfl), by (with_reducible repeat (first | apply Kd.R_alloc | apply Kd.R_drewN | apply Kd.R_drew)); exact HO109.out, by repeat (first | (with_reducible first | exact HB.out | apply below_alloc | apply pw_below_drewN | apply below_drew1) | exact HB.out)⟩
  · rw [if_neg c2] at H
    exact absurd H (by simp)

-- NOT PRINTED: function 15 (impl_decoded_bool)

-- NOT PRINTED: function 18 (encoding_NewPlainBooleanDecoder)

-- NOT PRINTED: function 37 (encoding_decoder_SetData)

-- NOT PRINTED: function 19 (encoding_PlainBooleanDecoder_SetData)

-- NOT PRINTED: function 4 (impl_BoolsRead)

/-! ### spec_Batched: function 5 -/
mutual
def spec_Batched.l0 : Nat → List Int → List Int → Int → List Int → Int → Int → Option (List Int × Bool)
  | 0, _, _, _, _, _, _ => none
  | k + 1, x0, x6, x7, x14, x15, x16 => if x16 < x15 then (if 0 ≤ x16 then (if x16 < (x14.length : Int) then (if (rd x14 x16) < 0 then (spec_Batched.j1 k x0 x6 x7 (rd x14 x16) (wrap64 (-(rd x14 x16))) x14 x15 x16) else (spec_Batched.j1 k x0 x6 x7 (rd x14 x16) (rd x14 x16) x14 x15 x16)) else (none)) else (none)) else (some (x6, true))
def spec_Batched.j1 : Nat → List Int → List Int → Int → Int → Int → List Int → Int → Int → Option (List Int × Bool)
  | 0, _, _, _, _, _, _, _, _ => none
  | k + 1, x0, x6, x7, x9, x10, x14, x15, x16 => if x10 < 0 then (spec_Batched.j2 k x0 x6 x7 x9 x10 x14 x15 x16 true) else (spec_Batched.j2 k x0 x6 x7 x9 x10 x14 x15 x16 (decide (x10 > (wrap64 ((x0.length : Int) - x7)))))
def spec_Batched.j2 : Nat → List Int → List Int → Int → Int → Int → List Int → Int → Int → Bool → Option (List Int × Bool)
  | 0, _, _, _, _, _, _, _, _, _ => none
  | k + 1, x0, x6, x7, x9, x10, x14, x15, x16, x34 => if x34 = true then (some (([] : List Int), false)) else (if x9 > 0 then (if 0 ≤ x7 then (if x7 ≤ (wrap64 (x7 + x9)) then (if (wrap64 (x7 + x9)) ≤ (x0.length : Int) then (if x6.length + ((x0.take ((wrap64 (x7 + x9)) : Int).toNat).drop (x7 : Int).toNat).length < 17592186044416 then (spec_Batched.l0 k x0 (x6 ++ ((x0.take ((wrap64 (x7 + x9)) : Int).toNat).drop (x7 : Int).toNat)) (wrap64 (x7 + x10)) x14 x15 (wrap64 (x16 + 1))) else (none)) else (none)) else (none)) else (none)) else (spec_Batched.l0 k x0 x6 (wrap64 (x7 + x10)) x14 x15 (wrap64 (x16 + 1))))
end
def spec_Batched.f (k : Nat) (l0 : List Int) (l1 : List Int) : Option (List Int × Bool) := if (l1.length : Int) > 50 then (some (([] : List Int), false)) else (spec_Batched.l0 k l0 ([] : List Int) 0 l1 (l1.length : Int) 0)
theorem spec_Batched.mono_l : ∀ k, (∀ y0 y1 y2 y3 y4 y5, LeO (spec_Batched.l0 k y0 y1 y2 y3 y4 y5) (spec_Batched.l0 (k + 1) y0 y1 y2 y3 y4 y5)) ∧ (∀ y0 y1 y2 y3 y4 y5 y6 y7, LeO (spec_Batched.j1 k y0 y1 y2 y3 y4 y5 y6 y7) (spec_Batched.j1 (k + 1) y0 y1 y2 y3 y4 y5 y6 y7)) ∧ (∀ y0 y1 y2 y3 y4 y5 y6 y7 y8, LeO (spec_Batched.j2 k y0 y1 y2 y3 y4 y5 y6 y7 y8) (spec_Batched.j2 (k + 1) y0 y1 y2 y3 y4 y5 y6 y7 y8))
  | 0 => ⟨fun _ _ _ _ _ _ r h => by simp [spec_Batched.l0] at h, fun _ _ _ _ _ _ _ _ r h => by simp [spec_Batched.j1] at h, fun _ _ _ _ _ _ _ _ _ r h => by simp [spec_Batched.j2] at h⟩
  | k + 1 => by
    obtain ⟨ih0, ih1, ih2⟩ := spec_Batched.mono_l k
    refine ⟨?_, ?_, ?_⟩
    · intro y0 y1 y2 y3 y4 y5
      unfold spec_Batched.l0
      repeat' first
      | (with_reducible exact ih0 _ _ _ _ _ _)
      | (with_reducible exact ih1 _ _ _ _ _ _ _ _)
      | (with_reducible exact ih2 _ _ _ _ _ _ _ _ _)
      | (with_reducible exact LeO.refl _)
      | (with_reducible exact LeO.none _)
      | (with_reducible refine LeO.ite ?_ ?_)
      | (with_reducible refine LeO.bind ?_ (fun _ => ?_))
      | exact ih0 _ _ _ _ _ _
      | exact ih1 _ _ _ _ _ _ _ _
      | exact ih2 _ _ _ _ _ _ _ _ _
      | exact LeO.none _
      | refine LeO.ite ?_ ?_
      | refine LeO.bind ?_ (fun _ => ?_)
    · intro y0 y1 y2 y3 y4 y5 y6 y7
      unfold spec_Batched.j1
      repeat' first
      | (with_reducible exact ih0 _ _ _ _ _ _)
      | (with_reducible exact ih1 _ _ _ _ _ _ _ _)
      | (with_reducible exact ih2 _ _ _ _ _ _ _ _ _)
      | (with_reducible exact LeO.refl _)
      | (with_reducible exact LeO.none _)
      | (with_reducible refine LeO.ite ?_ ?_)
      | (with_reducible refine LeO.bind ?_ (fun _ => ?_))
      | exact ih0 _ _ _ _ _ _
      | exact ih1 _ _ _ _ _ _ _ _
      | exact ih2 _ _ _ _ _ _ _ _ _
      | exact LeO.none _
      | refine LeO.ite ?_ ?_
      | refine LeO.bind ?_ (fun _ => ?_)
    · intro y0 y1 y2 y3 y4 y5 y6 y7 y8
      unfold spec_Batched.j2
      repeat' first
      | (with_reducible exact ih0 _ _ _ _ _ _)
      | (with_reducible exact ih1 _ _ _ _ _ _ _ _)
      | (with_reducible exact ih2 _ _ _ _ _ _ _ _ _)
      | (with_reducible exact LeO.refl _)
      | (with_reducible exact LeO.none _)
      | (with_reducible refine LeO.ite ?_ ?_)
      | (with_reducible refine LeO.bind ?_ (fun _ => ?_))
      | exact ih0 _ _ _ _ _ _
      | exact ih1 _ _ _ _ _ _ _ _
      | exact ih2 _ _ _ _ _ _ _ _ _
      | exact LeO.none _
      | refine LeO.ite ?_ ?_
      | refine LeO.bind ?_ (fun _ => ?_)
theorem spec_Batched.mono : ∀ a0 a1 k, LeO (spec_Batched.f k a0 a1) (spec_Batched.f (k + 1) a0 a1) := by
  intro a0 a1 k
  obtain ⟨ih0, ih1, ih2⟩ := spec_Batched.mono_l k
  unfold spec_Batched.f
  repeat' first
      | (with_reducible exact ih0 _ _ _ _ _ _)
      | (with_reducible exact ih1 _ _ _ _ _ _ _ _)
      | (with_reducible exact ih2 _ _ _ _ _ _ _ _ _)
      | (with_reducible exact LeO.refl _)
      | (with_reducible exact LeO.none _)
      | (with_reducible refine LeO.ite ?_ ?_)
      | (with_reducible refine LeO.bind ?_ (fun _ => ?_))
      | exact ih0 _ _ _ _ _ _
      | exact ih1 _ _ _ _ _ _ _ _
      | exact ih2 _ _ _ _ _ _ _ _ _
      | exact LeO.none _
      | refine LeO.ite ?_ ?_
      | refine LeO.bind ?_ (fun _ => ?_)
set_option maxHeartbeats 8000000 in
set_option maxRecDepth 100000 in
theorem spec_Batched.calls (k : Nat) (A0 : Option Addr) (c0 : Nat) (l0 : List Int) (A1 : Option Addr) (c1 : Nat) (l1 : List Int) (r1 : List Int) (r2 : Bool) (w : World) (hr0 : Kd.C (Kd.int .u64) w A0 l0.length l0) (hc0 : l0.length ≤ c0) (hr1 : Kd.C (Kd.int .i64) w A1 l1.length l1) (hc1 : l1.length ≤ c1) (h : spec_Batched.f k l0 l1 = some (r1, r2)) :
    Calls Tryz.prog 5 #[.slice A0 l0.length c0, .slice A1 l1.length c1] w fun e w' => ∃ v0_ : Value, e = .returned (.tuple #[v0_, .bool r2]) ∧ Kd.R (Kd.int .u64) 55 w' w.heap.size (fun _ => True) v0_ r1 ∧ Below w.heap.size w w' := by
  have HR0 := Aside0.mk hr0
  have HC0 := Aside0.mk hc0
  clear hr0 hc0
  have HR1 := Aside0.mk hr1
  have HC1 := Aside0.mk hc1
  clear hr1 hc1
  have HB := Aside0.mk (Below.refl w.heap.size w)
  have H : (if (l1.length : Int) > 50 then (some (([] : List Int), false)) else (spec_Batched.l0 k l0 ([] : List Int) 0 l1 (l1.length : Int) 0)) = some (r1, r2) := h
  clear h
  by_cases c3 : (l1.length : Int) > 50
  · rw [if_pos c3] at H
    have c3b0 : decide (50 < (l1.length : Int)) = true := decide_eq_true c3
    have c3b1 : decide (50 < l1.length) = true := decide_eq_true (by omega)
    clear c3
    simp only [Option.some.injEq, Prod.mk.injEq] at H
    obtain ⟨rfl, rfl⟩ := H
    go_enter Tryz.func5, Tryz.ntmps5
    go_wp2
    go_ret2
    exact ⟨_, by first | rfl | (simp [errW_none, errW_some] <;> rfl) | (simp [*, errW_none, errW_some] <;> rfl), by first | exact Kd.R_nil _ _ _ _ _ | exact Kd.N_nil _ _ _ _ _ | exact Kd.V_nil _ _ _ _ _ | exact Kd.Q_nil _ _ _ _ _ | exact Kd.S_nil _ _ _ _ _, by repeat (first | (with_reducible first | exact HB.out | apply below_alloc | apply pw_below_drewN | apply below_drew1) | exact HB.out)⟩
  · rw [if_neg c3] at H
    have c3b0 : decide (50 < (l1.length : Int)) = false := decide_eq_false c3
    have c3b1 : decide (50 < l1.length) = false := decide_eq_false (by omega)
    clear c3
    have H' := Aside0.mk H
    clear H
    go_enter Tryz.func5, Tryz.ntmps5
    go_wp2
    go_loopg [6, 7, 16] k (fun kq v6 v7 v16 w' => ∃ (x6_1 : List Int) (x7_1 : Int) (x16_1 : Int), v7 = .int .i64 x7_1 ∧ v16 = .int .i64 x16_1 ∧ Aside0 (spec_Batched.l0 kq l0 x6_1 x7_1 l1 (l1.length : Int) x16_1 = some (r1, r2)) ∧ Aside0 (kq ≤ k) ∧ Aside0 (Kd.R (Kd.int .u64) 55 w' w.heap.size (fun _ => True) v6 x6_1) ∧ Aside0 (Below w.heap.size w w'))
    case atStart => exact ⟨(([] : List Int)), (0), (0), (by first | rfl | (simp; done) | (simp [*]; done)), (by first | rfl | (simp; done) | (simp [*]; done)), H', ⟨Nat.le_refl _⟩, ⟨by first | exact Kd.R_nil _ _ _ _ _ | exact Kd.N_nil _ _ _ _ _ | exact Kd.V_nil _ _ _ _ _ | exact Kd.Q_nil _ _ _ _ _ | exact Kd.S_nil _ _ _ _ _⟩, ⟨by repeat (first | (with_reducible first | exact HB.out | apply below_alloc | apply pw_below_drewN | apply below_drew1) | exact HB.out)⟩⟩
    case round =>
      clear H'
      try clear c1
      try clear p2
      try clear c3
      try clear c3b0
      try clear c3b1
      obtain ⟨x6_1, x7_1, x16_1, rfl, rfl, HA, HK1, HO_6, HB⟩ := hrel
      cases gk with
      | zero => exact absurd HA.out (by simp [spec_Batched.l0])
      | succ k1 =>
        have H := HA.out
        clear HA
        simp only [spec_Batched.l0] at H
        by_cases c4 : x16_1 < (l1.length : Int)
        · rw [if_pos c4] at H
          have c4b0 : decide (x16_1 < (l1.length : Int)) = true := decide_eq_true c4
          clear c4
          by_cases c5 : 0 ≤ x16_1
          · rw [if_pos c5] at H
            have c5b0 : decide (0 ≤ x16_1) = true := decide_eq_true c5
            clear c5
            by_cases c6 : x16_1 < (l1.length : Int)
            · rw [if_pos c6] at H
              have c6b0 : decide (x16_1 < (l1.length : Int)) = true := decide_eq_true c6
              clear c6
              have HC7 := Aside0.mk H
              clear H
              have p116 : 0 ≤ (x16_1 : Int) := of_decide_eq_true (by first | (with_reducible assumption) | assumption)
              have q116 : x16_1 < (l1.length : Int) := of_decide_eq_true (by first | (with_reducible assumption) | assumption)
              obtain ⟨ad116, e116, hx116_0⟩ := Kd.at_int HR1.out x16_1 p116 q116
              cases e116
              replace hx116_0 := (HB.out.cell (World.block_lt_of_cell? w _ hx116_0)).trans hx116_0
              replace p116 := eq_true p116
              replace q116 := eq_true q116
              go_upto_if 22 with (fail)
              go_cut [10] (fun v10 wc => ∃ (kq : Nat) (x10_6 : Int), v10 = .int .i64 x10_6 ∧ Aside0 (spec_Batched.j1 kq l0 x6_1 x7_1 (rd l1 x16_1) x10_6 l1 (l1.length : Int) x16_1 = some (r1, r2)) ∧ Aside0 (kq ≤ k1) ∧ Aside0 (Kd.R (Kd.int .u64) 55 wc w.heap.size (fun _ => True) u6 x6_1) ∧ Aside0 (Below w.heap.size w wc))
              case first =>
                have H := HC7.out
                clear HC7
                by_cases c8 : (rd l1 x16_1) < 0
                · rw [if_pos c8] at H
                  have c8b0 : decide ((rd l1 x16_1) < 0) = true := decide_eq_true c8
                  clear c8
                  (first | rw [c8b0] | (simp only [i64_w, i32_w]; rw [c8b0]) | skip)
                  have H' := Aside0.mk H
                  clear H
                  go_wp2
                  go_meet
                  case rel => exact ⟨_, (wrap64 (-(rd l1 x16_1))), (by first | rfl | (simp; done) | (simp [*]; done)), H', ⟨by have := HK1.out; first | omega | exact Nat.le_refl _⟩, ⟨by (with_reducible repeat (first | apply Kd.R_alloc | apply Kd.R_drewN | apply Kd.R_drew)); exact HO_6.out⟩, ⟨by repeat (first | (with_reducible first | exact HB.out | apply below_alloc | apply pw_below_drewN | apply below_drew1) | exact HB.out)⟩⟩
                · rw [if_neg c8] at H
                  have c8b0 : decide ((rd l1 x16_1) < 0) = false := decide_eq_false c8
                  clear c8
                  (first | rw [c8b0] | (simp only [i64_w, i32_w]; rw [c8b0]) | skip)
                  have H' := Aside0.mk H
                  clear H
                  go_wp2
                  go_meet
                  case rel => exact ⟨_, (rd l1 x16_1), (by first | rfl | (simp; done) | (simp [*]; done)), H', ⟨by have := HK1.out; first | omega | exact Nat.le_refl _⟩, ⟨by (with_reducible repeat (first | apply Kd.R_alloc | apply Kd.R_drewN | apply Kd.R_drew)); exact HO_6.out⟩, ⟨by repeat (first | (with_reducible first | exact HB.out | apply below_alloc | apply pw_below_drewN | apply below_drew1) | exact HB.out)⟩⟩
              case rest =>
                clear HC7
                try clear c1
                try clear p1
                try clear q1
                try clear hx1
                try clear p2
                try clear c3
                try clear c3b0
                try clear c3b1
                try clear c4
                try clear c4b0
                try clear c5
                try clear c5b0
                try clear c6
                try clear c6b0
                try clear p6
                try clear c8
                try clear c8b0
                try clear hx116_0
                try clear p116
                try clear p2
                try clear q116
                obtain ⟨kq, x10_6, rfl, HA, HJ6, HO_6, HB⟩ := hcut
                cases kq with
                | zero => exact absurd HA.out (by simp [spec_Batched.j1])
                | succ kj6 =>
                  have H := HA.out
                  clear HA
                  simp only [spec_Batched.j1] at H
                  have HC9 := Aside0.mk H
                  clear H
                  go_upto_region 11 with (fail)
                  go_cut [34] (fun v34 wc => ∃ (kq : Nat) (x34_8 : Bool), v34 = .bool x34_8 ∧ Aside0 (spec_Batched.j2 kq l0 x6_1 x7_1 (rd l1 x16_1) x10_6 l1 (l1.length : Int) x16_1 x34_8 = some (r1, r2)) ∧ Aside0 (kq ≤ kj6) ∧ Aside0 (Kd.R (Kd.int .u64) 55 wc w.heap.size (fun _ => True) u6 x6_1) ∧ Aside0 (Below w.heap.size w wc))
                  case first =>
                    have H := HC9.out
                    clear HC9
                    by_cases c10 : x10_6 < 0
                    · rw [if_pos c10] at H
                      have c10b0 : decide (x10_6 < 0) = true := decide_eq_true c10
                      clear c10
                      (first | rw [c10b0] | (simp only [i64_w, i32_w]; rw [c10b0]) | skip)
                      have H' := Aside0.mk H
                      clear H
                      go_wp2
                      go_meet
                      case rel => exact ⟨_, (true), (by first | rfl | (simp; done) | (simp [*]; done)), H', ⟨by have := HK1.out; have := HJ6.out; first | omega | exact Nat.le_refl _⟩, ⟨by (with_reducible repeat (first | apply Kd.R_alloc | apply Kd.R_drewN | apply Kd.R_drew)); exact HO_6.out⟩, ⟨by repeat (first | (with_reducible first | exact HB.out | apply below_alloc | apply pw_below_drewN | apply below_drew1) | exact HB.out)⟩⟩
                    · rw [if_neg c10] at H
                      have c10b0 : decide (x10_6 < 0) = false := decide_eq_false c10
                      clear c10
                      (first | rw [c10b0] | (simp only [i64_w, i32_w]; rw [c10b0]) | skip)
                      have H' := Aside0.mk H
                      clear H
                      go_wp2
                      go_meet
                      case rel => exact ⟨_, (decide (x10_6 > (wrap64 ((l0.length : Int) - x7_1)))), (by first | rfl | (simp; done) | (simp [*]; done)), H', ⟨by have := HK1.out; have := HJ6.out; first | omega | exact Nat.le_refl _⟩, ⟨by (with_reducible repeat (first | apply Kd.R_alloc | apply Kd.R_drewN | apply Kd.R_drew)); exact HO_6.out⟩, ⟨by repeat (first | (with_reducible first | exact HB.out | apply below_alloc | apply pw_below_drewN | apply below_drew1) | exact HB.out)⟩⟩
                  case rest =>
                    clear HC9
                    try clear c1
                    try clear p1
                    try clear q1
                    try clear hx1
                    try clear p2
                    try clear c3
                    try clear c3b0
                    try clear c3b1
                    try clear c4
                    try clear c4b0
                    try clear c5
                    try clear c5b0
                    try clear c6
                    try clear c6b0
                    try clear p6
                    try clear c8
                    try clear c8b0
                    try clear c10
                    try clear c10b0
                    try clear hx116_0
                    try clear p1
                    try clear p116
                    try clear p2
                    try clear p6
                    try clear q1
                    try clear q116
                    obtain ⟨kq, x34_8, rfl, HA, HJ8, HO_6, HB⟩ := hcut
                    cases kq with
                    | zero => exact absurd HA.out (by simp [spec_Batched.j2])
                    | succ kj8 =>
                      have H := HA.out
                      clear HA
                      simp only [spec_Batched.j2] at H
                      by_cases c11 : x34_8 = true
                      · subst c11
                        have H1 : (some (([] : List Int), false)) = some (r1, r2) := by rw [if_pos rfl] at H; exact H
                        clear H
                        have H := H1
                        clear H1
                        simp only [Option.some.injEq, Prod.mk.injEq] at H
                        obtain ⟨rfl, rfl⟩ := H
                        go_wp2
                        go_ret2
                        exact ⟨_, by first | rfl | (simp [errW_none, errW_some] <;> rfl) | (simp [*, errW_none, errW_some] <;> rfl), by first | exact Kd.R_nil _ _ _ _ _ | exact Kd.N_nil _ _ _ _ _ | exact Kd.V_nil _ _ _ _ _ | exact Kd.Q_nil _ _ _ _ _ | exact Kd.S_nil _ _ _ _ _, by repeat (first | (with_reducible first | exact HB.out | apply below_alloc | apply pw_below_drewN | apply below_drew1) | exact HB.out)⟩
                      · replace c11 := Bool.eq_false_iff.mpr c11
                        subst c11
                        have H1 : (if (rd l1 x16_1) > 0 then (if 0 ≤ x7_1 then (if x7_1 ≤ (wrap64 (x7_1 + (rd l1 x16_1))) then (if (wrap64 (x7_1 + (rd l1 x16_1))) ≤ (l0.length : Int) then (if x6_1.length + ((l0.take ((wrap64 (x7_1 + (rd l1 x16_1))) : Int).toNat).drop (x7_1 : Int).toNat).length < 17592186044416 then (spec_Batched.l0 kj8 l0 (x6_1 ++ ((l0.take ((wrap64 (x7_1 + (rd l1 x16_1))) : Int).toNat).drop (x7_1 : Int).toNat)) (wrap64 (x7_1 + x10_6)) l1 (l1.length : Int) (wrap64 (x16_1 + 1))) else (none)) else (none)) else (none)) else (none)) else (spec_Batched.l0 kj8 l0 x6_1 (wrap64 (x7_1 + x10_6)) l1 (l1.length : Int) (wrap64 (x16_1 + 1)))) = some (r1, r2) := by rw [if_neg (show ¬ (false = true) by decide)] at H; exact H
                        clear H
                        have H := H1
                        clear H1
                        by_cases c12 : (rd l1 x16_1) > 0
                        · rw [if_pos c12] at H
                          have c12b0 : decide (0 < (rd l1 x16_1)) = true := decide_eq_true c12
                          clear c12
                          by_cases c13 : 0 ≤ x7_1
                          · rw [if_pos c13] at H
                            have c13b0 := eq_true c13
                            have c13b1 : decide (0 ≤ x7_1) = true := decide_eq_true c13
                            clear c13
                            by_cases c14 : x7_1 ≤ (wrap64 (x7_1 + (rd l1 x16_1)))
                            · rw [if_pos c14] at H
                              have c14b0 := eq_true c14
                              have c14b1 : decide (x7_1 ≤ (wrap64 (x7_1 + (rd l1 x16_1)))) = true := decide_eq_true c14
                              by_cases c15 : (wrap64 (x7_1 + (rd l1 x16_1))) ≤ (l0.length : Int)
                              · rw [if_pos c15] at H
                                have c15b0 := eq_true c15
                                have c15b1 : decide ((wrap64 (x7_1 + (rd l1 x16_1))) ≤ (l0.length : Int)) = true := decide_eq_true c15
                                by_cases c16 : x6_1.length + ((l0.take ((wrap64 (x7_1 + (rd l1 x16_1))) : Int).toNat).drop (x7_1 : Int).toNat).length < 17592186044416
                                · rw [if_pos c16] at H
                                  have LMc16 := Aside0.mk c16
                                  clear c16
                                  obtain ⟨y118, hy118⟩ : ∃ y_ : List Int, y_ = (x6_1 ++ ((l0.take ((wrap64 (x7_1 + (rd l1 x16_1))) : Int).toNat).drop (x7_1 : Int).toNat)) := ⟨_, rfl⟩
                                  replace H : (spec_Batched.l0 kj8 l0 y118 (wrap64 (x7_1 + x10_6)) l1 (l1.length : Int) (wrap64 (x16_1 + 1))) = some (r1, r2) := by first | (rw [hy118]; with_reducible exact H) | (have H2_ := (Option.bind_some _ _).symm.trans H; rw [hy118]; with_reducible exact H2_) | (have H2_ := (Option.bind_some _ _).symm.trans H; with_reducible exact H2_) | with_reducible exact H | (rw [hy118]; exact H) | exact H
                                  have Ny118 := Aside0.mk hy118
                                  clear hy118
                                  have H' := Aside0.mk H
                                  clear H
                                  obtain ⟨i017, hi017, _, hsz17, _⟩ := info_parts info55
                                  obtain ⟨A17, hcut17, hA17, hC17⟩ := print_mid_of (P := Tryz.prog) (Value.int .u64) 0 27 55 .i64 .i64 Tryz.underlying27 hi017 hsz17 A0 c0 l0 x7_1 (wrap64 (x7_1 + (rd l1 x16_1))) (of_decide_eq_true (by first | (with_reducible assumption) | assumption)) (by first | omega | exact of_decide_eq_true (by first | (with_reducible assumption) | assumption)) (of_decide_eq_true (by first | (with_reducible assumption) | assumption)) HC0.out
                                  have HR117 := Aside0.mk (Kd.C_of_reads (h1 := fun _ => rfl) (hA17 _ (Kd.reads_of_C HR0.out)))
                                  have HC117 := Aside0.mk hC17
                                  clear hA17 hC17 hi017 hsz17
                                  go_wp2_with (first | ((with_reducible refine gate_builtin (b := .append) (xs := #[.tmp 37, .tmp 43]) rfl ?_); (try (refine gate_guard (by rfl) ?_; dsimp only)); at_builtin; refine Kd.R_append_rows (Kd.int .u64) (w0 := w) w.heap.size rfl (.tmp 37) (.tmp 43) 27 55 (.int .u64 0) 8 rfl Tryz.underlying27 info55 rfl (by decide) (by omega) u6 x6_1 ((l0.take ((wrap64 (x7_1 + (rd l1 x16_1))) : Int).toNat).drop (x7_1 : Int).toNat) _ _ _ (fun _ => True) (fun _ => False) rfl rfl ?aO ?aR (fun _ _ h => h) (fun _ h => h.elim) ?aF ?aB ?aS ?aL ?_; (case aR => first | (rw [← show ((l0.take ((wrap64 (x7_1 + (rd l1 x16_1))) : Int).toNat).drop (x7_1 : Int).toNat).length = ((wrap64 (x7_1 + (rd l1 x16_1))).toNat - x7_1.toNat) from (by rw [List.length_drop, List.length_take]; have h_ : ((wrap64 (x7_1 + (rd l1 x16_1))) : Int) ≤ (l0.length : Int) := of_decide_eq_true (by first | (with_reducible assumption) | assumption); omega)]; repeat (first | exact (Kd.C_below HR117.out HB.out) | (with_reducible refine Kd.C_alloc ?_ _) | (with_reducible refine Kd.C_drewN ?_ _) | (with_reducible refine Kd.C_drew ?_))) | (repeat (first | exact (Kd.C_below HR117.out HB.out) | (with_reducible refine Kd.C_alloc ?_ _) | (with_reducible refine Kd.C_drewN ?_ _) | (with_reducible refine Kd.C_drew ?_)))); (case aB => exact (by repeat (first | (with_reducible first | exact HB.out | apply below_alloc | apply pw_below_drewN | apply below_drew1) | exact HB.out))); (case aF => exact (fun _ _ => trivial)); (case aO => exact (by (with_reducible repeat (first | apply Kd.R_alloc | apply Kd.R_drewN | apply Kd.R_drew)); exact HO_6.out)); (case aS => exact (below_size (by repeat (first | (with_reducible first | exact HB.out | apply below_alloc | apply pw_below_drewN | apply below_drew1) | exact HB.out)))); (case aL => have := LMc16.out; have hlx_ := (show ((l0.take ((wrap64 (x7_1 + (rd l1 x16_1))) : Int).toNat).drop (x7_1 : Int).toNat).length = ((wrap64 (x7_1 + (rd l1 x16_1))).toNat - x7_1.toNat) from (by rw [List.length_drop, List.length_take]; have h_ : ((wrap64 (x7_1 + (rd l1 x16_1))) : Int) ≤ (l0.length : Int) := of_decide_eq_true (by first | (with_reducible assumption) | assumption); omega)); omega); intro v119 w18 ho hb hg hat; rw [← Ny118.out] at ho; have n0_ := Aside0.mk (hb); have n1_ := Aside0.mk (ho); clear HB; clear HO_6; have HB := n0_; have HO120 := n1_; clear n0_ n1_; clear ho hb hg hat))
                                  go_roundg kj8
                                  case measure => have := HK1.out; have := HJ6.out; have := HJ8.out; omega
                                  case rel => exact ⟨(y118), (wrap64 (x7_1 + x10_6)), (wrap64 (x16_1 + 1)), (by first | rfl | (simp; done) | (simp [*]; done)), (by first | rfl | (simp; done) | (simp [*]; done)), H', ⟨by have := HK1.out; have := HJ6.out; have := HJ8.out; omega⟩, ⟨by (with_reducible repeat (first | apply Kd.R_alloc | apply Kd.R_drewN | apply Kd.R_drew)); exact HO120.out⟩, ⟨by repeat (first | (with_reducible first | exact HB.out | apply below_alloc | apply pw_below_drewN | apply below_drew1) | exact HB.out)⟩⟩
                                · rw [if_neg c16] at H
                                  exact absurd H (by simp)
                              · rw [if_neg c15] at H
                                exact absurd H (by simp)
                            · rw [if_neg c14] at H
                              exact absurd H (by simp)
                          · rw [if_neg c13] at H
                            exact absurd H (by simp)
                        · rw [if_neg c12] at H
                          have c12b0 : decide (0 < (rd l1 x16_1)) = false := decide_eq_false c12
                          clear c12
                          have H' := Aside0.mk H
                          clear H
                          go_wp2
                          go_roundg kj8
                          case measure => have := HK1.out; have := HJ6.out; have := HJ8.out; omega
                          case rel => exact ⟨(x6_1), (wrap64 (x7_1 + x10_6)), (wrap64 (x16_1 + 1)), (by first | rfl | (simp; done) | (simp [*]; done)), (by first | rfl | (simp; done) | (simp [*]; done)), H', ⟨by have := HK1.out; have := HJ6.out; have := HJ8.out; omega⟩, ⟨by (with_reducible repeat (first | apply Kd.R_alloc | apply Kd.R_drewN | apply Kd.R_drew)); exact HO_6.out⟩, ⟨by repeat (first | (with_reducible first | exact HB.out | apply below_alloc | apply pw_below_drewN | apply below_drew1) | exact HB.out)⟩⟩
            · rw [if_neg c6] at H
              exact absurd H (by simp)
          · rw [if_neg c5] at H
            exact absurd H (by simp)
        · rw [if_neg c4] at H
          have c4b0 : decide (x16_1 < (l1.length : Int)) = false := decide_eq_false c4
          clear c4
          simp only [Option.some.injEq, Prod.mk.injEq] at H
          obtain ⟨rfl, rfl⟩ := H
          go_wp2
          go_ret2
          exact ⟨_, by first | rfl | (simp [errW_none, errW_some] <;> rfl) | (simp [*, errW_none, errW_some] <;> rfl), by (with_reducible repeat (first | apply Kd.R_alloc | apply Kd.R_drewN | apply Kd.R_drew)); exact HO_6.out, by repeat (first | (with_reducible first | exact HB.out | apply below_alloc | apply pw_below_drewN | apply below_drew1) | exact HB.out)⟩

/-! ### laws_asNumbers: function 6 -/
def laws_asNumbers.l0 : Nat → List Int → List Bool → Int → Int → Option (List Int)
  | 0, _, _, _, _ => none
  | k + 1, x3, x7, x8, x9 => if x9 < x8 then (if 0 ≤ x9 then (if x9 < (x7.length : Int) then (if rdOf false x7 x9 = true then (if x3.length < 17592186044416 then (laws_asNumbers.l0 k (x3 ++ [1]) x7 x8 (wrap64 (x9 + 1))) else (none)) else (if x3.length < 17592186044416 then (laws_asNumbers.l0 k (x3 ++ [0]) x7 x8 (wrap64 (x9 + 1))) else (none))) else (none)) else (none)) else (some x3)
def laws_asNumbers.f (k : Nat) (l0 : List Bool) : Option (List Int) := laws_asNumbers.l0 k ([] : List Int) l0 (l0.length : Int) 0
theorem laws_asNumbers.mono_l : ∀ k, (∀ y0 y1 y2 y3, LeO (laws_asNumbers.l0 k y0 y1 y2 y3) (laws_asNumbers.l0 (k + 1) y0 y1 y2 y3))
  | 0 => fun _ _ _ _ r h => by simp [laws_asNumbers.l0] at h
  | k + 1 => by
    have ih0 := laws_asNumbers.mono_l k
    · intro y0 y1 y2 y3
      unfold laws_asNumbers.l0
      repeat' first
      | (with_reducible exact ih0 _ _ _ _)
      | (with_reducible exact LeO.refl _)
      | (with_reducible exact LeO.none _)
      | (with_reducible refine LeO.ite ?_ ?_)
      | (with_reducible refine LeO.bind ?_ (fun _ => ?_))
      | exact ih0 _ _ _ _
      | exact LeO.none _
      | refine LeO.ite ?_ ?_
      | refine LeO.bind ?_ (fun _ => ?_)
theorem laws_asNumbers.mono : ∀ a0 k, LeO (laws_asNumbers.f k a0) (laws_asNumbers.f (k + 1) a0) := by
  intro a0 k
  have ih0 := laws_asNumbers.mono_l k
  unfold laws_asNumbers.f
  repeat' first
      | (with_reducible exact ih0 _ _ _ _)
      | (with_reducible exact LeO.refl _)
      | (with_reducible exact LeO.none _)
      | (with_reducible refine LeO.ite ?_ ?_)
      | (with_reducible refine LeO.bind ?_ (fun _ => ?_))
      | exact ih0 _ _ _ _
      | exact LeO.none _
      | refine LeO.ite ?_ ?_
      | refine LeO.bind ?_ (fun _ => ?_)
set_option maxHeartbeats 8000000 in
set_option maxRecDepth 100000 in
theorem laws_asNumbers.calls (k : Nat) (A0 : Option Addr) (c0 : Nat) (l0 : List Bool) (r : List Int) (w : World) (hr0 : Kd.C Kd.bool w A0 l0.length l0) (hc0 : l0.length ≤ c0) (h : laws_asNumbers.f k l0 = some r) :
    Calls Tryz.prog 6 #[.slice A0 l0.length c0] w fun e w' => ∃ v0_ : Value, e = .returned (v0_) ∧ Kd.R (Kd.int .u64) 55 w' w.heap.size (fun _ => True) v0_ r ∧ Below w.heap.size w w' := by
  have HR0 := Aside0.mk hr0
  have HC0 := Aside0.mk hc0
  clear hr0 hc0
  have HB := Aside0.mk (Below.refl w.heap.size w)
  have H : (laws_asNumbers.l0 k ([] : List Int) l0 (l0.length : Int) 0) = some r := h
  clear h
  have H' := Aside0.mk H
  clear H
  go_enter Tryz.func6, Tryz.ntmps6
  go_wp2
  go_loopg [3, 9] k (fun kq v3 v9 w' => ∃ (x3_1 : List Int) (x9_1 : Int), v9 = .int .i64 x9_1 ∧ Aside0 (laws_asNumbers.l0 kq x3_1 l0 (l0.length : Int) x9_1 = some r) ∧ Aside0 (kq ≤ k) ∧ Aside0 (Kd.R (Kd.int .u64) 55 w' w.heap.size (fun _ => True) v3 x3_1) ∧ Aside0 (Below w.heap.size w w'))
  case atStart => exact ⟨(([] : List Int)), (0), (by first | rfl | (simp; done) | (simp [*]; done)), H', ⟨Nat.le_refl _⟩, ⟨by first | exact Kd.R_nil _ _ _ _ _ | exact Kd.N_nil _ _ _ _ _ | exact Kd.V_nil _ _ _ _ _ | exact Kd.Q_nil _ _ _ _ _ | exact Kd.S_nil _ _ _ _ _⟩, ⟨by repeat (first | (with_reducible first | exact HB.out | apply below_alloc | apply pw_below_drewN | apply below_drew1) | exact HB.out)⟩⟩
  case round =>
    clear H'
    obtain ⟨x3_1, x9_1, rfl, HA, HK1, HO_3, HB⟩ := hrel
    cases gk with
    | zero => exact absurd HA.out (by simp [laws_asNumbers.l0])
    | succ k1 =>
      have H := HA.out
      clear HA
      simp only [laws_asNumbers.l0] at H
      by_cases c2 : x9_1 < (l0.length : Int)
      · rw [if_pos c2] at H
        have c2b0 : decide (x9_1 < (l0.length : Int)) = true := decide_eq_true c2
        clear c2
        by_cases c3 : 0 ≤ x9_1
        · rw [if_pos c3] at H
          have c3b0 : decide (0 ≤ x9_1) = true := decide_eq_true c3
          clear c3
          by_cases c4 : x9_1 < (l0.length : Int)
          · rw [if_pos c4] at H
            have c4b0 : decide (x9_1 < (l0.length : Int)) = true := decide_eq_true c4
            clear c4
            obtain ⟨bq5, hbq5⟩ : ∃ b_ : Bool, b_ = (rdOf false l0 x9_1) := ⟨_, rfl⟩
            replace H : (if bq5 = true then (if x3_1.length < 17592186044416 then (laws_asNumbers.l0 k1 (x3_1 ++ [1]) l0 (l0.length : Int) (wrap64 (x9_1 + 1))) else (none)) else (if x3_1.length < 17592186044416 then (laws_asNumbers.l0 k1 (x3_1 ++ [0]) l0 (l0.length : Int) (wrap64 (x9_1 + 1))) else (none))) = some r := by rw [← hbq5] at H; exact H
            have Nbq5 := Aside0.mk hbq5
            clear hbq5
            by_cases c6 : bq5 = true
            · subst c6
              have H1 : (if x3_1.length < 17592186044416 then (laws_asNumbers.l0 k1 (x3_1 ++ [1]) l0 (l0.length : Int) (wrap64 (x9_1 + 1))) else (none)) = some r := by rw [if_pos rfl] at H; exact H
              clear H
              have H := H1
              clear H1
              by_cases c7 : x3_1.length < 17592186044416
              · rw [if_pos c7] at H
                have LMc7 := Aside0.mk c7
                clear c7
                obtain ⟨y122, hy122⟩ : ∃ y_ : List Int, y_ = (x3_1 ++ [1]) := ⟨_, rfl⟩
                replace H : (laws_asNumbers.l0 k1 y122 l0 (l0.length : Int) (wrap64 (x9_1 + 1))) = some r := by first | (rw [hy122]; with_reducible exact H) | (have H2_ := (Option.bind_some _ _).symm.trans H; rw [hy122]; with_reducible exact H2_) | (have H2_ := (Option.bind_some _ _).symm.trans H; with_reducible exact H2_) | with_reducible exact H | (rw [hy122]; exact H) | exact H
                have Ny122 := Aside0.mk hy122
                clear hy122
                have H' := Aside0.mk H
                clear H
                have p121 : 0 ≤ (x9_1 : Int) := of_decide_eq_true (by first | (with_reducible assumption) | assumption)
                have q121 : x9_1 < (l0.length : Int) := of_decide_eq_true (by first | (with_reducible assumption) | assumption)
                obtain ⟨ad121, e121, hx121_0⟩ := Kd.at_bool HR0.out x9_1 p121 q121
                (try rw [← Nbq5.out] at hx121_0)
                cases e121
                replace hx121_0 := (HB.out.cell (World.block_lt_of_cell? w _ hx121_0)).trans hx121_0
                replace p121 := eq_true p121
                replace q121 := eq_true q121
                go_wp2_with (first | ((with_reducible refine gate_builtin (b := .append) (xs := #[.tmp 14, .tmp 16]) rfl ?_); at_builtin; refine Kd.R_append (Kd.int .u64) (w0 := w) w.heap.size rfl (.tmp 14) (.tmp 16) 27 55 (.int .u64 0) 8 rfl Tryz.underlying27 info55 rfl (by decide) (by omega) u3 x3_1 1 [.int .u64 1] (fun _ => True) (fun _ => False) rfl rfl ?aP (fun _ hk => hk.elim) ?aF ?aO ?aB ?aS ?aL ?_; (case aP => exact rfl); (case aB => exact (by repeat (first | (with_reducible first | exact HB.out | apply below_alloc | apply pw_below_drewN | apply below_drew1) | exact HB.out))); (case aF => exact (fun _ _ => trivial)); (case aO => exact (by (with_reducible repeat (first | apply Kd.R_alloc | apply Kd.R_drewN | apply Kd.R_drew)); exact HO_3.out)); (case aS => exact (below_size (by repeat (first | (with_reducible first | exact HB.out | apply below_alloc | apply pw_below_drewN | apply below_drew1) | exact HB.out)))); (case aL => have := LMc7.out; omega); intro v123 w8 ho hb hg hat; rw [← Ny122.out] at ho; have n0_ := Aside0.mk (hb); have n1_ := Aside0.mk (ho); clear HB; clear HO_3; have HB := n0_; have HO124 := n1_; clear n0_ n1_; clear ho hb hg hat))
                go_roundg k1
                case measure => have := HK1.out; omega
                case rel => exact ⟨(y122), (wrap64 (x9_1 + 1)), (by first | rfl | (simp; done) | (simp [*]; done)), H', ⟨by have := HK1.out; omega⟩, ⟨by (with_reducible repeat (first | apply Kd.R_alloc | apply Kd.R_drewN | apply Kd.R_drew)); exact HO124.out⟩, ⟨by repeat (first | (with_reducible first | exact HB.out | apply below_alloc | apply pw_below_drewN | apply below_drew1) | exact HB.out)⟩⟩
              · rw [if_neg c7] at H
                exact absurd H (by simp)
            · replace c6 := Bool.eq_false_iff.mpr c6
              subst c6
              have H1 : (if x3_1.length < 17592186044416 then (laws_asNumbers.l0 k1 (x3_1 ++ [0]) l0 (l0.length : Int) (wrap64 (x9_1 + 1))) else (none)) = some r := by rw [if_neg (show ¬ (false = true) by decide)] at H; exact H
              clear H
              have H := H1
              clear H1
              by_cases c9 : x3_1.length < 17592186044416
              · rw [if_pos c9] at H
                have LMc9 := Aside0.mk c9
                clear c9
                obtain ⟨y125, hy125⟩ : ∃ y_ : List Int, y_ = (x3_1 ++ [0]) := ⟨_, rfl⟩
                replace H : (laws_asNumbers.l0 k1 y125 l0 (l0.length : Int) (wrap64 (x9_1 + 1))) = some r := by first | (rw [hy125]; with_reducible exact H) | (have H2_ := (Option.bind_some _ _).symm.trans H; rw [hy125]; with_reducible exact H2_) | (have H2_ := (Option.bind_some _ _).symm.trans H; with_reducible exact H2_) | with_reducible exact H | (rw [hy125]; exact H) | exact H
                have Ny125 := Aside0.mk hy125
                clear hy125
                have H' := Aside0.mk H
                clear H
                have p121 : 0 ≤ (x9_1 : Int) := of_decide_eq_true (by first | (with_reducible assumption) | assumption)
                have q121 : x9_1 < (l0.length : Int) := of_decide_eq_true (by first | (with_reducible assumption) | assumption)
                obtain ⟨ad121, e121, hx121_0⟩ := Kd.at_bool HR0.out x9_1 p121 q121
                (try rw [← Nbq5.out] at hx121_0)
                cases e121
                replace hx121_0 := (HB.out.cell (World.block_lt_of_cell? w _ hx121_0)).trans hx121_0
                replace p121 := eq_true p121
                replace q121 := eq_true q121
                go_wp2_with (first | ((with_reducible refine gate_builtin (b := .append) (xs := #[.tmp 14, .tmp 16]) rfl ?_); at_builtin; refine Kd.R_append (Kd.int .u64) (w0 := w) w.heap.size rfl (.tmp 14) (.tmp 16) 27 55 (.int .u64 0) 8 rfl Tryz.underlying27 info55 rfl (by decide) (by omega) u3 x3_1 0 [.int .u64 0] (fun _ => True) (fun _ => False) rfl rfl ?aP (fun _ hk => hk.elim) ?aF ?aO ?aB ?aS ?aL ?_; (case aP => exact rfl); (case aB => exact (by repeat (first | (with_reducible first | exact HB.out | apply below_alloc | apply pw_below_drewN | apply below_drew1) | exact HB.out))); (case aF => exact (fun _ _ => trivial)); (case aO => exact (by (with_reducible repeat (first | apply Kd.R_alloc | apply Kd.R_drewN | apply Kd.R_drew)); exact HO_3.out)); (case aS => exact (below_size (by repeat (first | (with_reducible first | exact HB.out | apply below_alloc | apply pw_below_drewN | apply below_drew1) | exact HB.out)))); (case aL => have := LMc9.out; omega); intro v126 w10 ho hb hg hat; rw [← Ny125.out] at ho; have n0_ := Aside0.mk (hb); have n1_ := Aside0.mk (ho); clear HB; clear HO_3; have HB := n0_; have HO127 := n1_; clear n0_ n1_; clear ho hb hg hat))
                go_roundg k1
                case measure => have := HK1.out; omega
                case rel => exact ⟨(y125), (wrap64 (x9_1 + 1)), (by first | rfl | (simp; done) | (simp [*]; done)), H', ⟨by have := HK1.out; omega⟩, ⟨by (with_reducible repeat (first | apply Kd.R_alloc | apply Kd.R_drewN | apply Kd.R_drew)); exact HO127.out⟩, ⟨by repeat (first | (with_reducible first | exact HB.out | apply below_alloc | apply pw_below_drewN | apply below_drew1) | exact HB.out)⟩⟩
              · rw [if_neg c9] at H
                exact absurd H (by simp)
          · rw [if_neg c4] at H
            exact absurd H (by simp)
        · rw [if_neg c3] at H
          exact absurd H (by simp)
      · rw [if_neg c2] at H
        have c2b0 : decide (x9_1 < (l0.length : Int)) = false := decide_eq_false c2
        clear c2
        obtain rfl := Option.some.inj H
        go_wp2
        go_ret
        exact ⟨_, by first | rfl | (simp [errW_none, errW_some] <;> rfl) | (simp [*, errW_none, errW_some] <;> rfl), by (with_reducible repeat (first | apply Kd.R_alloc | apply Kd.R_drewN | apply Kd.R_drew)); exact HO_3.out, by repeat (first | (with_reducible first | exact HB.out | apply below_alloc | apply pw_below_drewN | apply below_drew1) | exact HB.out)⟩

end Go.Proofs.YtflgbndhahcdnaaGreatDoor.PFnBoolsRead
