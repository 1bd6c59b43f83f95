/- Functions of the translation as Lean functions, and their walks: lines written by a program, a turned copy of the kit's print. -/
import Derived.Test.YtnanfoahimccpaaWdx0
import Derived.Test.YtnanfoahimccpaaWdx1
namespace Go.Proofs.Ytnanfoahimccpaa.Wd
open Go.RowKit Go.Proofs.YtnanfoahimccpaaW.PrintWords Go.Proofs.YtnanfoahimccpaaW.PrintLast Go.Proofs.YtnanfoahimccpaaW.PrintMore
attribute [local go_sem] max2_int min2_int max_two min_two max_three min_three max_four min_four   -- for this text's walks alone
set_option linter.unusedVariables false
set_option linter.unusedSimpArgs false

/-! ### spec_wbNear: function 31 -/
mutual
def spec_wbNear.j0 : Nat → Bool → Int → Bool → Int → Bool → Option (Bool × Bool)
  | 0, _, _, _, _, _ => none
  | k + 1, x6, x120000, x120001, x121000, x121001 => if x6 = true then (some (true, false)) else ((spec_wbNewline.f k x120000).bind fun t121 => (if t121 = true then (spec_wbNear.j1 k t121 x120000 x120001 x121000 x121001) else ((spec_wbNewline.f k x121000).bind fun t122 => (spec_wbNear.j1 k t122 x120000 x120001 x121000 x121001))))
def spec_wbNear.j1 : Nat → Bool → Int → Bool → Int → Bool → Option (Bool × Bool)
  | 0, _, _, _, _, _ => none
  | k + 1, x15, x120000, x120001, x121000, x121001 => if x15 = true then (some (false, true)) else (if x120000 = 5 then (spec_wbNear.j2 k x121001 x120000 x120001 x121000 x121001) else (spec_wbNear.j2 k false x120000 x120001 x121000 x121001))
def spec_wbNear.j2 : Nat → Bool → Int → Bool → Int → Bool → Option (Bool × Bool)
  | 0, _, _, _, _, _ => none
  | k + 1, x22, x120000, x120001, x121000, x121001 => if x22 = true then (some (true, false)) else (if x120000 = 18 then (spec_wbNear.j3 k (x121000 == 18) x121000 x121001) else (spec_wbNear.j3 k false x121000 x121001))
def spec_wbNear.j3 : Nat → Bool → Int → Bool → Option (Bool × Bool)
  | 0, _, _, _ => none
  | k + 1, x30, x121000, x121001 => if x30 = true then (some (true, false)) else ((spec_wbMute.f k x121000).bind fun t123 => (if t123 = true then (some (true, false)) else (some (false, false))))
end
def spec_wbNear.f (k : Nat) (a0_0 : Int) (a0_1 : Bool) (a1_0 : Int) (a1_1 : Bool) : Option (Bool × Bool) := if a0_0 = 1 then (spec_wbNear.j0 k (a1_0 == 2) a0_0 a0_1 a1_0 a1_1) else (spec_wbNear.j0 k false a0_0 a0_1 a1_0 a1_1)
theorem spec_wbNear.mono_l : ∀ k, (∀ y0 y1 y2 y3 y4, LeO (spec_wbNear.j0 k y0 y1 y2 y3 y4) (spec_wbNear.j0 (k + 1) y0 y1 y2 y3 y4)) ∧ (∀ y0 y1 y2 y3 y4, LeO (spec_wbNear.j1 k y0 y1 y2 y3 y4) (spec_wbNear.j1 (k + 1) y0 y1 y2 y3 y4)) ∧ (∀ y0 y1 y2 y3 y4, LeO (spec_wbNear.j2 k y0 y1 y2 y3 y4) (spec_wbNear.j2 (k + 1) y0 y1 y2 y3 y4)) ∧ (∀ y0 y1 y2, LeO (spec_wbNear.j3 k y0 y1 y2) (spec_wbNear.j3 (k + 1) y0 y1 y2))
  | 0 => ⟨fun _ _ _ _ _ r h => by simp [spec_wbNear.j0] at h, fun _ _ _ _ _ r h => by simp [spec_wbNear.j1] at h, fun _ _ _ _ _ r h => by simp [spec_wbNear.j2] at h, fun _ _ _ r h => by simp [spec_wbNear.j3] at h⟩
  | k + 1 => by
    obtain ⟨ih0, ih1, ih2, ih3⟩ := spec_wbNear.mono_l k
    refine ⟨?_, ?_, ?_, ?_⟩
    · intro y0 y1 y2 y3 y4
      unfold spec_wbNear.j0
      repeat' first
      | (with_reducible exact ih0 _ _ _ _ _)
      | (with_reducible exact ih1 _ _ _ _ _)
      | (with_reducible exact ih2 _ _ _ _ _)
      | (with_reducible exact ih3 _ _ _)
      | (with_reducible exact spec_wbMute.mono _ _)
      | (with_reducible exact spec_wbNewline.mono _ _)
      | (with_reducible exact LeO.refl _)
      | (with_reducible exact LeO.none _)
      | (with_reducible refine LeO.ite ?_ ?_)
      | (with_reducible refine LeO.bind ?_ (fun _ => ?_))
      | exact ih0 _ _ _ _ _
      | exact ih1 _ _ _ _ _
      | exact ih2 _ _ _ _ _
      | exact ih3 _ _ _
      | exact spec_wbMute.mono _ _
      | exact spec_wbNewline.mono _ _
      | exact LeO.none _
      | refine LeO.ite ?_ ?_
      | refine LeO.bind ?_ (fun _ => ?_)
    · intro y0 y1 y2 y3 y4
      unfold spec_wbNear.j1
      repeat' first
      | (with_reducible exact ih0 _ _ _ _ _)
      | (with_reducible exact ih1 _ _ _ _ _)
      | (with_reducible exact ih2 _ _ _ _ _)
      | (with_reducible exact ih3 _ _ _)
      | (with_reducible exact spec_wbMute.mono _ _)
      | (with_reducible exact spec_wbNewline.mono _ _)
      | (with_reducible exact LeO.refl _)
      | (with_reducible exact LeO.none _)
      | (with_reducible refine LeO.ite ?_ ?_)
      | (with_reducible refine LeO.bind ?_ (fun _ => ?_))
      | exact ih0 _ _ _ _ _
      | exact ih1 _ _ _ _ _
      | exact ih2 _ _ _ _ _
      | exact ih3 _ _ _
      | exact spec_wbMute.mono _ _
      | exact spec_wbNewline.mono _ _
      | exact LeO.none _
      | refine LeO.ite ?_ ?_
      | refine LeO.bind ?_ (fun _ => ?_)
    · intro y0 y1 y2 y3 y4
      unfold spec_wbNear.j2
      repeat' first
      | (with_reducible exact ih0 _ _ _ _ _)
      | (with_reducible exact ih1 _ _ _ _ _)
      | (with_reducible exact ih2 _ _ _ _ _)
      | (with_reducible exact ih3 _ _ _)
      | (with_reducible exact spec_wbMute.mono _ _)
      | (with_reducible exact spec_wbNewline.mono _ _)
      | (with_reducible exact LeO.refl _)
      | (with_reducible exact LeO.none _)
      | (with_reducible refine LeO.ite ?_ ?_)
      | (with_reducible refine LeO.bind ?_ (fun _ => ?_))
      | exact ih0 _ _ _ _ _
      | exact ih1 _ _ _ _ _
      | exact ih2 _ _ _ _ _
      | exact ih3 _ _ _
      | exact spec_wbMute.mono _ _
      | exact spec_wbNewline.mono _ _
      | exact LeO.none _
      | refine LeO.ite ?_ ?_
      | refine LeO.bind ?_ (fun _ => ?_)
    · intro y0 y1 y2
      unfold spec_wbNear.j3
      repeat' first
      | (with_reducible exact ih0 _ _ _ _ _)
      | (with_reducible exact ih1 _ _ _ _ _)
      | (with_reducible exact ih2 _ _ _ _ _)
      | (with_reducible exact ih3 _ _ _)
      | (with_reducible exact spec_wbMute.mono _ _)
      | (with_reducible exact spec_wbNewline.mono _ _)
      | (with_reducible exact LeO.refl _)
      | (with_reducible exact LeO.none _)
      | (with_reducible refine LeO.ite ?_ ?_)
      | (with_reducible refine LeO.bind ?_ (fun _ => ?_))
      | exact ih0 _ _ _ _ _
      | exact ih1 _ _ _ _ _
      | exact ih2 _ _ _ _ _
      | exact ih3 _ _ _
      | exact spec_wbMute.mono _ _
      | exact spec_wbNewline.mono _ _
      | exact LeO.none _
      | refine LeO.ite ?_ ?_
      | refine LeO.bind ?_ (fun _ => ?_)
theorem spec_wbNear.mono : ∀ a0 a1 a2 a3 k, LeO (spec_wbNear.f k a0 a1 a2 a3) (spec_wbNear.f (k + 1) a0 a1 a2 a3) := by
  intro a0 a1 a2 a3 k
  obtain ⟨ih0, ih1, ih2, ih3⟩ := spec_wbNear.mono_l k
  unfold spec_wbNear.f
  repeat' first
      | (with_reducible exact ih0 _ _ _ _ _)
      | (with_reducible exact ih1 _ _ _ _ _)
      | (with_reducible exact ih2 _ _ _ _ _)
      | (with_reducible exact ih3 _ _ _)
      | (with_reducible exact spec_wbMute.mono _ _)
      | (with_reducible exact spec_wbNewline.mono _ _)
      | (with_reducible exact LeO.refl _)
      | (with_reducible exact LeO.none _)
      | (with_reducible refine LeO.ite ?_ ?_)
      | (with_reducible refine LeO.bind ?_ (fun _ => ?_))
      | exact ih0 _ _ _ _ _
      | exact ih1 _ _ _ _ _
      | exact ih2 _ _ _ _ _
      | exact ih3 _ _ _
      | exact spec_wbMute.mono _ _
      | exact spec_wbNewline.mono _ _
      | exact LeO.none _
      | refine LeO.ite ?_ ?_
      | refine LeO.bind ?_ (fun _ => ?_)
set_option maxHeartbeats 8000000 in
set_option maxRecDepth 100000 in
theorem spec_wbNear.calls (k : Nat) (a0_0 : Int) (a0_1 : Bool) (a1_0 : Int) (a1_1 : Bool) (r1 : Bool) (r2 : Bool) (w : World) (h : spec_wbNear.f k a0_0 a0_1 a1_0 a1_1 = some (r1, r2)) :
    Calls Try.prog 31 #[.agg #[.int .i64 a0_0, .bool a0_1], .agg #[.int .i64 a1_0, .bool a1_1]] w fun e w' => e = .returned (.tuple #[.bool r1, .bool r2]) ∧ Below w.heap.size w w' := by
  have hu32 := Try.underlying32
  have HB := Aside0.mk (Below.refl w.heap.size w)
  have H : (if a0_0 = 1 then (spec_wbNear.j0 k (a1_0 == 2) a0_0 a0_1 a1_0 a1_1) else (spec_wbNear.j0 k false a0_0 a0_1 a1_0 a1_1)) = some (r1, r2) := h
  clear h
  have HC3 := Aside0.mk H
  clear H
  go_enter Try.func31, Try.ntmps31
  go_upto_region 1 with (first | ((with_reducible refine gate_dst (N := 2) rfl ?_); refine box_event ?hg (N := 2) ?hd (cs := #[.int .i64 a0_0, .bool a0_1]) (t := 32) ?hr ?_; (case hd => rfl); (case hg => rfl); (case hr => first | (go_simp; done) | (go_simp; rfl)); intro gb119 hg w4 hbox hb; have n0_ := Aside0.mk (below_step (by repeat (first | (with_reducible first | exact HB.out | apply below_alloc | apply pw_below_drewN | apply below_drew1) | exact HB.out)) hb); have n1_ := Aside0.mk (hbox); have n2_ := Aside0.mk ((by rw [hg]; exact (below_size (by repeat (first | (with_reducible first | exact HB.out | apply below_alloc | apply pw_below_drewN | apply below_drew1) | exact HB.out))) : w.heap.size ≤ gb119)); have n3_ := Aside0.mk ((by rw [hg]; exact (below_size (by repeat (first | (with_reducible first | exact HB.out | apply below_alloc | apply pw_below_drewN | apply below_drew1) | exact HB.out))) : w.heap.size ≤ gb119)); clear HB; have HB := n0_; have BK119 := n1_; have GW119 := n2_; have GE119 := n3_; clear n0_ n1_ n2_ n3_; clear hb hbox hg) | ((with_reducible refine gate_dst (N := 3) rfl ?_); refine box_event ?hg (N := 3) ?hd (cs := #[.int .i64 a1_0, .bool a1_1]) (t := 32) ?hr ?_; (case hd => rfl); (case hg => rfl); (case hr => first | (go_simp; done) | (go_simp; rfl)); intro gb120 hg w5 hbox hb; have n0_ := Aside0.mk (blk_below (g := gb119) (o := .cells #[.int .i64 a0_0, .bool a0_1] 32 (0, 0)) (by (with_reducible repeat (first | refine blk_drewN ?_ _ | refine blk_drew ?_ | refine blk_alloc ?_ _)); exact BK119.out) hb); have n1_ := Aside0.mk (below_step (by repeat (first | (with_reducible first | exact HB.out | apply below_alloc | apply pw_below_drewN | apply below_drew1 | refine below_set ?_ GE119.out) | exact HB.out)) hb); have n2_ := Aside0.mk (hbox); have n3_ := Aside0.mk ((by rw [hg]; exact (below_size (by repeat (first | (with_reducible first | exact HB.out | apply below_alloc | apply pw_below_drewN | apply below_drew1 | refine below_set ?_ GE119.out) | exact HB.out))) : w.heap.size ≤ gb120)); have n4_ := Aside0.mk ((by rw [hg]; exact (below_size (by repeat (first | (with_reducible first | exact HB.out | apply below_alloc | apply pw_below_drewN | apply below_drew1 | refine below_set ?_ GE119.out) | exact HB.out))) : w.heap.size ≤ gb120)); have n5_ := Aside0.mk ((by rw [hg]; exact Nat.ne_of_lt (blk_lt (g := gb119) (o := .cells #[.int .i64 a0_0, .bool a0_1] 32 (0, 0)) (by (with_reducible repeat (first | refine blk_drewN ?_ _ | refine blk_drew ?_ | refine blk_alloc ?_ _)); exact BK119.out)) : gb119 ≠ gb120)); have n6_ := Aside0.mk ((by rw [hg]; exact Nat.ne_of_gt (blk_lt (g := gb119) (o := .cells #[.int .i64 a0_0, .bool a0_1] 32 (0, 0)) (by (with_reducible repeat (first | refine blk_drewN ?_ _ | refine blk_drew ?_ | refine blk_alloc ?_ _)); exact BK119.out)) : gb120 ≠ gb119)); clear BK119; clear HB; have BK119 := n0_; have HB := n1_; have BK120 := n2_; have GW120 := n3_; have GE120 := n4_; have NB119_120 := n5_; have NB120_119 := n6_; clear n0_ n1_ n2_ n3_ n4_ n5_ n6_; clear hb hbox hg))
  (try simp only [Act.put, List.setIfInBounds_toArray, List.set_cons_zero, List.set_cons_succ])
  go_cut [6] (fun v6 wc => ∃ (kq : Nat) (x6_2 : Bool), v6 = .bool x6_2 ∧ Aside0 (spec_wbNear.j0 kq x6_2 a0_0 a0_1 a1_0 a1_1 = some (r1, r2)) ∧ Aside0 (kq ≤ k) ∧ Aside0 (wc.heap[gb119]? = some (.cells #[.int .i64 a0_0, .bool a0_1] 32 (0, 0))) ∧ Aside0 (wc.heap[gb120]? = some (.cells #[.int .i64 a1_0, .bool a1_1] 32 (0, 0))) ∧ Aside0 (Below w.heap.size w wc))
  case first =>
    have H := HC3.out
    clear HC3
    by_cases c6 : a0_0 = 1
    · rw [if_pos c6] at H
      have c6b0 : (a0_0 == 1) = true := beq_iff_eq.mpr c6
      have c6b1 : (a0_0 != 1) = false := bne_eq_false_iff_eq.mpr c6
      clear c6
      (first | rw [c6b0] | (simp only [i64_w, i32_w]; rw [c6b0]) | skip)
      have H' := Aside0.mk H
      clear H
      have hnb7 := NB119_120.out
      have hnc7 := NB120_119.out
      have hcz8_0 : w5.cell? ⟨gb119, 0, none⟩ = some (.int .i64 a0_0) := (blk_cell BK119.out 0).trans rfl
      have hcz8_1 : w5.cell? ⟨gb119, 1, none⟩ = some (.bool a0_1) := (blk_cell BK119.out 1).trans rfl
      have hfz8_0 := blk_frozen BK119.out 0
      have hfz8_1 := blk_frozen BK119.out 1
      have hcz9_0 : w5.cell? ⟨gb120, 0, none⟩ = some (.int .i64 a1_0) := (blk_cell BK120.out 0).trans rfl
      have hcz9_1 : w5.cell? ⟨gb120, 1, none⟩ = some (.bool a1_1) := (blk_cell BK120.out 1).trans rfl
      have hfz9_0 := blk_frozen BK120.out 0
      have hfz9_1 := blk_frozen BK120.out 1
      go_wp2
      go_meet
      case rel => exact ⟨_, ((a1_0 == 2)), (by first | rfl | (simp; done) | (simp [*]; done)), H', ⟨by first | omega | exact Nat.le_refl _⟩, ⟨by (with_reducible repeat (first | refine blk_drewN ?_ _ | refine blk_drew ?_ | refine blk_alloc ?_ _)); exact BK119.out⟩, ⟨by (with_reducible repeat (first | refine blk_drewN ?_ _ | refine blk_drew ?_ | refine blk_alloc ?_ _)); exact BK120.out⟩, ⟨by repeat (first | (with_reducible first | exact HB.out | apply below_alloc | apply pw_below_drewN | apply below_drew1 | refine below_set ?_ GE119.out | refine below_set ?_ GE120.out) | exact HB.out)⟩⟩
    · rw [if_neg c6] at H
      have c6b0 : (a0_0 == 1) = false := beq_eq_false_iff_ne.mpr c6
      have c6b1 : (a0_0 != 1) = true := bne_iff_ne.mpr c6
      (first | rw [c6b0] | (simp only [i64_w, i32_w]; rw [c6b0]) | skip)
      have H' := Aside0.mk H
      clear H
      have hnb10 := NB119_120.out
      have hnc10 := NB120_119.out
      have hcz11_0 : w5.cell? ⟨gb119, 0, none⟩ = some (.int .i64 a0_0) := (blk_cell BK119.out 0).trans rfl
      have hcz11_1 : w5.cell? ⟨gb119, 1, none⟩ = some (.bool a0_1) := (blk_cell BK119.out 1).trans rfl
      have hfz11_0 := blk_frozen BK119.out 0
      have hfz11_1 := blk_frozen BK119.out 1
      go_wp2
      go_meet
      case rel => exact ⟨_, (false), (by first | rfl | (simp; done) | (simp [*]; done)), H', ⟨by first | omega | exact Nat.le_refl _⟩, ⟨by (with_reducible repeat (first | refine blk_drewN ?_ _ | refine blk_drew ?_ | refine blk_alloc ?_ _)); exact BK119.out⟩, ⟨by (with_reducible repeat (first | refine blk_drewN ?_ _ | refine blk_drew ?_ | refine blk_alloc ?_ _)); exact BK120.out⟩, ⟨by repeat (first | (with_reducible first | exact HB.out | apply below_alloc | apply pw_below_drewN | apply below_drew1 | refine below_set ?_ GE119.out | refine below_set ?_ GE120.out) | exact HB.out)⟩⟩
  case rest =>
    clear HC3
    try clear c1
    try clear p2
    try clear c3
    try clear c6
    try clear c6b0
    try clear c6b1
    try clear c7
    try clear c10
    try clear hcz11_0
    try clear hcz11_1
    try clear hcz8_0
    try clear hcz8_1
    try clear hcz9_0
    try clear hcz9_1
    try clear hfz11_0
    try clear hfz11_1
    try clear hfz8_0
    try clear hfz8_1
    try clear hfz9_0
    try clear hfz9_1
    obtain ⟨kq, x6_2, rfl, HA, HJ2, BK119, BK120, HB⟩ := hcut
    cases kq with
    | zero => exact absurd HA.out (by simp [spec_wbNear.j0])
    | succ kj2 =>
      have H := HA.out
      clear HA
      simp only [spec_wbNear.j0] at H
      by_cases c12 : x6_2 = true
      · subst c12
        have H1 : (some (true, false)) = some (r1, r2) := by rw [if_pos rfl] at H; exact H
        clear H
        have H := H1
        clear H1
        simp only [Option.some.injEq, Prod.mk.injEq] at H
        obtain ⟨rfl, rfl⟩ := H
        go_wp2
        go_ret2
        exact ⟨by first | rfl | (simp [errW_none, errW_some] <;> rfl) | (simp [*, errW_none, errW_some] <;> rfl), by repeat (first | (with_reducible first | exact HB.out | apply below_alloc | apply pw_below_drewN | apply below_drew1 | refine below_set ?_ GE119.out | refine below_set ?_ GE120.out) | exact HB.out)⟩
      · replace c12 := Bool.eq_false_iff.mpr c12
        subst c12
        have H1 : ((spec_wbNewline.f kj2 a0_0).bind fun t121 => (if t121 = true then (spec_wbNear.j1 kj2 t121 a0_0 a0_1 a1_0 a1_1) else ((spec_wbNewline.f kj2 a1_0).bind fun t122 => (spec_wbNear.j1 kj2 t122 a0_0 a0_1 a1_0 a1_1)))) = some (r1, r2) := by rw [if_neg (show ¬ (false = true) by decide)] at H; exact H
        clear H
        have H := H1
        clear H1
        replace H := Option.bind_eq_some_iff.mp H
        obtain ⟨t121, A130, H⟩ := H
        replace H : (if t121 = true then (spec_wbNear.j1 kj2 t121 a0_0 a0_1 a1_0 a1_1) else ((spec_wbNewline.f kj2 a1_0).bind fun t122 => (spec_wbNear.j1 kj2 t122 a0_0 a0_1 a1_0 a1_1))) = some (r1, r2) := H
        have A13 := Aside0.mk A130
        clear A130
        have HC14 := Aside0.mk H
        clear H
        have hnb15 := NB119_120.out
        have hnc15 := NB120_119.out
        have hcz16_0 : wc.cell? ⟨gb119, 0, none⟩ = some (.int .i64 a0_0) := (blk_cell BK119.out 0).trans rfl
        have hcz16_1 : wc.cell? ⟨gb119, 1, none⟩ = some (.bool a0_1) := (blk_cell BK119.out 1).trans rfl
        have hfz16_0 := blk_frozen BK119.out 0
        have hfz16_1 := blk_frozen BK119.out 1
        go_upto_if 15 with (first | ((with_reducible refine gate_callee (f := 55) rfl ?_); refine goesL_ (some 18) rfl rfl Try.func55 (by kernel_rfl) rfl #[.int .i64 a0_0] rfl (by (try simp only [List.map_toArray, List.map_cons, List.map_nil]); first | done | rfl | (simp only [List.length_drop, List.length_take]; rfl)) ?_; (with_reducible refine (spec_wbNewline.calls kj2 a0_0 t121 _ A13.out).mono ?_); rintro e w17 ⟨rfl, hb⟩; refine ⟨_, rfl, ?_⟩; have n0_ := Aside0.mk (blk_below (g := gb119) (o := .cells #[.int .i64 a0_0, .bool a0_1] 32 (0, 0)) (by (with_reducible repeat (first | refine blk_drewN ?_ _ | refine blk_drew ?_ | refine blk_alloc ?_ _)); exact BK119.out) hb); have n1_ := Aside0.mk (blk_below (g := gb120) (o := .cells #[.int .i64 a1_0, .bool a1_1] 32 (0, 0)) (by (with_reducible repeat (first | refine blk_drewN ?_ _ | refine blk_drew ?_ | refine blk_alloc ?_ _)); exact BK120.out) hb); have n2_ := Aside0.mk (below_step (by repeat (first | (with_reducible first | exact HB.out | apply below_alloc | apply pw_below_drewN | apply below_drew1 | refine below_set ?_ GE119.out | refine below_set ?_ GE120.out) | exact HB.out)) hb); clear BK119; clear BK120; clear HB; have BK119 := n0_; have BK120 := n1_; have HB := n2_; clear n0_ n1_ n2_; (try clear hb); (try clear hb2); (try clear hk); (try clear hi)))
        (try simp only [Act.put, List.setIfInBounds_toArray, List.set_cons_zero, List.set_cons_succ])
        go_cut [15] (fun v15 wc => ∃ (kq : Nat) (x15_13 : Bool), v15 = .bool x15_13 ∧ Aside0 (spec_wbNear.j1 kq x15_13 a0_0 a0_1 a1_0 a1_1 = some (r1, r2)) ∧ Aside0 (kq ≤ kj2) ∧ Aside0 (wc.heap[gb119]? = some (.cells #[.int .i64 a0_0, .bool a0_1] 32 (0, 0))) ∧ Aside0 (wc.heap[gb120]? = some (.cells #[.int .i64 a1_0, .bool a1_1] 32 (0, 0))) ∧ Aside0 (Below w.heap.size w wc))
        case first =>
          have H := HC14.out
          clear HC14
          by_cases c18 : t121 = true
          · subst c18
            have H1 : (spec_wbNear.j1 kj2 true a0_0 a0_1 a1_0 a1_1) = some (r1, r2) := by rw [if_pos rfl] at H; exact H
            clear H
            have H := H1
            clear H1
            have H' := Aside0.mk H
            clear H
            go_wp2
            go_meet
            case rel => exact ⟨_, (true), (by first | rfl | (simp; done) | (simp [*]; done)), H', ⟨by have := HJ2.out; first | omega | exact Nat.le_refl _⟩, ⟨by (with_reducible repeat (first | refine blk_drewN ?_ _ | refine blk_drew ?_ | refine blk_alloc ?_ _)); exact BK119.out⟩, ⟨by (with_reducible repeat (first | refine blk_drewN ?_ _ | refine blk_drew ?_ | refine blk_alloc ?_ _)); exact BK120.out⟩, ⟨by repeat (first | (with_reducible first | exact HB.out | apply below_alloc | apply pw_below_drewN | apply below_drew1 | refine below_set ?_ GE119.out | refine below_set ?_ GE120.out) | exact HB.out)⟩⟩
          · replace c18 := Bool.eq_false_iff.mpr c18
            subst c18
            have H1 : ((spec_wbNewline.f kj2 a1_0).bind fun t122 => (spec_wbNear.j1 kj2 t122 a0_0 a0_1 a1_0 a1_1)) = some (r1, r2) := by rw [if_neg (show ¬ (false = true) by decide)] at H; exact H
            clear H
            have H := H1
            clear H1
            replace H := Option.bind_eq_some_iff.mp H
            obtain ⟨t122, A190, H⟩ := H
            replace H : (spec_wbNear.j1 kj2 t122 a0_0 a0_1 a1_0 a1_1) = some (r1, r2) := H
            have A19 := Aside0.mk A190
            clear A190
            have H' := Aside0.mk H
            clear H
            have hnb20 := NB120_119.out
            have hnc20 := NB119_120.out
            have hcz21_0 : w17.cell? ⟨gb120, 0, none⟩ = some (.int .i64 a1_0) := (blk_cell BK120.out 0).trans rfl
            have hcz21_1 : w17.cell? ⟨gb120, 1, none⟩ = some (.bool a1_1) := (blk_cell BK120.out 1).trans rfl
            have hfz21_0 := blk_frozen BK120.out 0
            have hfz21_1 := blk_frozen BK120.out 1
            go_wp2_with (first | ((with_reducible refine gate_callee (f := 55) rfl ?_); refine goesL_ (some 21) rfl rfl Try.func55 (by kernel_rfl) rfl #[.int .i64 a1_0] rfl (by (try simp only [List.map_toArray, List.map_cons, List.map_nil]); first | done | rfl | (simp only [List.length_drop, List.length_take]; rfl)) ?_; (with_reducible refine (spec_wbNewline.calls kj2 a1_0 t122 _ A19.out).mono ?_); rintro e w22 ⟨rfl, hb⟩; refine ⟨_, rfl, ?_⟩; have n0_ := Aside0.mk (blk_below (g := gb119) (o := .cells #[.int .i64 a0_0, .bool a0_1] 32 (0, 0)) (by (with_reducible repeat (first | refine blk_drewN ?_ _ | refine blk_drew ?_ | refine blk_alloc ?_ _)); exact BK119.out) hb); have n1_ := Aside0.mk (blk_below (g := gb120) (o := .cells #[.int .i64 a1_0, .bool a1_1] 32 (0, 0)) (by (with_reducible repeat (first | refine blk_drewN ?_ _ | refine blk_drew ?_ | refine blk_alloc ?_ _)); exact BK120.out) hb); have n2_ := Aside0.mk (below_step (by repeat (first | (with_reducible first | exact HB.out | apply below_alloc | apply pw_below_drewN | apply below_drew1 | refine below_set ?_ GE119.out | refine below_set ?_ GE120.out) | exact HB.out)) hb); clear BK119; clear BK120; clear HB; have BK119 := n0_; have BK120 := n1_; have HB := n2_; clear n0_ n1_ n2_; (try clear hb); (try clear hb2); (try clear hk); (try clear hi)))
            go_meet
            case rel => exact ⟨_, (t122), (by first | rfl | (simp; done) | (simp [*]; done)), H', ⟨by have := HJ2.out; first | omega | exact Nat.le_refl _⟩, ⟨by (with_reducible repeat (first | refine blk_drewN ?_ _ | refine blk_drew ?_ | refine blk_alloc ?_ _)); exact BK119.out⟩, ⟨by (with_reducible repeat (first | refine blk_drewN ?_ _ | refine blk_drew ?_ | refine blk_alloc ?_ _)); exact BK120.out⟩, ⟨by repeat (first | (with_reducible first | exact HB.out | apply below_alloc | apply pw_below_drewN | apply below_drew1 | refine below_set ?_ GE119.out | refine below_set ?_ GE120.out) | exact HB.out)⟩⟩
        case rest =>
          clear HC14
          try clear c1
          try clear c2
          try clear p2
          try clear c3
          try clear c5
          try clear c6
          try clear c6b0
          try clear c6b1
          try clear c7
          try clear c10
          try clear c12
          try clear c15
          try clear c18
          try clear c20
          try clear hcz11_0
          try clear hcz11_1
          try clear hcz16_0
          try clear hcz16_1
          try clear hcz21_0
          try clear hcz21_1
          try clear hcz8_0
          try clear hcz8_1
          try clear hcz9_0
          try clear hcz9_1
          try clear hfz11_0
          try clear hfz11_1
          try clear hfz16_0
          try clear hfz16_1
          try clear hfz21_0
          try clear hfz21_1
          try clear hfz8_0
          try clear hfz8_1
          try clear hfz9_0
          try clear hfz9_1
          try clear p2
          obtain ⟨kq, x15_13, rfl, HA, HJ13, BK119, BK120, HB⟩ := hcut
          cases kq with
          | zero => exact absurd HA.out (by simp [spec_wbNear.j1])
          | succ kj13 =>
            have H := HA.out
            clear HA
            simp only [spec_wbNear.j1] at H
            by_cases c23 : x15_13 = true
            · subst c23
              have H1 : (some (false, true)) = some (r1, r2) := by rw [if_pos rfl] at H; exact H
              clear H
              have H := H1
              clear H1
              simp only [Option.some.injEq, Prod.mk.injEq] at H
              obtain ⟨rfl, rfl⟩ := H
              go_wp2
              go_ret2
              exact ⟨by first | rfl | (simp [errW_none, errW_some] <;> rfl) | (simp [*, errW_none, errW_some] <;> rfl), by repeat (first | (with_reducible first | exact HB.out | apply below_alloc | apply pw_below_drewN | apply below_drew1 | refine below_set ?_ GE119.out | refine below_set ?_ GE120.out) | exact HB.out)⟩
            · replace c23 := Bool.eq_false_iff.mpr c23
              subst c23
              have H1 : (if a0_0 = 5 then (spec_wbNear.j2 kj13 a1_1 a0_0 a0_1 a1_0 a1_1) else (spec_wbNear.j2 kj13 false a0_0 a0_1 a1_0 a1_1)) = some (r1, r2) := by rw [if_neg (show ¬ (false = true) by decide)] at H; exact H
              clear H
              have H := H1
              clear H1
              have HC24 := Aside0.mk H
              clear H
              go_upto_region 6 with (fail)
              go_cut [22] (fun v22 wc => ∃ (kq : Nat) (x22_23 : Bool), v22 = .bool x22_23 ∧ Aside0 (spec_wbNear.j2 kq x22_23 a0_0 a0_1 a1_0 a1_1 = some (r1, r2)) ∧ Aside0 (kq ≤ kj13) ∧ Aside0 (wc.heap[gb119]? = some (.cells #[.int .i64 a0_0, .bool a0_1] 32 (0, 0))) ∧ Aside0 (wc.heap[gb120]? = some (.cells #[.int .i64 a1_0, .bool a1_1] 32 (0, 0))) ∧ Aside0 (Below w.heap.size w wc))
              case first =>
                have H := HC24.out
                clear HC24
                by_cases c25 : a0_0 = 5
                · rw [if_pos c25] at H
                  have c25b0 : (a0_0 == 5) = true := beq_iff_eq.mpr c25
                  have c25b1 : (a0_0 != 5) = false := bne_eq_false_iff_eq.mpr c25
                  clear c25
                  (first | rw [c25b0] | (simp only [i64_w, i32_w]; rw [c25b0]) | skip)
                  have H' := Aside0.mk H
                  clear H
                  have hnb26 := NB119_120.out
                  have hnc26 := NB120_119.out
                  have hcz27_0 : wc.cell? ⟨gb119, 0, none⟩ = some (.int .i64 a0_0) := (blk_cell BK119.out 0).trans rfl
                  have hcz27_1 : wc.cell? ⟨gb119, 1, none⟩ = some (.bool a0_1) := (blk_cell BK119.out 1).trans rfl
                  have hfz27_0 := blk_frozen BK119.out 0
                  have hfz27_1 := blk_frozen BK119.out 1
                  have hcz28_0 : wc.cell? ⟨gb120, 0, none⟩ = some (.int .i64 a1_0) := (blk_cell BK120.out 0).trans rfl
                  have hcz28_1 : wc.cell? ⟨gb120, 1, none⟩ = some (.bool a1_1) := (blk_cell BK120.out 1).trans rfl
                  have hfz28_0 := blk_frozen BK120.out 0
                  have hfz28_1 := blk_frozen BK120.out 1
                  go_wp2
                  go_meet
                  case rel => exact ⟨_, (a1_1), (by first | rfl | (simp; done) | (simp [*]; done)), H', ⟨by have := HJ2.out; have := HJ13.out; first | omega | exact Nat.le_refl _⟩, ⟨by (with_reducible repeat (first | refine blk_drewN ?_ _ | refine blk_drew ?_ | refine blk_alloc ?_ _)); exact BK119.out⟩, ⟨by (with_reducible repeat (first | refine blk_drewN ?_ _ | refine blk_drew ?_ | refine blk_alloc ?_ _)); exact BK120.out⟩, ⟨by repeat (first | (with_reducible first | exact HB.out | apply below_alloc | apply pw_below_drewN | apply below_drew1 | refine below_set ?_ GE119.out | refine below_set ?_ GE120.out) | exact HB.out)⟩⟩
                · rw [if_neg c25] at H
                  have c25b0 : (a0_0 == 5) = false := beq_eq_false_iff_ne.mpr c25
                  have c25b1 : (a0_0 != 5) = true := bne_iff_ne.mpr c25
                  (first | rw [c25b0] | (simp only [i64_w, i32_w]; rw [c25b0]) | skip)
                  have H' := Aside0.mk H
                  clear H
                  have hnb29 := NB119_120.out
                  have hnc29 := NB120_119.out
                  have hcz30_0 : wc.cell? ⟨gb119, 0, none⟩ = some (.int .i64 a0_0) := (blk_cell BK119.out 0).trans rfl
                  have hcz30_1 : wc.cell? ⟨gb119, 1, none⟩ = some (.bool a0_1) := (blk_cell BK119.out 1).trans rfl
                  have hfz30_0 := blk_frozen BK119.out 0
                  have hfz30_1 := blk_frozen BK119.out 1
                  go_wp2
                  go_meet
                  case rel => exact ⟨_, (false), (by first | rfl | (simp; done) | (simp [*]; done)), H', ⟨by have := HJ2.out; have := HJ13.out; first | omega | exact Nat.le_refl _⟩, ⟨by (with_reducible repeat (first | refine blk_drewN ?_ _ | refine blk_drew ?_ | refine blk_alloc ?_ _)); exact BK119.out⟩, ⟨by (with_reducible repeat (first | refine blk_drewN ?_ _ | refine blk_drew ?_ | refine blk_alloc ?_ _)); exact BK120.out⟩, ⟨by repeat (first | (with_reducible first | exact HB.out | apply below_alloc | apply pw_below_drewN | apply below_drew1 | refine below_set ?_ GE119.out | refine below_set ?_ GE120.out) | exact HB.out)⟩⟩
              case rest =>
                clear HC24
                try clear c1
                try clear c2
                try clear p2
                try clear c3
                try clear c5
                try clear c6
                try clear c6b0
                try clear c6b1
                try clear c7
                try clear c10
                try clear c12
                try clear c15
                try clear c18
                try clear c20
                try clear c23
                try clear c25
                try clear c25b0
                try clear c25b1
                try clear c26
                try clear c29
                try clear hcz11_0
                try clear hcz11_1
                try clear hcz16_0
                try clear hcz16_1
                try clear hcz21_0
                try clear hcz21_1
                try clear hcz27_0
                try clear hcz27_1
                try clear hcz28_0
                try clear hcz28_1
                try clear hcz30_0
                try clear hcz30_1
                try clear hcz8_0
                try clear hcz8_1
                try clear hcz9_0
                try clear hcz9_1
                try clear hfz11_0
                try clear hfz11_1
                try clear hfz16_0
                try clear hfz16_1
                try clear hfz21_0
                try clear hfz21_1
                try clear hfz27_0
                try clear hfz27_1
                try clear hfz28_0
                try clear hfz28_1
                try clear hfz30_0
                try clear hfz30_1
                try clear hfz8_0
                try clear hfz8_1
                try clear hfz9_0
                try clear hfz9_1
                try clear p2
                obtain ⟨kq, x22_23, rfl, HA, HJ23, BK119, BK120, HB⟩ := hcut
                cases kq with
                | zero => exact absurd HA.out (by simp [spec_wbNear.j2])
                | succ kj23 =>
                  have H := HA.out
                  clear HA
                  simp only [spec_wbNear.j2] at H
                  by_cases c31 : x22_23 = true
                  · subst c31
                    have H1 : (some (true, false)) = some (r1, r2) := by rw [if_pos rfl] at H; exact H
                    clear H
                    have H := H1
                    clear H1
                    simp only [Option.some.injEq, Prod.mk.injEq] at H
                    obtain ⟨rfl, rfl⟩ := H
                    go_wp2
                    go_ret2
                    exact ⟨by first | rfl | (simp [errW_none, errW_some] <;> rfl) | (simp [*, errW_none, errW_some] <;> rfl), by repeat (first | (with_reducible first | exact HB.out | apply below_alloc | apply pw_below_drewN | apply below_drew1 | refine below_set ?_ GE119.out | refine below_set ?_ GE120.out) | exact HB.out)⟩
                  · replace c31 := Bool.eq_false_iff.mpr c31
                    subst c31
                    have H1 : (if a0_0 = 18 then (spec_wbNear.j3 kj23 (a1_0 == 18) a1_0 a1_1) else (spec_wbNear.j3 kj23 false a1_0 a1_1)) = some (r1, r2) := by rw [if_neg (show ¬ (false = true) by decide)] at H; exact H
                    clear H
                    have H := H1
                    clear H1
                    have HC32 := Aside0.mk H
                    clear H
                    go_upto_region 8 with (fail)
                    go_cut [30] (fun v30 wc => ∃ (kq : Nat) (x30_31 : Bool), v30 = .bool x30_31 ∧ Aside0 (spec_wbNear.j3 kq x30_31 a1_0 a1_1 = some (r1, r2)) ∧ Aside0 (kq ≤ kj23) ∧ Aside0 (wc.heap[gb119]? = some (.cells #[.int .i64 a0_0, .bool a0_1] 32 (0, 0))) ∧ Aside0 (wc.heap[gb120]? = some (.cells #[.int .i64 a1_0, .bool a1_1] 32 (0, 0))) ∧ Aside0 (Below w.heap.size w wc))
                    case first =>
                      have H := HC32.out
                      clear HC32
                      by_cases c33 : a0_0 = 18
                      · rw [if_pos c33] at H
                        have c33b0 : (a0_0 == 18) = true := beq_iff_eq.mpr c33
                        have c33b1 : (a0_0 != 18) = false := bne_eq_false_iff_eq.mpr c33
                        clear c33
                        (first | rw [c33b0] | (simp only [i64_w, i32_w]; rw [c33b0]) | skip)
                        have H' := Aside0.mk H
                        clear H
                        have hnb34 := NB119_120.out
                        have hnc34 := NB120_119.out
                        have hcz35_0 : wc.cell? ⟨gb119, 0, none⟩ = some (.int .i64 a0_0) := (blk_cell BK119.out 0).trans rfl
                        have hcz35_1 : wc.cell? ⟨gb119, 1, none⟩ = some (.bool a0_1) := (blk_cell BK119.out 1).trans rfl
                        have hfz35_0 := blk_frozen BK119.out 0
                        have hfz35_1 := blk_frozen BK119.out 1
                        have hcz36_0 : wc.cell? ⟨gb120, 0, none⟩ = some (.int .i64 a1_0) := (blk_cell BK120.out 0).trans rfl
                        have hcz36_1 : wc.cell? ⟨gb120, 1, none⟩ = some (.bool a1_1) := (blk_cell BK120.out 1).trans rfl
                        have hfz36_0 := blk_frozen BK120.out 0
                        have hfz36_1 := blk_frozen BK120.out 1
                        go_wp2
                        go_meet
                        case rel => exact ⟨_, ((a1_0 == 18)), (by first | rfl | (simp; done) | (simp [*]; done)), H', ⟨by have := HJ2.out; have := HJ13.out; have := HJ23.out; first | omega | exact Nat.le_refl _⟩, ⟨by (with_reducible repeat (first | refine blk_drewN ?_ _ | refine blk_drew ?_ | refine blk_alloc ?_ _)); exact BK119.out⟩, ⟨by (with_reducible repeat (first | refine blk_drewN ?_ _ | refine blk_drew ?_ | refine blk_alloc ?_ _)); exact BK120.out⟩, ⟨by repeat (first | (with_reducible first | exact HB.out | apply below_alloc | apply pw_below_drewN | apply below_drew1 | refine below_set ?_ GE119.out | refine below_set ?_ GE120.out) | exact HB.out)⟩⟩
                      · rw [if_neg c33] at H
                        have c33b0 : (a0_0 == 18) = false := beq_eq_false_iff_ne.mpr c33
                        have c33b1 : (a0_0 != 18) = true := bne_iff_ne.mpr c33
                        (first | rw [c33b0] | (simp only [i64_w, i32_w]; rw [c33b0]) | skip)
                        have H' := Aside0.mk H
                        clear H
                        have hnb37 := NB119_120.out
                        have hnc37 := NB120_119.out
                        have hcz38_0 : wc.cell? ⟨gb119, 0, none⟩ = some (.int .i64 a0_0) := (blk_cell BK119.out 0).trans rfl
                        have hcz38_1 : wc.cell? ⟨gb119, 1, none⟩ = some (.bool a0_1) := (blk_cell BK119.out 1).trans rfl
                        have hfz38_0 := blk_frozen BK119.out 0
                        have hfz38_1 := blk_frozen BK119.out 1
                        go_wp2
                        go_meet
                        case rel => exact ⟨_, (false), (by first | rfl | (simp; done) | (simp [*]; done)), H', ⟨by have := HJ2.out; have := HJ13.out; have := HJ23.out; first | omega | exact Nat.le_refl _⟩, ⟨by (with_reducible repeat (first | refine blk_drewN ?_ _ | refine blk_drew ?_ | refine blk_alloc ?_ _)); exact BK119.out⟩, ⟨by (with_reducible repeat (first | refine blk_drewN ?_ _ | refine blk_drew ?_ | refine blk_alloc ?_ _)); exact BK120.out⟩, ⟨by repeat (first | (with_reducible first | exact HB.out | apply below_alloc | apply pw_below_drewN | apply below_drew1 | refine below_set ?_ GE119.out | refine below_set ?_ GE120.out) | exact HB.out)⟩⟩
                    case rest =>
                      clear HC32
                      try clear c1
                      try clear c2
                      try clear p2
                      try clear c3
                      try clear c5
                      try clear c6
                      try clear c6b0
                      try clear c6b1
                      try clear c7
                      try clear c10
                      try clear c12
                      try clear c15
                      try clear c18
                      try clear c20
                      try clear c23
                      try clear c25
                      try clear c25b0
                      try clear c25b1
                      try clear c26
                      try clear c29
                      try clear c31
                      try clear c33
                      try clear c33b0
                      try clear c33b1
                      try clear c34
                      try clear c37
                      try clear hcz11_0
                      try clear hcz11_1
                      try clear hcz16_0
                      try clear hcz16_1
                      try clear hcz21_0
                      try clear hcz21_1
                      try clear hcz27_0
                      try clear hcz27_1
                      try clear hcz28_0
                      try clear hcz28_1
                      try clear hcz30_0
                      try clear hcz30_1
                      try clear hcz35_0
                      try clear hcz35_1
                      try clear hcz36_0
                      try clear hcz36_1
                      try clear hcz38_0
                      try clear hcz38_1
                      try clear hcz8_0
                      try clear hcz8_1
                      try clear hcz9_0
                      try clear hcz9_1
                      try clear hfz11_0
                      try clear hfz11_1
                      try clear hfz16_0
                      try clear hfz16_1
                      try clear hfz21_0
                      try clear hfz21_1
                      try clear hfz27_0
                      try clear hfz27_1
                      try clear hfz28_0
                      try clear hfz28_1
                      try clear hfz30_0
                      try clear hfz30_1
                      try clear hfz35_0
                      try clear hfz35_1
                      try clear hfz36_0
                      try clear hfz36_1
                      try clear hfz38_0
                      try clear hfz38_1
                      try clear hfz8_0
                      try clear hfz8_1
                      try clear hfz9_0
                      try clear hfz9_1
                      try clear p2
                      obtain ⟨kq, x30_31, rfl, HA, HJ31, BK119, BK120, HB⟩ := hcut
                      cases kq with
                      | zero => exact absurd HA.out (by simp [spec_wbNear.j3])
                      | succ kj31 =>
                        have H := HA.out
                        clear HA
                        simp only [spec_wbNear.j3] at H
                        by_cases c39 : x30_31 = true
                        · subst c39
                          have H1 : (some (true, false)) = some (r1, r2) := by rw [if_pos rfl] at H; exact H
                          clear H
                          have H := H1
                          clear H1
                          simp only [Option.some.injEq, Prod.mk.injEq] at H
                          obtain ⟨rfl, rfl⟩ := H
                          go_wp2
                          go_ret2
                          exact ⟨by first | rfl | (simp [errW_none, errW_some] <;> rfl) | (simp [*, errW_none, errW_some] <;> rfl), by repeat (first | (with_reducible first | exact HB.out | apply below_alloc | apply pw_below_drewN | apply below_drew1 | refine below_set ?_ GE119.out | refine below_set ?_ GE120.out) | exact HB.out)⟩
                        · replace c39 := Bool.eq_false_iff.mpr c39
                          subst c39
                          have H1 : ((spec_wbMute.f kj31 a1_0).bind fun t123 => (if t123 = true then (some (true, false)) else (some (false, false)))) = some (r1, r2) := by rw [if_neg (show ¬ (false = true) by decide)] at H; exact H
                          clear H
                          have H := H1
                          clear H1
                          replace H := Option.bind_eq_some_iff.mp H
                          obtain ⟨t123, A400, H⟩ := H
                          replace H : (if t123 = true then (some (true, false)) else (some (false, false))) = some (r1, r2) := H
                          have A40 := Aside0.mk A400
                          clear A400
                          by_cases c41 : t123 = true
                          · subst c41
                            have H1 : (some (true, false)) = some (r1, r2) := by rw [if_pos rfl] at H; exact H
                            clear H
                            have H := H1
                            clear H1
                            simp only [Option.some.injEq, Prod.mk.injEq] at H
                            obtain ⟨rfl, rfl⟩ := H
                            have hnb42 := NB120_119.out
                            have hnc42 := NB119_120.out
                            have hcz43_0 : wc.cell? ⟨gb120, 0, none⟩ = some (.int .i64 a1_0) := (blk_cell BK120.out 0).trans rfl
                            have hcz43_1 : wc.cell? ⟨gb120, 1, none⟩ = some (.bool a1_1) := (blk_cell BK120.out 1).trans rfl
                            have hfz43_0 := blk_frozen BK120.out 0
                            have hfz43_1 := blk_frozen BK120.out 1
                            go_wp2_with (first | ((with_reducible refine gate_callee (f := 30) rfl ?_); refine goesL_ (some 42) rfl rfl Try.func30 (by kernel_rfl) rfl #[.int .i64 a1_0] rfl (by (try simp only [List.map_toArray, List.map_cons, List.map_nil]); first | done | rfl | (simp only [List.length_drop, List.length_take]; rfl)) ?_; (with_reducible refine (spec_wbMute.calls kj31 a1_0 true _ A40.out).mono ?_); rintro e w44 ⟨rfl, hb⟩; refine ⟨_, rfl, ?_⟩; have n0_ := Aside0.mk (blk_below (g := gb119) (o := .cells #[.int .i64 a0_0, .bool a0_1] 32 (0, 0)) (by (with_reducible repeat (first | refine blk_drewN ?_ _ | refine blk_drew ?_ | refine blk_alloc ?_ _)); exact BK119.out) hb); have n1_ := Aside0.mk (blk_below (g := gb120) (o := .cells #[.int .i64 a1_0, .bool a1_1] 32 (0, 0)) (by (with_reducible repeat (first | refine blk_drewN ?_ _ | refine blk_drew ?_ | refine blk_alloc ?_ _)); exact BK120.out) hb); have n2_ := Aside0.mk (below_step (by repeat (first | (with_reducible first | exact HB.out | apply below_alloc | apply pw_below_drewN | apply below_drew1 | refine below_set ?_ GE119.out | refine below_set ?_ GE120.out) | exact HB.out)) hb); clear BK119; clear BK120; clear HB; have BK119 := n0_; have BK120 := n1_; have HB := n2_; clear n0_ n1_ n2_; (try clear hb); (try clear hb2); (try clear hk); (try clear hi)))
                            go_ret2
                            exact ⟨by first | rfl | (simp [errW_none, errW_some] <;> rfl) | (simp [*, errW_none, errW_some] <;> rfl), by repeat (first | (with_reducible first | exact HB.out | apply below_alloc | apply pw_below_drewN | apply below_drew1 | refine below_set ?_ GE119.out | refine below_set ?_ GE120.out) | exact HB.out)⟩
                          · replace c41 := Bool.eq_false_iff.mpr c41
                            subst c41
                            have H1 : (some (false, false)) = some (r1, r2) := by rw [if_neg (show ¬ (false = true) by decide)] at H; exact H
                            clear H
                            have H := H1
                            clear H1
                            simp only [Option.some.injEq, Prod.mk.injEq] at H
                            obtain ⟨rfl, rfl⟩ := H
                            have hnb45 := NB120_119.out
                            have hnc45 := NB119_120.out
                            have hcz46_0 : wc.cell? ⟨gb120, 0, none⟩ = some (.int .i64 a1_0) := (blk_cell BK120.out 0).trans rfl
                            have hcz46_1 : wc.cell? ⟨gb120, 1, none⟩ = some (.bool a1_1) := (blk_cell BK120.out 1).trans rfl
                            have hfz46_0 := blk_frozen BK120.out 0
                            have hfz46_1 := blk_frozen BK120.out 1
                            go_wp2_with (first | ((with_reducible refine gate_callee (f := 30) rfl ?_); refine goesL_ (some 42) rfl rfl Try.func30 (by kernel_rfl) rfl #[.int .i64 a1_0] rfl (by (try simp only [List.map_toArray, List.map_cons, List.map_nil]); first | done | rfl | (simp only [List.length_drop, List.length_take]; rfl)) ?_; (with_reducible refine (spec_wbMute.calls kj31 a1_0 false _ A40.out).mono ?_); rintro e w47 ⟨rfl, hb⟩; refine ⟨_, rfl, ?_⟩; have n0_ := Aside0.mk (blk_below (g := gb119) (o := .cells #[.int .i64 a0_0, .bool a0_1] 32 (0, 0)) (by (with_reducible repeat (first | refine blk_drewN ?_ _ | refine blk_drew ?_ | refine blk_alloc ?_ _)); exact BK119.out) hb); have n1_ := Aside0.mk (blk_below (g := gb120) (o := .cells #[.int .i64 a1_0, .bool a1_1] 32 (0, 0)) (by (with_reducible repeat (first | refine blk_drewN ?_ _ | refine blk_drew ?_ | refine blk_alloc ?_ _)); exact BK120.out) hb); have n2_ := Aside0.mk (below_step (by repeat (first | (with_reducible first | exact HB.out | apply below_alloc | apply pw_below_drewN | apply below_drew1 | refine below_set ?_ GE119.out | refine below_set ?_ GE120.out) | exact HB.out)) hb); clear BK119; clear BK120; clear HB; have BK119 := n0_; have BK120 := n1_; have HB := n2_; clear n0_ n1_ n2_; (try clear hb); (try clear hb2); (try clear hk); (try clear hi)))
                            go_ret2
                            exact ⟨by first | rfl | (simp [errW_none, errW_some] <;> rfl) | (simp [*, errW_none, errW_some] <;> rfl), by repeat (first | (with_reducible first | exact HB.out | apply below_alloc | apply pw_below_drewN | apply below_drew1 | refine below_set ?_ GE119.out | refine below_set ?_ GE120.out) | exact HB.out)⟩

/-! ### spec_wbAhead: function 56 -/
def spec_wbAhead.l0 : Nat → List (S32) → Int → Option (Int)
  | 0, _, _ => none
  | k + 1, x0, x1 => if x1 ≥ 0 then (if 0 ≤ x1 then (if x1 < (x0.length : Int) then ((spec_wbMute.f k ((rd_T32 x0 x1).f0)).bind fun t125 => (if t125 = true then (if x1 = 0 then (some x1) else (if 0 ≤ (wrap64 (x1 - 1)) then (if (wrap64 (x1 - 1)) < (x0.length : Int) then ((spec_wbNewline.f k ((rd_T32 x0 (wrap64 (x1 - 1))).f0)).bind fun t127 => (if t127 = true then (some x1) else (spec_wbAhead.l0 k x0 (wrap64 (x1 - 1))))) else (none)) else (none))) else (some x1))) else (none)) else (none)) else (some (-1))
def spec_wbAhead.f (k : Nat) (l0 : List (S32)) (a1 : Int) : Option (Int) := spec_wbAhead.l0 k l0 (wrap64 (a1 - 1))
theorem spec_wbAhead.mono_l : ∀ k, (∀ y0 y1, LeO (spec_wbAhead.l0 k y0 y1) (spec_wbAhead.l0 (k + 1) y0 y1))
  | 0 => fun _ _ r h => by simp [spec_wbAhead.l0] at h
  | k + 1 => by
    have ih0 := spec_wbAhead.mono_l k
    · intro y0 y1
      unfold spec_wbAhead.l0
      repeat' first
      | (with_reducible exact ih0 _ _)
      | (with_reducible exact spec_wbMute.mono _ _)
      | (with_reducible exact spec_wbNewline.mono _ _)
      | (with_reducible exact LeO.refl _)
      | (with_reducible exact LeO.none _)
      | (with_reducible refine LeO.ite ?_ ?_)
      | (with_reducible refine LeO.bind ?_ (fun _ => ?_))
      | exact ih0 _ _
      | exact spec_wbMute.mono _ _
      | exact spec_wbNewline.mono _ _
      | exact LeO.none _
      | refine LeO.ite ?_ ?_
      | refine LeO.bind ?_ (fun _ => ?_)
theorem spec_wbAhead.mono : ∀ a0 a1 k, LeO (spec_wbAhead.f k a0 a1) (spec_wbAhead.f (k + 1) a0 a1) := by
  intro a0 a1 k
  have ih0 := spec_wbAhead.mono_l k
  unfold spec_wbAhead.f
  repeat' first
      | (with_reducible exact ih0 _ _)
      | (with_reducible exact spec_wbMute.mono _ _)
      | (with_reducible exact spec_wbNewline.mono _ _)
      | (with_reducible exact LeO.refl _)
      | (with_reducible exact LeO.none _)
      | (with_reducible refine LeO.ite ?_ ?_)
      | (with_reducible refine LeO.bind ?_ (fun _ => ?_))
      | exact ih0 _ _
      | exact spec_wbMute.mono _ _
      | exact spec_wbNewline.mono _ _
      | exact LeO.none _
      | refine LeO.ite ?_ ?_
      | refine LeO.bind ?_ (fun _ => ?_)
set_option maxHeartbeats 8000000 in
set_option maxRecDepth 100000 in
theorem spec_wbAhead.calls (k : Nat) (A0 : Option Addr) (c0 : Nat) (l0 : List (S32)) (a1 : Int) (r : Int) (w : World) (hr0 : Kd.C k32 w A0 l0.length l0) (hc0 : l0.length ≤ c0) (h : spec_wbAhead.f k l0 a1 = some r) :
    Calls Try.prog 56 #[.slice A0 l0.length c0, .int .i64 a1] w fun e w' => e = .returned (.int .i64 r) ∧ Below w.heap.size w w' := by
  have HR0 := Aside0.mk hr0
  have HC0 := Aside0.mk hc0
  clear hr0 hc0
  have HB := Aside0.mk (Below.refl w.heap.size w)
  have H : (spec_wbAhead.l0 k l0 (wrap64 (a1 - 1))) = some r := h
  clear h
  have H' := Aside0.mk H
  clear H
  go_enter Try.func56, Try.ntmps56
  go_wp2
  go_loopg [1] k (fun kq v1 w' => ∃ (x1_1 : Int), v1 = .int .i64 x1_1 ∧ Aside0 (spec_wbAhead.l0 kq l0 x1_1 = some r) ∧ Aside0 (kq ≤ k) ∧ Aside0 (Below w.heap.size w w'))
  case atStart => exact ⟨(wrap64 (a1 - 1)), (by first | rfl | (simp; done) | (simp [*]; done)), H', ⟨Nat.le_refl _⟩, ⟨by repeat (first | (with_reducible first | exact HB.out | apply below_alloc | apply pw_below_drewN | apply below_drew1) | exact HB.out)⟩⟩
  case round =>
    clear H'
    try clear p2
    obtain ⟨x1_1, rfl, HA, HK1, HB⟩ := hrel
    cases gk with
    | zero => exact absurd HA.out (by simp [spec_wbAhead.l0])
    | succ k1 =>
      have H := HA.out
      clear HA
      simp only [spec_wbAhead.l0] at H
      by_cases c3 : x1_1 ≥ 0
      · rw [if_pos c3] at H
        have c3b0 : decide (0 ≤ x1_1) = true := decide_eq_true c3
        clear c3
        by_cases c4 : 0 ≤ x1_1
        · rw [if_pos c4] at H
          have c4b0 : decide (0 ≤ x1_1) = true := decide_eq_true c4
          clear c4
          by_cases c5 : x1_1 < (l0.length : Int)
          · rw [if_pos c5] at H
            have c5b0 : decide (x1_1 < (l0.length : Int)) = true := decide_eq_true c5
            clear c5
            replace H := Option.bind_eq_some_iff.mp H
            obtain ⟨t125, A60, H⟩ := H
            replace H : (if t125 = true then (if x1_1 = 0 then (some x1_1) else (if 0 ≤ (wrap64 (x1_1 - 1)) then (if (wrap64 (x1_1 - 1)) < (l0.length : Int) then ((spec_wbNewline.f k1 ((rd_T32 l0 (wrap64 (x1_1 - 1))).f0)).bind fun t127 => (if t127 = true then (some x1_1) else (spec_wbAhead.l0 k1 l0 (wrap64 (x1_1 - 1))))) else (none)) else (none))) else (some x1_1)) = some r := H
            have A6 := Aside0.mk A60
            clear A60
            by_cases c7 : t125 = true
            · subst c7
              have H1 : (if x1_1 = 0 then (some x1_1) else (if 0 ≤ (wrap64 (x1_1 - 1)) then (if (wrap64 (x1_1 - 1)) < (l0.length : Int) then ((spec_wbNewline.f k1 ((rd_T32 l0 (wrap64 (x1_1 - 1))).f0)).bind fun t127 => (if t127 = true then (some x1_1) else (spec_wbAhead.l0 k1 l0 (wrap64 (x1_1 - 1))))) else (none)) else (none))) = some r := by rw [if_pos rfl] at H; exact H
              clear H
              have H := H1
              clear H1
              by_cases c8 : x1_1 = 0
              · rw [if_pos c8] at H
                have c8b0 : (x1_1 == 0) = true := beq_iff_eq.mpr c8
                have c8b1 : (x1_1 != 0) = false := bne_eq_false_iff_eq.mpr c8
                clear c8
                obtain rfl := Option.some.inj H
                have p124 : 0 ≤ (x1_1 : Int) := of_decide_eq_true (by first | (with_reducible assumption) | assumption)
                have q124 : x1_1 < (l0.length : Int) := of_decide_eq_true (by first | (with_reducible assumption) | assumption)
                obtain ⟨ad124, e124, hx124_0, hx124_1⟩ := at_T32 HR0.out x1_1 p124 q124
                cases e124
                replace hx124_0 := (HB.out.cell (World.block_lt_of_cell? w _ hx124_0)).trans hx124_0
                replace hx124_1 := (HB.out.cell (World.block_lt_of_cell? w _ hx124_1)).trans hx124_1
                replace p124 := eq_true p124
                replace q124 := eq_true q124
                go_wp2_with (first | ((with_reducible refine gate_callee (f := 30) rfl ?_); refine goesL_ (some 16) rfl rfl Try.func30 (by kernel_rfl) rfl #[.int .i64 ((rd_T32 l0 x1_1).f0)] rfl (by (try simp only [List.map_toArray, List.map_cons, List.map_nil]); first | done | rfl | (simp only [List.length_drop, List.length_take]; rfl)) ?_; (with_reducible refine (spec_wbMute.calls k1 ((rd_T32 l0 x1_1).f0) true _ A6.out).mono ?_); rintro e w9 ⟨rfl, hb⟩; refine ⟨_, rfl, ?_⟩; have n0_ := Aside0.mk (below_step (by repeat (first | (with_reducible first | exact HB.out | apply below_alloc | apply pw_below_drewN | apply below_drew1) | exact HB.out)) hb); clear HB; have HB := n0_; clear n0_; (try clear hb); (try clear hb2); (try clear hk); (try clear hi)))
                go_ret
                exact ⟨by first | rfl | (simp [errW_none, errW_some] <;> rfl) | (simp [*, errW_none, errW_some] <;> rfl), by repeat (first | (with_reducible first | exact HB.out | apply below_alloc | apply pw_below_drewN | apply below_drew1) | exact HB.out)⟩
              · rw [if_neg c8] at H
                have c8b0 : (x1_1 == 0) = false := beq_eq_false_iff_ne.mpr c8
                have c8b1 : (x1_1 != 0) = true := bne_iff_ne.mpr c8
                obtain ⟨ji10, hji10⟩ : ∃ j_ : Int, (wrap64 (x1_1 - 1)) = j_ := ⟨_, rfl⟩
                replace H : (if 0 ≤ (ji10) then (if (ji10) < (l0.length : Int) then ((spec_wbNewline.f k1 ((rd_T32 l0 (ji10)).f0)).bind fun t127 => (if t127 = true then (some x1_1) else (spec_wbAhead.l0 k1 l0 ji10))) else (none)) else (none)) = some r := by first | (rw [hji10] at H; exact H) | (simp only [hji10] at H ⊢; exact H)
                (try rw [hji10] at A6)
                have hji10w : (IntKind.i64.wrap (x1_1 - 1)) = ji10 := (i64_w _).trans hji10
                by_cases c11 : 0 ≤ (ji10)
                · rw [if_pos c11] at H
                  have c11b0 : decide (0 ≤ (ji10)) = true := decide_eq_true c11
                  clear c11
                  by_cases c12 : (ji10) < (l0.length : Int)
                  · rw [if_pos c12] at H
                    have c12b0 : decide ((ji10) < (l0.length : Int)) = true := decide_eq_true c12
                    clear c12
                    replace H := Option.bind_eq_some_iff.mp H
                    obtain ⟨t127, A130, H⟩ := H
                    replace H : (if t127 = true then (some x1_1) else (spec_wbAhead.l0 k1 l0 ji10)) = some r := H
                    have A13 := Aside0.mk A130
                    clear A130
                    by_cases c14 : t127 = true
                    · subst c14
                      have H1 : (some x1_1) = some r := by rw [if_pos rfl] at H; exact H
                      clear H
                      have H := H1
                      clear H1
                      obtain rfl := Option.some.inj H
                      have p124 : 0 ≤ (x1_1 : Int) := of_decide_eq_true (by first | (with_reducible assumption) | assumption)
                      have q124 : x1_1 < (l0.length : Int) := of_decide_eq_true (by first | (with_reducible assumption) | assumption)
                      obtain ⟨ad124, e124, hx124_0, hx124_1⟩ := at_T32 HR0.out x1_1 p124 q124
                      cases e124
                      replace hx124_0 := (HB.out.cell (World.block_lt_of_cell? w _ hx124_0)).trans hx124_0
                      replace hx124_1 := (HB.out.cell (World.block_lt_of_cell? w _ hx124_1)).trans hx124_1
                      replace p124 := eq_true p124
                      replace q124 := eq_true q124
                      go_wp2_with (first | ((with_reducible refine gate_callee (f := 30) rfl ?_); refine goesL_ (some 16) rfl rfl Try.func30 (by kernel_rfl) rfl #[.int .i64 ((rd_T32 l0 x1_1).f0)] rfl (by (try simp only [List.map_toArray, List.map_cons, List.map_nil]); first | done | rfl | (simp only [List.length_drop, List.length_take]; rfl)) ?_; (with_reducible refine (spec_wbMute.calls k1 ((rd_T32 l0 x1_1).f0) true _ A6.out).mono ?_); rintro e w15 ⟨rfl, hb⟩; refine ⟨_, rfl, ?_⟩; have n0_ := Aside0.mk (below_step (by repeat (first | (with_reducible first | exact HB.out | apply below_alloc | apply pw_below_drewN | apply below_drew1) | exact HB.out)) hb); clear HB; have HB := n0_; clear n0_; (try clear hb); (try clear hb2); (try clear hk); (try clear hi); have p126 : 0 ≤ ((ji10) : Int) := of_decide_eq_true (by first | (with_reducible assumption) | assumption); have q126 : (ji10) < (l0.length : Int) := of_decide_eq_true (by first | (with_reducible assumption) | assumption); obtain ⟨ad126, e126, hx126_0, hx126_1⟩ := at_T32 HR0.out (ji10) p126 q126; obtain rfl : ad124 = ad126 := (by injection e126); replace hx126_0 := (HB.out.cell (World.block_lt_of_cell? w _ hx126_0)).trans hx126_0; replace hx126_1 := (HB.out.cell (World.block_lt_of_cell? w _ hx126_1)).trans hx126_1; replace p126 := eq_true p126; replace q126 := eq_true q126) | (go_at_call 55; (with_reducible refine (spec_wbNewline.calls k1 ((rd_T32 l0 (ji10)).f0) true _ A13.out).mono ?_); rintro e w16 ⟨rfl, hb⟩; have n0_ := Aside0.mk (below_step (by repeat (first | (with_reducible first | exact HB.out | apply below_alloc | apply pw_below_drewN | apply below_drew1) | exact HB.out)) hb); clear HB; have HB := n0_; clear n0_; (try clear hb); (try clear hb2); (try clear hk); (try clear hi)))
                      go_ret
                      exact ⟨by first | rfl | (simp [errW_none, errW_some] <;> rfl) | (simp only [← hji10]; first | rfl | (simp [errW_none, errW_some] <;> rfl)) | (simp [*, errW_none, errW_some] <;> rfl), by repeat (first | (with_reducible first | exact HB.out | apply below_alloc | apply pw_below_drewN | apply below_drew1) | exact HB.out)⟩
                    · replace c14 := Bool.eq_false_iff.mpr c14
                      subst c14
                      have H1 : (spec_wbAhead.l0 k1 l0 ji10) = some r := by rw [if_neg (show ¬ (false = true) by decide)] at H; exact H
                      clear H
                      have H := H1
                      clear H1
                      have H' := Aside0.mk H
                      clear H
                      have p124 : 0 ≤ (x1_1 : Int) := of_decide_eq_true (by first | (with_reducible assumption) | assumption)
                      have q124 : x1_1 < (l0.length : Int) := of_decide_eq_true (by first | (with_reducible assumption) | assumption)
                      obtain ⟨ad124, e124, hx124_0, hx124_1⟩ := at_T32 HR0.out x1_1 p124 q124
                      cases e124
                      replace hx124_0 := (HB.out.cell (World.block_lt_of_cell? w _ hx124_0)).trans hx124_0
                      replace hx124_1 := (HB.out.cell (World.block_lt_of_cell? w _ hx124_1)).trans hx124_1
                      replace p124 := eq_true p124
                      replace q124 := eq_true q124
                      go_wp2_with (first | ((with_reducible refine gate_callee (f := 30) rfl ?_); refine goesL_ (some 16) rfl rfl Try.func30 (by kernel_rfl) rfl #[.int .i64 ((rd_T32 l0 x1_1).f0)] rfl (by (try simp only [List.map_toArray, List.map_cons, List.map_nil]); first | done | rfl | (simp only [List.length_drop, List.length_take]; rfl)) ?_; (with_reducible refine (spec_wbMute.calls k1 ((rd_T32 l0 x1_1).f0) true _ A6.out).mono ?_); rintro e w17 ⟨rfl, hb⟩; refine ⟨_, rfl, ?_⟩; have n0_ := Aside0.mk (below_step (by repeat (first | (with_reducible first | exact HB.out | apply below_alloc | apply pw_below_drewN | apply below_drew1) | exact HB.out)) hb); clear HB; have HB := n0_; clear n0_; (try clear hb); (try clear hb2); (try clear hk); (try clear hi); have p126 : 0 ≤ ((ji10) : Int) := of_decide_eq_true (by first | (with_reducible assumption) | assumption); have q126 : (ji10) < (l0.length : Int) := of_decide_eq_true (by first | (with_reducible assumption) | assumption); obtain ⟨ad126, e126, hx126_0, hx126_1⟩ := at_T32 HR0.out (ji10) p126 q126; obtain rfl : ad124 = ad126 := (by injection e126); replace hx126_0 := (HB.out.cell (World.block_lt_of_cell? w _ hx126_0)).trans hx126_0; replace hx126_1 := (HB.out.cell (World.block_lt_of_cell? w _ hx126_1)).trans hx126_1; replace p126 := eq_true p126; replace q126 := eq_true q126) | (go_at_call 55; (with_reducible refine (spec_wbNewline.calls k1 ((rd_T32 l0 (ji10)).f0) false _ A13.out).mono ?_); rintro e w18 ⟨rfl, hb⟩; have n0_ := Aside0.mk (below_step (by repeat (first | (with_reducible first | exact HB.out | apply below_alloc | apply pw_below_drewN | apply below_drew1) | exact HB.out)) hb); clear HB; have HB := n0_; clear n0_; (try clear hb); (try clear hb2); (try clear hk); (try clear hi)))
                      go_roundg k1
                      case measure => have := HK1.out; omega
                      case rel => exact ⟨(ji10), (by first | rfl | (simp; done) | (simp only [← hji10] <;> (first | rfl | simp)) | (simp [*]; done)), H', ⟨by have := HK1.out; omega⟩, ⟨by repeat (first | (with_reducible first | exact HB.out | apply below_alloc | apply pw_below_drewN | apply below_drew1) | exact HB.out)⟩⟩
                  · rw [if_neg c12] at H
                    exact absurd H (by simp)
                · rw [if_neg c11] at H
                  exact absurd H (by simp)
            · replace c7 := Bool.eq_false_iff.mpr c7
              subst c7
              have H1 : (some x1_1) = some r := by rw [if_neg (show ¬ (false = true) by decide)] at H; exact H
              clear H
              have H := H1
              clear H1
              obtain rfl := Option.some.inj H
              have p124 : 0 ≤ (x1_1 : Int) := of_decide_eq_true (by first | (with_reducible assumption) | assumption)
              have q124 : x1_1 < (l0.length : Int) := of_decide_eq_true (by first | (with_reducible assumption) | assumption)
              obtain ⟨ad124, e124, hx124_0, hx124_1⟩ := at_T32 HR0.out x1_1 p124 q124
              cases e124
              replace hx124_0 := (HB.out.cell (World.block_lt_of_cell? w _ hx124_0)).trans hx124_0
              replace hx124_1 := (HB.out.cell (World.block_lt_of_cell? w _ hx124_1)).trans hx124_1
              replace p124 := eq_true p124
              replace q124 := eq_true q124
              go_wp2_with (first | ((with_reducible refine gate_callee (f := 30) rfl ?_); refine goesL_ (some 16) rfl rfl Try.func30 (by kernel_rfl) rfl #[.int .i64 ((rd_T32 l0 x1_1).f0)] rfl (by (try simp only [List.map_toArray, List.map_cons, List.map_nil]); first | done | rfl | (simp only [List.length_drop, List.length_take]; rfl)) ?_; (with_reducible refine (spec_wbMute.calls k1 ((rd_T32 l0 x1_1).f0) false _ A6.out).mono ?_); rintro e w19 ⟨rfl, hb⟩; refine ⟨_, rfl, ?_⟩; have n0_ := Aside0.mk (below_step (by repeat (first | (with_reducible first | exact HB.out | apply below_alloc | apply pw_below_drewN | apply below_drew1) | exact HB.out)) hb); clear HB; have HB := n0_; clear n0_; (try clear hb); (try clear hb2); (try clear hk); (try clear hi)))
              go_ret
              exact ⟨by first | rfl | (simp [errW_none, errW_some] <;> rfl) | (simp [*, errW_none, errW_some] <;> rfl), by repeat (first | (with_reducible first | exact HB.out | apply below_alloc | apply pw_below_drewN | apply below_drew1) | exact HB.out)⟩
          · rw [if_neg c5] at H
            exact absurd H (by simp)
        · rw [if_neg c4] at H
          exact absurd H (by simp)
      · rw [if_neg c3] at H
        have c3b0 : decide (0 ≤ x1_1) = false := decide_eq_false c3
        clear c3
        obtain rfl := Option.some.inj H
        go_wp2
        go_ret
        exact ⟨by first | rfl | (simp [errW_none, errW_some] <;> rfl) | (simp [*, errW_none, errW_some] <;> rfl), by repeat (first | (with_reducible first | exact HB.out | apply below_alloc | apply pw_below_drewN | apply below_drew1) | exact HB.out)⟩

end Go.Proofs.Ytnanfoahimccpaa.Wd
