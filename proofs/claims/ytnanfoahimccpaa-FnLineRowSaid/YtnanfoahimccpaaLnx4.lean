/- Functions of the translation as Lean functions, and their walks: lines written by a program, a turned copy of the kit's print. -/
import Derived.Test.YtnanfoahimccpaaLnx0
import Derived.Test.YtnanfoahimccpaaLnx1
import Derived.Test.YtnanfoahimccpaaLnx2
namespace Go.Proofs.Ytnanfoahimccpaa.Ln
open Go.RowKit Go.Proofs.YtnanfoahimccpaaW.PrintWords Go.Proofs.YtnanfoahimccpaaW.PrintLast Go.Proofs.YtnanfoahimccpaaW.PrintMore
attribute [local go_sem] max2_int max_two
set_option linter.unusedVariables false
set_option linter.unusedSimpArgs false

mutual
def spec_lbRow.l0 : Nat → List (S64) → Int → List (S64) → Int → List (S64) → Int → Int → Option ((List (S64)) × Int)
 | 0, _, _, _, _, _, _, _ => none
 | k + 1, x0, x1, x4, x5, x8, x9, x10 => if x10 < x9 then (if 0 ≤ x10 then (if x10 < (x8.length : Int) then (if x10 = x1 then (spec_lbRow.j1 k x0 x1 x4 (x4.length : Int) x10 x8 x9 x10 ((rd_T64 x8 x10).f0) ((rd_T64 x8 x10).f1) ((rd_T64 x8 x10).f2) ((rd_T64 x8 x10).f3)) else (spec_lbRow.j1 k x0 x1 x4 x5 x10 x8 x9 x10 ((rd_T64 x8 x10).f0) ((rd_T64 x8 x10).f1) ((rd_T64 x8 x10).f2) ((rd_T64 x8 x10).f3))) else (none)) else (none)) else (some (x4, x5))
def spec_lbRow.j1 : Nat → List (S64) → Int → List (S64) → Int → Int → List (S64) → Int → Int → Int → Int → Int → Bool → Option ((List (S64)) × Int)
 | 0, _, _, _, _, _, _, _, _, _, _, _, _ => none
 | k + 1, x0, x1, x4, x5, x6, x8, x9, x10, x176000, x176001, x176002, x176003 => (spec_lbResolved.f k x176000 x176001 x176002 x176003).bind fun t176 => ((spec_lbMark.f k t176).bind fun t177 => (if t177 = true then (if x6 > 0 then (if 0 ≤ (wrap64 (x6 - 1)) then (if (wrap64 (x6 - 1)) < (x0.length : Int) then ((spec_lbResolved.f k ((rd_T64 x0 (wrap64 (x6 - 1))).f0) ((rd_T64 x0 (wrap64 (x6 - 1))).f1) ((rd_T64 x0 (wrap64 (x6 - 1))).f2) ((rd_T64 x0 (wrap64 (x6 - 1))).f3)).bind fun t179 => ((spec_lbBare.f k t179).bind fun t180 => (if t180 = true then (if x4.length < 4398046511104 then (spec_lbRow.l0 k x0 x1 (x4 ++ [(⟨12, x176001, x176002, x176003⟩ : S64)]) x5 x8 x9 (wrap64 (x10 + 1))) else (none)) else (spec_lbRow.l0 k x0 x1 x4 x5 x8 x9 (wrap64 (x10 + 1)))))) else (none)) else (none)) else (if x4.length < 4398046511104 then (spec_lbRow.l0 k x0 x1 (x4 ++ [(⟨12, x176001, x176002, x176003⟩ : S64)]) x5 x8 x9 (wrap64 (x10 + 1))) else (none))) else (if x4.length < 4398046511104 then (spec_lbRow.l0 k x0 x1 (x4 ++ [(⟨t176, x176001, x176002, x176003⟩ : S64)]) x5 x8 x9 (wrap64 (x10 + 1))) else (none))))
end
def spec_lbRow.f (k : Nat) (l0 : List (S64)) (a1 : Int) : Option ((List (S64)) × Int) := spec_lbRow.l0 k l0 a1 ([] : List (S64)) 0 l0 (l0.length : Int) 0
set_option maxHeartbeats 8000000 in
set_option maxRecDepth 100000 in
theorem spec_lbRow.calls (k : Nat) (A0 : Option Addr) (c0 : Nat) (l0 : List (S64)) (a1 : Int) (r1 : List (S64)) (r2 : Int) (w : World) (hr0 : Kd.C k64 w A0 l0.length l0) (hc0 : l0.length ≤ c0) (h : spec_lbRow.f k l0 a1 = some (r1, r2)) :
  Calls Try.prog 62 #[.slice A0 l0.length c0, .int .i64 a1] w fun e w' => ∃ v0_ : Value, e = .returned (.tuple #[v0_, .int .i64 r2]) ∧ Kd.R k64 64 w' w.heap.size (fun _ => True) v0_ r1 ∧ Below w.heap.size w w' := by
 have hu64 := Try.underlying64
 have HR0 := Aside0.mk hr0
 have HC0 := Aside0.mk hc0
 clear hr0 hc0
 have HB := Aside0.mk (Below.refl w.heap.size w)
 have H : (spec_lbRow.l0 k l0 a1 ([] : List (S64)) 0 l0 (l0.length : Int) 0) = some (r1, r2) := h
 clear h
 have H' := Aside0.mk H
 clear H
 go_enter Try.func62, Try.ntmps62
 go_wp2
 go_loopg [4, 5, 10] k (fun kq v4 v5 v10 w' => ∃ (x4_1 : List (S64)) (x5_1 : Int) (x10_1 : Int), v5 = .int .i64 x5_1 ∧ v10 = .int .i64 x10_1 ∧ Aside0 (spec_lbRow.l0 kq l0 a1 x4_1 x5_1 l0 (l0.length : Int) x10_1 = some (r1, r2)) ∧ Aside0 (kq ≤ k) ∧ Aside0 (Kd.R k64 64 w' w.heap.size (fun _ => True) v4 x4_1) ∧ Aside0 (Below w.heap.size w w'))
 case atStart => exact ⟨(([] : List (S64))), (0), (0), vz, vz, H', ⟨Nat.le_refl _⟩, ⟨by first | exact Kd.R_nil _ _ _ _ _ | exact Kd.N_nil _ _ _ _ _ | exact Kd.V_nil _ _ _ _ _ | exact Kd.Q_nil _ _ _ _ _ | exact Kd.S_nil _ _ _ _ _⟩, ⟨bz⟩⟩
 case round =>
  clear H'
  obtain ⟨x4_1, x5_1, x10_1, rfl, rfl, HA, HK1, HO_4, HB⟩ := hrel
  cases gk with
  | zero => exact absurd HA.out (by simp [spec_lbRow.l0])
  | succ k1 =>
   have H := HA.out
   clear HA
   simp only [spec_lbRow.l0] at H
   by_cases c3 : x10_1 < (l0.length : Int)
   ·rw [if_pos c3] at H
    have c3b0 : decide (x10_1 < (l0.length : Int)) = true := decide_eq_true c3
    clear c3
    by_cases c4 : 0 ≤ x10_1
    ·rw [if_pos c4] at H
     have c4b0 : decide (0 ≤ x10_1) = true := decide_eq_true c4
     clear c4
     by_cases c5 : x10_1 < (l0.length : Int)
     ·rw [if_pos c5] at H
      have c5b0 : decide (x10_1 < (l0.length : Int)) = true := decide_eq_true c5
      clear c5
      have HC6 := Aside0.mk H
      clear H
      have p174 : 0 ≤ (x10_1 : Int) := of_decide_eq_true az
      have q174 : x10_1 < (l0.length : Int) := of_decide_eq_true az
      obtain ⟨ad174, e174, hx174_0, hx174_1, hx174_2, hx174_3⟩ := at_T64 HR0.out x10_1 p174 q174
      cases e174
      replace hx174_0 := (HB.out.cell (World.block_lt_of_cell? w _ hx174_0)).trans hx174_0
      replace hx174_1 := (HB.out.cell (World.block_lt_of_cell? w _ hx174_1)).trans hx174_1
      replace hx174_2 := (HB.out.cell (World.block_lt_of_cell? w _ hx174_2)).trans hx174_2
      replace hx174_3 := (HB.out.cell (World.block_lt_of_cell? w _ hx174_3)).trans hx174_3
      replace p174 := eq_true p174
      replace q174 := eq_true q174
      go_upto_if 17 with (first | ((with_reducible refine gate_dst (N := 7) rfl ?_); refine box_event ?hg (N := 7) ?hd (cs := #[.int .i64 0, .int .i64 0, .int .i64 0, .bool false]) (t := 64) ?hr ?_; (case hd => rfl); (case hg => rfl); (case hr => first | (go_simp; done) | (go_simp; rfl)); intro gb175 hg w7 hbox hb; have n0_ := Aside0.mk (Kd.R_below (Kd.R_elderB (by (with_reducible repeat (first | apply Kd.R_alloc | apply Kd.R_drewN | apply Kd.R_drew)); exact HO_4.out) gb175 (Nat.le_of_eq hg.symm)) hb); have n1_ := Aside0.mk (below_step bz hb); have n2_ := Aside0.mk (hbox); have n3_ := Aside0.mk ((by rw [hg]; exact (below_size bz) : w.heap.size ≤ gb175)); have n4_ := Aside0.mk ((by rw [hg]; exact (below_size bz) : w.heap.size ≤ gb175)); clear HO_4; clear HB; have HO_4 := n0_; have HB := n1_; have BK175 := n2_; have GW175 := n3_; have GE175 := n4_; clear n0_ n1_ n2_ n3_ n4_; clear hb hbox hg; have hcz8_0 : w7.cell? ⟨gb175, 0, none⟩ = some (.int .i64 0) := (blk_cell BK175.out 0).trans rfl; have hcz8_1 : w7.cell? ⟨gb175, 1, none⟩ = some (.int .i64 0) := (blk_cell BK175.out 1).trans rfl; have hcz8_2 : w7.cell? ⟨gb175, 2, none⟩ = some (.int .i64 0) := (blk_cell BK175.out 2).trans rfl; have hcz8_3 : w7.cell? ⟨gb175, 3, none⟩ = some (.bool false) := (blk_cell BK175.out 3).trans rfl; have hfz8_0 := blk_frozen BK175.out 0; have hfz8_1 := blk_frozen BK175.out 1; have hfz8_2 := blk_frozen BK175.out 2; have hfz8_3 := blk_frozen BK175.out 3))
      (try simp only [Act.put, List.setIfInBounds_toArray, List.set_cons_zero, List.set_cons_succ])
      go_cut [5] (fun v5 wc => ∃ (kq : Nat) (x5_5 : Int), v5 = .int .i64 x5_5 ∧ Aside0 (spec_lbRow.j1 kq l0 a1 x4_1 x5_5 x10_1 l0 (l0.length : Int) x10_1 ((rd_T64 l0 x10_1).f0) ((rd_T64 l0 x10_1).f1) ((rd_T64 l0 x10_1).f2) ((rd_T64 l0 x10_1).f3) = some (r1, r2)) ∧ Aside0 (kq ≤ k1) ∧ Aside0 (Kd.R k64 64 wc w.heap.size (fun k_ => k_ ≠ gb175) u4 x4_1) ∧ Aside0 (wc.heap[gb175]? = some (.cells #[.int .i64 ((rd_T64 l0 x10_1).f0), .int .i64 ((rd_T64 l0 x10_1).f1), .int .i64 ((rd_T64 l0 x10_1).f2), .bool ((rd_T64 l0 x10_1).f3)] 64 (0, 0))) ∧ Aside0 (Below w.heap.size w wc))
      case first =>
       have H := HC6.out
       clear HC6
       by_cases c9 : x10_1 = a1
       ·rw [if_pos c9] at H
        have c9b0 : (x10_1 == a1) = true := beq_iff_eq.mpr c9
        have c9b1 : (x10_1 != a1) = false := bne_eq_false_iff_eq.mpr c9
        clear c9
        (first | rw [c9b0] | (simp only [i64_w]; rw [c9b0]) | skip)
        have H' := Aside0.mk H
        clear H
        obtain ⟨Ao10, co10, eo10⟩ := Kd.R_slice HO_4.out
        subst eo10
        go_wp2
        go_meet
        case rel => exact ⟨_, ((x4_1.length : Int)), vz, H', ⟨by have := HK1.out; first | omega | exact Nat.le_refl _⟩, ⟨by (with_reducible repeat (first | apply Kd.R_alloc | apply Kd.R_drewN | apply Kd.R_drew)); exact Kd.R_mono (Kd.R_far (p := ⟨gb175, 3, none⟩) (Kd.R_far (p := ⟨gb175, 2, none⟩) (Kd.R_far (p := ⟨gb175, 1, none⟩) (Kd.R_far (p := ⟨gb175, 0, none⟩) (Kd.R_mono HO_4.out (fun k_ hk => (⟨hk, hk.2⟩ : _ ∧ k_ ≠ gb175))) (fun _ hk => hk.2) (.int .i64 ((rd_T64 l0 x10_1).f0))) (fun _ hk => hk.2) (.int .i64 ((rd_T64 l0 x10_1).f1))) (fun _ hk => hk.2) (.int .i64 ((rd_T64 l0 x10_1).f2))) (fun _ hk => hk.2) (.bool ((rd_T64 l0 x10_1).f3))) (fun _ hk => hk.1.2)⟩, ⟨by (with_reducible repeat (first | refine blk_drewN ?_ _ | refine blk_drew ?_ | refine blk_alloc ?_ _)); refine blk_put (cs := #[.int .i64 ((rd_T64 l0 x10_1).f0), .int .i64 ((rd_T64 l0 x10_1).f1), .int .i64 ((rd_T64 l0 x10_1).f2), .bool false]) ?_ 3 _ rfl; (with_reducible repeat (first | refine blk_drewN ?_ _ | refine blk_drew ?_ | refine blk_alloc ?_ _)); refine blk_put (cs := #[.int .i64 ((rd_T64 l0 x10_1).f0), .int .i64 ((rd_T64 l0 x10_1).f1), .int .i64 0, .bool false]) ?_ 2 _ rfl; (with_reducible repeat (first | refine blk_drewN ?_ _ | refine blk_drew ?_ | refine blk_alloc ?_ _)); refine blk_put (cs := #[.int .i64 ((rd_T64 l0 x10_1).f0), .int .i64 0, .int .i64 0, .bool false]) ?_ 1 _ rfl; (with_reducible repeat (first | refine blk_drewN ?_ _ | refine blk_drew ?_ | refine blk_alloc ?_ _)); refine blk_put (cs := #[.int .i64 0, .int .i64 0, .int .i64 0, .bool false]) ?_ 0 _ rfl; (with_reducible repeat (first | refine blk_drewN ?_ _ | refine blk_drew ?_ | refine blk_alloc ?_ _)); exact BK175.out⟩, ⟨bs⟩⟩
       ·rw [if_neg c9] at H
        have c9b0 : (x10_1 == a1) = false := beq_eq_false_iff_ne.mpr c9
        have c9b1 : (x10_1 != a1) = true := bne_iff_ne.mpr c9
        (first | rw [c9b0] | (simp only [i64_w]; rw [c9b0]) | skip)
        have H' := Aside0.mk H
        clear H
        go_wp2
        go_meet
        case rel => exact ⟨_, (x5_1), vz, H', ⟨by have := HK1.out; first | omega | exact Nat.le_refl _⟩, ⟨by (with_reducible repeat (first | apply Kd.R_alloc | apply Kd.R_drewN | apply Kd.R_drew)); exact Kd.R_mono (Kd.R_far (p := ⟨gb175, 3, none⟩) (Kd.R_far (p := ⟨gb175, 2, none⟩) (Kd.R_far (p := ⟨gb175, 1, none⟩) (Kd.R_far (p := ⟨gb175, 0, none⟩) (Kd.R_mono HO_4.out (fun k_ hk => (⟨hk, hk.2⟩ : _ ∧ k_ ≠ gb175))) (fun _ hk => hk.2) (.int .i64 ((rd_T64 l0 x10_1).f0))) (fun _ hk => hk.2) (.int .i64 ((rd_T64 l0 x10_1).f1))) (fun _ hk => hk.2) (.int .i64 ((rd_T64 l0 x10_1).f2))) (fun _ hk => hk.2) (.bool ((rd_T64 l0 x10_1).f3))) (fun _ hk => hk.1.2)⟩, ⟨by (with_reducible repeat (first | refine blk_drewN ?_ _ | refine blk_drew ?_ | refine blk_alloc ?_ _)); refine blk_put (cs := #[.int .i64 ((rd_T64 l0 x10_1).f0), .int .i64 ((rd_T64 l0 x10_1).f1), .int .i64 ((rd_T64 l0 x10_1).f2), .bool false]) ?_ 3 _ rfl; (with_reducible repeat (first | refine blk_drewN ?_ _ | refine blk_drew ?_ | refine blk_alloc ?_ _)); refine blk_put (cs := #[.int .i64 ((rd_T64 l0 x10_1).f0), .int .i64 ((rd_T64 l0 x10_1).f1), .int .i64 0, .bool false]) ?_ 2 _ rfl; (with_reducible repeat (first | refine blk_drewN ?_ _ | refine blk_drew ?_ | refine blk_alloc ?_ _)); refine blk_put (cs := #[.int .i64 ((rd_T64 l0 x10_1).f0), .int .i64 0, .int .i64 0, .bool false]) ?_ 1 _ rfl; (with_reducible repeat (first | refine blk_drewN ?_ _ | refine blk_drew ?_ | refine blk_alloc ?_ _)); refine blk_put (cs := #[.int .i64 0, .int .i64 0, .int .i64 0, .bool false]) ?_ 0 _ rfl; (with_reducible repeat (first | refine blk_drewN ?_ _ | refine blk_drew ?_ | refine blk_alloc ?_ _)); exact BK175.out⟩, ⟨bs⟩⟩
      case rest =>
       clear HC6
       obtain ⟨kq, x5_5, rfl, HA, HJ5, HO_4, BK175, HB⟩ := hcut
       cases kq with
       | zero => exact absurd HA.out (by simp [spec_lbRow.j1])
       | succ kj5 =>
        have H := HA.out
        clear HA
        simp only [spec_lbRow.j1] at H
        replace H := Option.bind_eq_some_iff.mp H
        obtain ⟨t176, A110, H⟩ := H
        try dsimp only at H
        have A11 := Aside0.mk A110
        clear A110
        replace H := Option.bind_eq_some_iff.mp H
        obtain ⟨t177, A120, H⟩ := H
        try dsimp only at H
        have A12 := Aside0.mk A120
        clear A120
        by_cases c13 : t177 = true
        ·subst c13
         rw [if_pos rfl] at H
         by_cases c14 : x10_1 > 0
         ·rw [if_pos c14] at H
          have c14b0 : decide (0 < x10_1) = true := decide_eq_true c14
          clear c14
          obtain ⟨ji15, hji15⟩ : ∃ j_ : Int, (wrap64 (x10_1 - 1)) = j_ := ⟨_, rfl⟩
          first | rw [hji15] at H | simp only [hji15] at H
          (try rw [hji15] at A11)
          (try rw [hji15] at A12)
          have hji15w : (IntKind.i64.wrap (x10_1 - 1)) = ji15 := (i64_w _).trans hji15
          by_cases c16 : 0 ≤ (ji15)
          ·rw [if_pos c16] at H
           have c16b0 : decide (0 ≤ (ji15)) = true := decide_eq_true c16
           clear c16
           by_cases c17 : (ji15) < (l0.length : Int)
           ·rw [if_pos c17] at H
            have c17b0 : decide ((ji15) < (l0.length : Int)) = true := decide_eq_true c17
            clear c17
            replace H := Option.bind_eq_some_iff.mp H
            obtain ⟨t179, A180, H⟩ := H
            try dsimp only at H
            have A18 := Aside0.mk A180
            clear A180
            replace H := Option.bind_eq_some_iff.mp H
            obtain ⟨t180, A190, H⟩ := H
            try dsimp only at H
            have A19 := Aside0.mk A190
            clear A190
            by_cases c20 : t180 = true
            ·subst c20
             rw [if_pos rfl] at H
             by_cases c21 : x4_1.length < 4398046511104
             ·rw [if_pos c21] at H
              have LMc21 := Aside0.mk c21
              clear c21
              obtain ⟨y181, hy181⟩ : ∃ y_ : List (S64), y_ = (x4_1 ++ [(⟨12, ((rd_T64 l0 x10_1).f1), ((rd_T64 l0 x10_1).f2), ((rd_T64 l0 x10_1).f3)⟩ : S64)]) := ⟨_, rfl⟩
              first | rw [← hy181] at H | simp only [← hy181] at H
              have Ny181 := Aside0.mk hy181
              clear hy181
              have H' := Aside0.mk H
              clear H
              have hcz22_0 : wc.cell? ⟨gb175, 0, none⟩ = some (.int .i64 ((rd_T64 l0 x10_1).f0)) := (blk_cell BK175.out 0).trans rfl
              have hcz22_1 : wc.cell? ⟨gb175, 1, none⟩ = some (.int .i64 ((rd_T64 l0 x10_1).f1)) := (blk_cell BK175.out 1).trans rfl
              have hcz22_2 : wc.cell? ⟨gb175, 2, none⟩ = some (.int .i64 ((rd_T64 l0 x10_1).f2)) := (blk_cell BK175.out 2).trans rfl
              have hcz22_3 : wc.cell? ⟨gb175, 3, none⟩ = some (.bool ((rd_T64 l0 x10_1).f3)) := (blk_cell BK175.out 3).trans rfl
              have hfz22_0 := blk_frozen BK175.out 0
              have hfz22_1 := blk_frozen BK175.out 1
              have hfz22_2 := blk_frozen BK175.out 2
              have hfz22_3 := blk_frozen BK175.out 3
              go_wp2_with (first | ((with_reducible refine gate_callee (f := 76) rfl ?_); refine goesL_ (some 21) rfl rfl Try.func76 (by kernel_rfl) rfl #[.agg #[.int .i64 ((rd_T64 l0 x10_1).f0), .int .i64 ((rd_T64 l0 x10_1).f1), .int .i64 ((rd_T64 l0 x10_1).f2), .bool ((rd_T64 l0 x10_1).f3)]] rfl mz ?_; (with_reducible refine (spec_lbResolved.calls kj5 ((rd_T64 l0 x10_1).f0) ((rd_T64 l0 x10_1).f1) ((rd_T64 l0 x10_1).f2) ((rd_T64 l0 x10_1).f3) t176 _ A11.out).mono ?_); rintro e w23 ⟨rfl, hb⟩; refine ⟨_, rfl, ?_⟩; have n0_ := Aside0.mk (Kd.R_below (by (with_reducible repeat (first | apply Kd.R_alloc | apply Kd.R_drewN | apply Kd.R_drew)); exact HO_4.out) hb); have n1_ := Aside0.mk (blk_below (g := gb175) (o := .cells #[.int .i64 ((rd_T64 l0 x10_1).f0), .int .i64 ((rd_T64 l0 x10_1).f1), .int .i64 ((rd_T64 l0 x10_1).f2), .bool ((rd_T64 l0 x10_1).f3)] 64 (0, 0)) kz hb); have n2_ := Aside0.mk (below_step bs hb); clear HO_4; clear BK175; clear HB; have HO_4 := n0_; have BK175 := n1_; have HB := n2_; clear n0_ n1_ n2_; (try clear hb); (try clear hb2); (try clear hk); (try clear hi); have hcz24_0 : w23.cell? ⟨gb175, 0, none⟩ = some (.int .i64 ((rd_T64 l0 x10_1).f0)) := (blk_cell BK175.out 0).trans rfl; have hcz24_1 : w23.cell? ⟨gb175, 1, none⟩ = some (.int .i64 ((rd_T64 l0 x10_1).f1)) := (blk_cell BK175.out 1).trans rfl; have hcz24_2 : w23.cell? ⟨gb175, 2, none⟩ = some (.int .i64 ((rd_T64 l0 x10_1).f2)) := (blk_cell BK175.out 2).trans rfl; have hcz24_3 : w23.cell? ⟨gb175, 3, none⟩ = some (.bool ((rd_T64 l0 x10_1).f3)) := (blk_cell BK175.out 3).trans rfl; have hfz24_0 := blk_frozen BK175.out 0; have hfz24_1 := blk_frozen BK175.out 1; have hfz24_2 := blk_frozen BK175.out 2; have hfz24_3 := blk_frozen BK175.out 3) | ((with_reducible refine gate_callee (f := 75) rfl ?_); refine goesL_ (some 25) rfl rfl Try.func75 (by kernel_rfl) rfl #[.int .i64 t176] rfl mz ?_; (with_reducible refine (spec_lbMark.calls kj5 t176 true _ A12.out).mono ?_); rintro e w25 ⟨rfl, hb⟩; refine ⟨_, rfl, ?_⟩; have n0_ := Aside0.mk (Kd.R_below (by (with_reducible repeat (first | apply Kd.R_alloc | apply Kd.R_drewN | apply Kd.R_drew)); exact (Kd.R_mono (Kd.R_far (p := ⟨gb175, 0, none⟩) (Kd.R_mono HO_4.out (fun k_ hk => (⟨hk, hk⟩ : _ ∧ k_ ≠ gb175))) (fun _ hk => hk.2) (.int .i64 t176)) (fun _ h_ => h_.1))) hb); have n1_ := Aside0.mk (blk_below (g := gb175) (o := .cells #[.int .i64 t176, .int .i64 ((rd_T64 l0 x10_1).f1), .int .i64 ((rd_T64 l0 x10_1).f2), .bool ((rd_T64 l0 x10_1).f3)] 64 (0, 0)) (by (with_reducible repeat (first | refine blk_drewN ?_ _ | refine blk_drew ?_ | refine blk_alloc ?_ _)); refine blk_put (cs := #[.int .i64 ((rd_T64 l0 x10_1).f0), .int .i64 ((rd_T64 l0 x10_1).f1), .int .i64 ((rd_T64 l0 x10_1).f2), .bool ((rd_T64 l0 x10_1).f3)]) ?_ 0 _ rfl; (with_reducible repeat (first | refine blk_drewN ?_ _ | refine blk_drew ?_ | refine blk_alloc ?_ _)); exact BK175.out) hb); have n2_ := Aside0.mk (below_step bs hb); clear HO_4; clear BK175; clear HB; have HO_4 := n0_; have BK175 := n1_; have HB := n2_; clear n0_ n1_ n2_; (try clear hb); (try clear hb2); (try clear hk); (try clear hi); have p178 : 0 ≤ ((ji15) : Int) := of_decide_eq_true az; have q178 : (ji15) < (l0.length : Int) := of_decide_eq_true az; obtain ⟨ad178, e178, hx178_0, hx178_1, hx178_2, hx178_3⟩ := at_T64 HR0.out (ji15) p178 q178; obtain rfl : ad174 = ad178 := (by injection e178); replace hx178_0 := (HB.out.cell (World.block_lt_of_cell? w _ hx178_0)).trans hx178_0; replace hx178_1 := (HB.out.cell (World.block_lt_of_cell? w _ hx178_1)).trans hx178_1; replace hx178_2 := (HB.out.cell (World.block_lt_of_cell? w _ hx178_2)).trans hx178_2; replace hx178_3 := (HB.out.cell (World.block_lt_of_cell? w _ hx178_3)).trans hx178_3; replace p178 := eq_true p178; replace q178 := eq_true q178) | (go_at_call 76; (with_reducible refine (spec_lbResolved.calls kj5 ((rd_T64 l0 (ji15)).f0) ((rd_T64 l0 (ji15)).f1) ((rd_T64 l0 (ji15)).f2) ((rd_T64 l0 (ji15)).f3) t179 _ A18.out).mono ?_); rintro e w26 ⟨rfl, hb⟩; have n0_ := Aside0.mk (Kd.R_below (by (with_reducible repeat (first | apply Kd.R_alloc | apply Kd.R_drewN | apply Kd.R_drew)); exact HO_4.out) hb); have n1_ := Aside0.mk (blk_below (g := gb175) (o := .cells #[.int .i64 t176, .int .i64 ((rd_T64 l0 x10_1).f1), .int .i64 ((rd_T64 l0 x10_1).f2), .bool ((rd_T64 l0 x10_1).f3)] 64 (0, 0)) kz hb); have n2_ := Aside0.mk (below_step bs hb); clear HO_4; clear BK175; clear HB; have HO_4 := n0_; have BK175 := n1_; have HB := n2_; clear n0_ n1_ n2_; (try clear hb); (try clear hb2); (try clear hk); (try clear hi)) | (go_at_call 82; (with_reducible refine (spec_lbBare.calls kj5 t179 true _ A19.out).mono ?_); rintro e w27 ⟨rfl, hb⟩; have n0_ := Aside0.mk (Kd.R_below (by (with_reducible repeat (first | apply Kd.R_alloc | apply Kd.R_drewN | apply Kd.R_drew)); exact HO_4.out) hb); have n1_ := Aside0.mk (blk_below (g := gb175) (o := .cells #[.int .i64 t176, .int .i64 ((rd_T64 l0 x10_1).f1), .int .i64 ((rd_T64 l0 x10_1).f2), .bool ((rd_T64 l0 x10_1).f3)] 64 (0, 0)) kz hb); have n2_ := Aside0.mk (below_step bs hb); clear HO_4; clear BK175; clear HB; have HO_4 := n0_; have BK175 := n1_; have HB := n2_; clear n0_ n1_ n2_; (try clear hb); (try clear hb2); (try clear hk); (try clear hi); have hcz28_0 : w27.cell? ⟨gb175, 0, none⟩ = some (.int .i64 t176) := (blk_cell BK175.out 0).trans rfl; have hcz28_1 : w27.cell? ⟨gb175, 1, none⟩ = some (.int .i64 ((rd_T64 l0 x10_1).f1)) := (blk_cell BK175.out 1).trans rfl; have hcz28_2 : w27.cell? ⟨gb175, 2, none⟩ = some (.int .i64 ((rd_T64 l0 x10_1).f2)) := (blk_cell BK175.out 2).trans rfl; have hcz28_3 : w27.cell? ⟨gb175, 3, none⟩ = some (.bool ((rd_T64 l0 x10_1).f3)) := (blk_cell BK175.out 3).trans rfl; have hfz28_0 := blk_frozen BK175.out 0; have hfz28_1 := blk_frozen BK175.out 1; have hfz28_2 := blk_frozen BK175.out 2; have hfz28_3 := blk_frozen BK175.out 3) | ((with_reducible refine gate_builtin (b := .append) (xs := #[.tmp 39, .tmp 41]) rfl ?_); at_builtin; refine Kd.R_append k64 (w0 := w) w.heap.size rfl (.tmp 39) (.tmp 41) 35 64 (.agg #[(.int .i64 0), (.int .i64 0), (.int .i64 0), (.bool false)]) 32 rfl Try.underlying35 info64 rfl (by decide) (by omega) u4 x4_1 (⟨12, ((rd_T64 l0 x10_1).f1), ((rd_T64 l0 x10_1).f2), ((rd_T64 l0 x10_1).f3)⟩ : S64) [.int .i64 12, .int .i64 ((rd_T64 l0 x10_1).f1), .int .i64 ((rd_T64 l0 x10_1).f2), .bool ((rd_T64 l0 x10_1).f3)] (fun k_ => k_ ≠ gb175) (fun _ => False) rfl (by first | (go_simp; done) | (go_simp; rfl)) ?aP (fun _ hk => hk.elim) ?aF ?aO ?aB ?aS ?aL ?_; (case aP => exact k64_mkM _ _ _ (⟨12, ((rd_T64 l0 x10_1).f1), ((rd_T64 l0 x10_1).f2), ((rd_T64 l0 x10_1).f3)⟩ : S64)); (case aB => exact bs); (case aF => exact (fun k_ hk => Kd.freshB (g := gb175) (o := .cells #[.int .i64 12, .int .i64 ((rd_T64 l0 x10_1).f1), .int .i64 ((rd_T64 l0 x10_1).f2), .bool ((rd_T64 l0 x10_1).f3)] 64 (0, 0)) (by (with_reducible repeat (first | refine blk_drewN ?_ _ | refine blk_drew ?_ | refine blk_alloc ?_ _)); refine blk_put (cs := #[.int .i64 t176, .int .i64 ((rd_T64 l0 x10_1).f1), .int .i64 ((rd_T64 l0 x10_1).f2), .bool ((rd_T64 l0 x10_1).f3)]) ?_ 0 _ rfl; (with_reducible repeat (first | refine blk_drewN ?_ _ | refine blk_drew ?_ | refine blk_alloc ?_ _)); exact BK175.out) k_ hk)); (case aO => exact (by (with_reducible repeat (first | apply Kd.R_alloc | apply Kd.R_drewN | apply Kd.R_drew)); exact Kd.R_mono (Kd.R_far (p := ⟨gb175, 0, none⟩) (Kd.R_mono HO_4.out (fun k_ hk => (⟨hk, hk⟩ : _ ∧ k_ ≠ gb175))) (fun _ hk => hk.2) (.int .i64 12)) (fun _ hk => hk.1))); (case aS => exact (below_size bs)); (case aL => have := LMc21.out; omega); intro v182 w29 ho hb hg hat; rw [← Ny181.out] at ho; have n0_ := Aside0.mk (blk_grown (g := gb175) (o := .cells #[.int .i64 12, .int .i64 ((rd_T64 l0 x10_1).f1), .int .i64 ((rd_T64 l0 x10_1).f2), .bool ((rd_T64 l0 x10_1).f3)] 64 (0, 0)) (by (with_reducible repeat (first | refine blk_drewN ?_ _ | refine blk_drew ?_ | refine blk_alloc ?_ _)); refine blk_put (cs := #[.int .i64 t176, .int .i64 ((rd_T64 l0 x10_1).f1), .int .i64 ((rd_T64 l0 x10_1).f2), .bool ((rd_T64 l0 x10_1).f3)]) ?_ 0 _ rfl; (with_reducible repeat (first | refine blk_drewN ?_ _ | refine blk_drew ?_ | refine blk_alloc ?_ _)); exact BK175.out) hg (Kd.R_away HO_4.out (fun _ hk => hk))); have n1_ := Aside0.mk (hb); have n2_ := Aside0.mk (ho); clear BK175; clear HB; clear HO_4; have BK175 := n0_; have HB := n1_; have HO183 := n2_; clear n0_ n1_ n2_; clear ho hb hg hat))
              go_roundg kj5
              case measure => have := HK1.out; have := HJ5.out; omega
              case rel => exact ⟨(y181), (x5_5), (wrap64 (x10_1 + 1)), vz, vz, H', ⟨by have := HK1.out; have := HJ5.out; omega⟩, ⟨by (with_reducible repeat (first | apply Kd.R_alloc | apply Kd.R_drewN | apply Kd.R_drew)); exact Kd.R_mono HO183.out (fun _ hk => trivial)⟩, ⟨bs⟩⟩
             ·rw [if_neg c21] at H
              exact absurd H (by simp)
            ·replace c20 := Bool.eq_false_iff.mpr c20
             subst c20
             rw [if_neg (show ¬ (false = true) by decide)] at H
             have H' := Aside0.mk H
             clear H
             have hcz30_0 : wc.cell? ⟨gb175, 0, none⟩ = some (.int .i64 ((rd_T64 l0 x10_1).f0)) := (blk_cell BK175.out 0).trans rfl
             have hcz30_1 : wc.cell? ⟨gb175, 1, none⟩ = some (.int .i64 ((rd_T64 l0 x10_1).f1)) := (blk_cell BK175.out 1).trans rfl
             have hcz30_2 : wc.cell? ⟨gb175, 2, none⟩ = some (.int .i64 ((rd_T64 l0 x10_1).f2)) := (blk_cell BK175.out 2).trans rfl
             have hcz30_3 : wc.cell? ⟨gb175, 3, none⟩ = some (.bool ((rd_T64 l0 x10_1).f3)) := (blk_cell BK175.out 3).trans rfl
             have hfz30_0 := blk_frozen BK175.out 0
             have hfz30_1 := blk_frozen BK175.out 1
             have hfz30_2 := blk_frozen BK175.out 2
             have hfz30_3 := blk_frozen BK175.out 3
             go_wp2_with (first | ((with_reducible refine gate_callee (f := 76) rfl ?_); refine goesL_ (some 21) rfl rfl Try.func76 (by kernel_rfl) rfl #[.agg #[.int .i64 ((rd_T64 l0 x10_1).f0), .int .i64 ((rd_T64 l0 x10_1).f1), .int .i64 ((rd_T64 l0 x10_1).f2), .bool ((rd_T64 l0 x10_1).f3)]] rfl mz ?_; (with_reducible refine (spec_lbResolved.calls kj5 ((rd_T64 l0 x10_1).f0) ((rd_T64 l0 x10_1).f1) ((rd_T64 l0 x10_1).f2) ((rd_T64 l0 x10_1).f3) t176 _ A11.out).mono ?_); rintro e w31 ⟨rfl, hb⟩; refine ⟨_, rfl, ?_⟩; have n0_ := Aside0.mk (Kd.R_below (by (with_reducible repeat (first | apply Kd.R_alloc | apply Kd.R_drewN | apply Kd.R_drew)); exact HO_4.out) hb); have n1_ := Aside0.mk (blk_below (g := gb175) (o := .cells #[.int .i64 ((rd_T64 l0 x10_1).f0), .int .i64 ((rd_T64 l0 x10_1).f1), .int .i64 ((rd_T64 l0 x10_1).f2), .bool ((rd_T64 l0 x10_1).f3)] 64 (0, 0)) kz hb); have n2_ := Aside0.mk (below_step bs hb); clear HO_4; clear BK175; clear HB; have HO_4 := n0_; have BK175 := n1_; have HB := n2_; clear n0_ n1_ n2_; (try clear hb); (try clear hb2); (try clear hk); (try clear hi); have hcz32_0 : w31.cell? ⟨gb175, 0, none⟩ = some (.int .i64 ((rd_T64 l0 x10_1).f0)) := (blk_cell BK175.out 0).trans rfl; have hcz32_1 : w31.cell? ⟨gb175, 1, none⟩ = some (.int .i64 ((rd_T64 l0 x10_1).f1)) := (blk_cell BK175.out 1).trans rfl; have hcz32_2 : w31.cell? ⟨gb175, 2, none⟩ = some (.int .i64 ((rd_T64 l0 x10_1).f2)) := (blk_cell BK175.out 2).trans rfl; have hcz32_3 : w31.cell? ⟨gb175, 3, none⟩ = some (.bool ((rd_T64 l0 x10_1).f3)) := (blk_cell BK175.out 3).trans rfl; have hfz32_0 := blk_frozen BK175.out 0; have hfz32_1 := blk_frozen BK175.out 1; have hfz32_2 := blk_frozen BK175.out 2; have hfz32_3 := blk_frozen BK175.out 3) | ((with_reducible refine gate_callee (f := 75) rfl ?_); refine goesL_ (some 25) rfl rfl Try.func75 (by kernel_rfl) rfl #[.int .i64 t176] rfl mz ?_; (with_reducible refine (spec_lbMark.calls kj5 t176 true _ A12.out).mono ?_); rintro e w33 ⟨rfl, hb⟩; refine ⟨_, rfl, ?_⟩; have n0_ := Aside0.mk (Kd.R_below (by (with_reducible repeat (first | apply Kd.R_alloc | apply Kd.R_drewN | apply Kd.R_drew)); exact (Kd.R_mono (Kd.R_far (p := ⟨gb175, 0, none⟩) (Kd.R_mono HO_4.out (fun k_ hk => (⟨hk, hk⟩ : _ ∧ k_ ≠ gb175))) (fun _ hk => hk.2) (.int .i64 t176)) (fun _ h_ => h_.1))) hb); have n1_ := Aside0.mk (blk_below (g := gb175) (o := .cells #[.int .i64 t176, .int .i64 ((rd_T64 l0 x10_1).f1), .int .i64 ((rd_T64 l0 x10_1).f2), .bool ((rd_T64 l0 x10_1).f3)] 64 (0, 0)) (by (with_reducible repeat (first | refine blk_drewN ?_ _ | refine blk_drew ?_ | refine blk_alloc ?_ _)); refine blk_put (cs := #[.int .i64 ((rd_T64 l0 x10_1).f0), .int .i64 ((rd_T64 l0 x10_1).f1), .int .i64 ((rd_T64 l0 x10_1).f2), .bool ((rd_T64 l0 x10_1).f3)]) ?_ 0 _ rfl; (with_reducible repeat (first | refine blk_drewN ?_ _ | refine blk_drew ?_ | refine blk_alloc ?_ _)); exact BK175.out) hb); have n2_ := Aside0.mk (below_step bs hb); clear HO_4; clear BK175; clear HB; have HO_4 := n0_; have BK175 := n1_; have HB := n2_; clear n0_ n1_ n2_; (try clear hb); (try clear hb2); (try clear hk); (try clear hi); have p178 : 0 ≤ ((ji15) : Int) := of_decide_eq_true az; have q178 : (ji15) < (l0.length : Int) := of_decide_eq_true az; obtain ⟨ad178, e178, hx178_0, hx178_1, hx178_2, hx178_3⟩ := at_T64 HR0.out (ji15) p178 q178; obtain rfl : ad174 = ad178 := (by injection e178); replace hx178_0 := (HB.out.cell (World.block_lt_of_cell? w _ hx178_0)).trans hx178_0; replace hx178_1 := (HB.out.cell (World.block_lt_of_cell? w _ hx178_1)).trans hx178_1; replace hx178_2 := (HB.out.cell (World.block_lt_of_cell? w _ hx178_2)).trans hx178_2; replace hx178_3 := (HB.out.cell (World.block_lt_of_cell? w _ hx178_3)).trans hx178_3; replace p178 := eq_true p178; replace q178 := eq_true q178) | (go_at_call 76; (with_reducible refine (spec_lbResolved.calls kj5 ((rd_T64 l0 (ji15)).f0) ((rd_T64 l0 (ji15)).f1) ((rd_T64 l0 (ji15)).f2) ((rd_T64 l0 (ji15)).f3) t179 _ A18.out).mono ?_); rintro e w34 ⟨rfl, hb⟩; have n0_ := Aside0.mk (Kd.R_below (by (with_reducible repeat (first | apply Kd.R_alloc | apply Kd.R_drewN | apply Kd.R_drew)); exact HO_4.out) hb); have n1_ := Aside0.mk (blk_below (g := gb175) (o := .cells #[.int .i64 t176, .int .i64 ((rd_T64 l0 x10_1).f1), .int .i64 ((rd_T64 l0 x10_1).f2), .bool ((rd_T64 l0 x10_1).f3)] 64 (0, 0)) kz hb); have n2_ := Aside0.mk (below_step bs hb); clear HO_4; clear BK175; clear HB; have HO_4 := n0_; have BK175 := n1_; have HB := n2_; clear n0_ n1_ n2_; (try clear hb); (try clear hb2); (try clear hk); (try clear hi)) | (go_at_call 82; (with_reducible refine (spec_lbBare.calls kj5 t179 false _ A19.out).mono ?_); rintro e w35 ⟨rfl, hb⟩; have n0_ := Aside0.mk (Kd.R_below (by (with_reducible repeat (first | apply Kd.R_alloc | apply Kd.R_drewN | apply Kd.R_drew)); exact HO_4.out) hb); have n1_ := Aside0.mk (blk_below (g := gb175) (o := .cells #[.int .i64 t176, .int .i64 ((rd_T64 l0 x10_1).f1), .int .i64 ((rd_T64 l0 x10_1).f2), .bool ((rd_T64 l0 x10_1).f3)] 64 (0, 0)) kz hb); have n2_ := Aside0.mk (below_step bs hb); clear HO_4; clear BK175; clear HB; have HO_4 := n0_; have BK175 := n1_; have HB := n2_; clear n0_ n1_ n2_; (try clear hb); (try clear hb2); (try clear hk); (try clear hi)))
             go_roundg kj5
             case measure => have := HK1.out; have := HJ5.out; omega
             case rel => exact ⟨(x4_1), (x5_5), (wrap64 (x10_1 + 1)), vz, vz, H', ⟨by have := HK1.out; have := HJ5.out; omega⟩, ⟨by (with_reducible repeat (first | apply Kd.R_alloc | apply Kd.R_drewN | apply Kd.R_drew)); exact Kd.R_mono HO_4.out (fun _ hk => trivial)⟩, ⟨bs⟩⟩
           ·rw [if_neg c17] at H
            exact absurd H (by simp)
          ·rw [if_neg c16] at H
           exact absurd H (by simp)
         ·rw [if_neg c14] at H
          have c14b0 : decide (0 < x10_1) = false := decide_eq_false c14
          clear c14
          by_cases c36 : x4_1.length < 4398046511104
          ·rw [if_pos c36] at H
           have LMc36 := Aside0.mk c36
           clear c36
           obtain ⟨y184, hy184⟩ : ∃ y_ : List (S64), y_ = (x4_1 ++ [(⟨12, ((rd_T64 l0 x10_1).f1), ((rd_T64 l0 x10_1).f2), ((rd_T64 l0 x10_1).f3)⟩ : S64)]) := ⟨_, rfl⟩
           first | rw [← hy184] at H | simp only [← hy184] at H
           have Ny184 := Aside0.mk hy184
           clear hy184
           have H' := Aside0.mk H
           clear H
           have hcz37_0 : wc.cell? ⟨gb175, 0, none⟩ = some (.int .i64 ((rd_T64 l0 x10_1).f0)) := (blk_cell BK175.out 0).trans rfl
           have hcz37_1 : wc.cell? ⟨gb175, 1, none⟩ = some (.int .i64 ((rd_T64 l0 x10_1).f1)) := (blk_cell BK175.out 1).trans rfl
           have hcz37_2 : wc.cell? ⟨gb175, 2, none⟩ = some (.int .i64 ((rd_T64 l0 x10_1).f2)) := (blk_cell BK175.out 2).trans rfl
           have hcz37_3 : wc.cell? ⟨gb175, 3, none⟩ = some (.bool ((rd_T64 l0 x10_1).f3)) := (blk_cell BK175.out 3).trans rfl
           have hfz37_0 := blk_frozen BK175.out 0
           have hfz37_1 := blk_frozen BK175.out 1
           have hfz37_2 := blk_frozen BK175.out 2
           have hfz37_3 := blk_frozen BK175.out 3
           go_wp2_with (first | ((with_reducible refine gate_callee (f := 76) rfl ?_); refine goesL_ (some 21) rfl rfl Try.func76 (by kernel_rfl) rfl #[.agg #[.int .i64 ((rd_T64 l0 x10_1).f0), .int .i64 ((rd_T64 l0 x10_1).f1), .int .i64 ((rd_T64 l0 x10_1).f2), .bool ((rd_T64 l0 x10_1).f3)]] rfl mz ?_; (with_reducible refine (spec_lbResolved.calls kj5 ((rd_T64 l0 x10_1).f0) ((rd_T64 l0 x10_1).f1) ((rd_T64 l0 x10_1).f2) ((rd_T64 l0 x10_1).f3) t176 _ A11.out).mono ?_); rintro e w38 ⟨rfl, hb⟩; refine ⟨_, rfl, ?_⟩; have n0_ := Aside0.mk (Kd.R_below (by (with_reducible repeat (first | apply Kd.R_alloc | apply Kd.R_drewN | apply Kd.R_drew)); exact HO_4.out) hb); have n1_ := Aside0.mk (blk_below (g := gb175) (o := .cells #[.int .i64 ((rd_T64 l0 x10_1).f0), .int .i64 ((rd_T64 l0 x10_1).f1), .int .i64 ((rd_T64 l0 x10_1).f2), .bool ((rd_T64 l0 x10_1).f3)] 64 (0, 0)) kz hb); have n2_ := Aside0.mk (below_step bs hb); clear HO_4; clear BK175; clear HB; have HO_4 := n0_; have BK175 := n1_; have HB := n2_; clear n0_ n1_ n2_; (try clear hb); (try clear hb2); (try clear hk); (try clear hi); have hcz39_0 : w38.cell? ⟨gb175, 0, none⟩ = some (.int .i64 ((rd_T64 l0 x10_1).f0)) := (blk_cell BK175.out 0).trans rfl; have hcz39_1 : w38.cell? ⟨gb175, 1, none⟩ = some (.int .i64 ((rd_T64 l0 x10_1).f1)) := (blk_cell BK175.out 1).trans rfl; have hcz39_2 : w38.cell? ⟨gb175, 2, none⟩ = some (.int .i64 ((rd_T64 l0 x10_1).f2)) := (blk_cell BK175.out 2).trans rfl; have hcz39_3 : w38.cell? ⟨gb175, 3, none⟩ = some (.bool ((rd_T64 l0 x10_1).f3)) := (blk_cell BK175.out 3).trans rfl; have hfz39_0 := blk_frozen BK175.out 0; have hfz39_1 := blk_frozen BK175.out 1; have hfz39_2 := blk_frozen BK175.out 2; have hfz39_3 := blk_frozen BK175.out 3) | ((with_reducible refine gate_callee (f := 75) rfl ?_); refine goesL_ (some 25) rfl rfl Try.func75 (by kernel_rfl) rfl #[.int .i64 t176] rfl mz ?_; (with_reducible refine (spec_lbMark.calls kj5 t176 true _ A12.out).mono ?_); rintro e w40 ⟨rfl, hb⟩; refine ⟨_, rfl, ?_⟩; have n0_ := Aside0.mk (Kd.R_below (by (with_reducible repeat (first | apply Kd.R_alloc | apply Kd.R_drewN | apply Kd.R_drew)); exact (Kd.R_mono (Kd.R_far (p := ⟨gb175, 0, none⟩) (Kd.R_mono HO_4.out (fun k_ hk => (⟨hk, hk⟩ : _ ∧ k_ ≠ gb175))) (fun _ hk => hk.2) (.int .i64 t176)) (fun _ h_ => h_.1))) hb); have n1_ := Aside0.mk (blk_below (g := gb175) (o := .cells #[.int .i64 t176, .int .i64 ((rd_T64 l0 x10_1).f1), .int .i64 ((rd_T64 l0 x10_1).f2), .bool ((rd_T64 l0 x10_1).f3)] 64 (0, 0)) (by (with_reducible repeat (first | refine blk_drewN ?_ _ | refine blk_drew ?_ | refine blk_alloc ?_ _)); refine blk_put (cs := #[.int .i64 ((rd_T64 l0 x10_1).f0), .int .i64 ((rd_T64 l0 x10_1).f1), .int .i64 ((rd_T64 l0 x10_1).f2), .bool ((rd_T64 l0 x10_1).f3)]) ?_ 0 _ rfl; (with_reducible repeat (first | refine blk_drewN ?_ _ | refine blk_drew ?_ | refine blk_alloc ?_ _)); exact BK175.out) hb); have n2_ := Aside0.mk (below_step bs hb); clear HO_4; clear BK175; clear HB; have HO_4 := n0_; have BK175 := n1_; have HB := n2_; clear n0_ n1_ n2_; (try clear hb); (try clear hb2); (try clear hk); (try clear hi); have hcz41_0 : w40.cell? ⟨gb175, 0, none⟩ = some (.int .i64 t176) := (blk_cell BK175.out 0).trans rfl; have hcz41_1 : w40.cell? ⟨gb175, 1, none⟩ = some (.int .i64 ((rd_T64 l0 x10_1).f1)) := (blk_cell BK175.out 1).trans rfl; have hcz41_2 : w40.cell? ⟨gb175, 2, none⟩ = some (.int .i64 ((rd_T64 l0 x10_1).f2)) := (blk_cell BK175.out 2).trans rfl; have hcz41_3 : w40.cell? ⟨gb175, 3, none⟩ = some (.bool ((rd_T64 l0 x10_1).f3)) := (blk_cell BK175.out 3).trans rfl; have hfz41_0 := blk_frozen BK175.out 0; have hfz41_1 := blk_frozen BK175.out 1; have hfz41_2 := blk_frozen BK175.out 2; have hfz41_3 := blk_frozen BK175.out 3) | ((with_reducible refine gate_builtin (b := .append) (xs := #[.tmp 39, .tmp 41]) rfl ?_); at_builtin; refine Kd.R_append k64 (w0 := w) w.heap.size rfl (.tmp 39) (.tmp 41) 35 64 (.agg #[(.int .i64 0), (.int .i64 0), (.int .i64 0), (.bool false)]) 32 rfl Try.underlying35 info64 rfl (by decide) (by omega) u4 x4_1 (⟨12, ((rd_T64 l0 x10_1).f1), ((rd_T64 l0 x10_1).f2), ((rd_T64 l0 x10_1).f3)⟩ : S64) [.int .i64 12, .int .i64 ((rd_T64 l0 x10_1).f1), .int .i64 ((rd_T64 l0 x10_1).f2), .bool ((rd_T64 l0 x10_1).f3)] (fun k_ => k_ ≠ gb175) (fun _ => False) rfl (by first | (go_simp; done) | (go_simp; rfl)) ?aP (fun _ hk => hk.elim) ?aF ?aO ?aB ?aS ?aL ?_; (case aP => exact k64_mkM _ _ _ (⟨12, ((rd_T64 l0 x10_1).f1), ((rd_T64 l0 x10_1).f2), ((rd_T64 l0 x10_1).f3)⟩ : S64)); (case aB => exact bs); (case aF => exact (fun k_ hk => Kd.freshB (g := gb175) (o := .cells #[.int .i64 12, .int .i64 ((rd_T64 l0 x10_1).f1), .int .i64 ((rd_T64 l0 x10_1).f2), .bool ((rd_T64 l0 x10_1).f3)] 64 (0, 0)) (by (with_reducible repeat (first | refine blk_drewN ?_ _ | refine blk_drew ?_ | refine blk_alloc ?_ _)); refine blk_put (cs := #[.int .i64 t176, .int .i64 ((rd_T64 l0 x10_1).f1), .int .i64 ((rd_T64 l0 x10_1).f2), .bool ((rd_T64 l0 x10_1).f3)]) ?_ 0 _ rfl; (with_reducible repeat (first | refine blk_drewN ?_ _ | refine blk_drew ?_ | refine blk_alloc ?_ _)); exact BK175.out) k_ hk)); (case aO => exact (by (with_reducible repeat (first | apply Kd.R_alloc | apply Kd.R_drewN | apply Kd.R_drew)); exact Kd.R_mono (Kd.R_far (p := ⟨gb175, 0, none⟩) (Kd.R_mono HO_4.out (fun k_ hk => (⟨hk, hk⟩ : _ ∧ k_ ≠ gb175))) (fun _ hk => hk.2) (.int .i64 12)) (fun _ hk => hk.1))); (case aS => exact (below_size bs)); (case aL => have := LMc36.out; omega); intro v185 w42 ho hb hg hat; rw [← Ny184.out] at ho; have n0_ := Aside0.mk (blk_grown (g := gb175) (o := .cells #[.int .i64 12, .int .i64 ((rd_T64 l0 x10_1).f1), .int .i64 ((rd_T64 l0 x10_1).f2), .bool ((rd_T64 l0 x10_1).f3)] 64 (0, 0)) (by (with_reducible repeat (first | refine blk_drewN ?_ _ | refine blk_drew ?_ | refine blk_alloc ?_ _)); refine blk_put (cs := #[.int .i64 t176, .int .i64 ((rd_T64 l0 x10_1).f1), .int .i64 ((rd_T64 l0 x10_1).f2), .bool ((rd_T64 l0 x10_1).f3)]) ?_ 0 _ rfl; (with_reducible repeat (first | refine blk_drewN ?_ _ | refine blk_drew ?_ | refine blk_alloc ?_ _)); exact BK175.out) hg (Kd.R_away HO_4.out (fun _ hk => hk))); have n1_ := Aside0.mk (hb); have n2_ := Aside0.mk (ho); clear BK175; clear HB; clear HO_4; have BK175 := n0_; have HB := n1_; have HO186 := n2_; clear n0_ n1_ n2_; clear ho hb hg hat))
           go_roundg kj5
           case measure => have := HK1.out; have := HJ5.out; omega
           case rel => exact ⟨(y184), (x5_5), (wrap64 (x10_1 + 1)), vz, vz, H', ⟨by have := HK1.out; have := HJ5.out; omega⟩, ⟨by (with_reducible repeat (first | apply Kd.R_alloc | apply Kd.R_drewN | apply Kd.R_drew)); exact Kd.R_mono HO186.out (fun _ hk => trivial)⟩, ⟨bs⟩⟩
          ·rw [if_neg c36] at H
           exact absurd H (by simp)
        ·replace c13 := Bool.eq_false_iff.mpr c13
         subst c13
         rw [if_neg (show ¬ (false = true) by decide)] at H
         by_cases c43 : x4_1.length < 4398046511104
         ·rw [if_pos c43] at H
          have LMc43 := Aside0.mk c43
          clear c43
          obtain ⟨y187, hy187⟩ : ∃ y_ : List (S64), y_ = (x4_1 ++ [(⟨t176, ((rd_T64 l0 x10_1).f1), ((rd_T64 l0 x10_1).f2), ((rd_T64 l0 x10_1).f3)⟩ : S64)]) := ⟨_, rfl⟩
          first | rw [← hy187] at H | simp only [← hy187] at H
          have Ny187 := Aside0.mk hy187
          clear hy187
          have H' := Aside0.mk H
          clear H
          have hcz44_0 : wc.cell? ⟨gb175, 0, none⟩ = some (.int .i64 ((rd_T64 l0 x10_1).f0)) := (blk_cell BK175.out 0).trans rfl
          have hcz44_1 : wc.cell? ⟨gb175, 1, none⟩ = some (.int .i64 ((rd_T64 l0 x10_1).f1)) := (blk_cell BK175.out 1).trans rfl
          have hcz44_2 : wc.cell? ⟨gb175, 2, none⟩ = some (.int .i64 ((rd_T64 l0 x10_1).f2)) := (blk_cell BK175.out 2).trans rfl
          have hcz44_3 : wc.cell? ⟨gb175, 3, none⟩ = some (.bool ((rd_T64 l0 x10_1).f3)) := (blk_cell BK175.out 3).trans rfl
          have hfz44_0 := blk_frozen BK175.out 0
          have hfz44_1 := blk_frozen BK175.out 1
          have hfz44_2 := blk_frozen BK175.out 2
          have hfz44_3 := blk_frozen BK175.out 3
          go_wp2_with (first | ((with_reducible refine gate_callee (f := 76) rfl ?_); refine goesL_ (some 21) rfl rfl Try.func76 (by kernel_rfl) rfl #[.agg #[.int .i64 ((rd_T64 l0 x10_1).f0), .int .i64 ((rd_T64 l0 x10_1).f1), .int .i64 ((rd_T64 l0 x10_1).f2), .bool ((rd_T64 l0 x10_1).f3)]] rfl mz ?_; (with_reducible refine (spec_lbResolved.calls kj5 ((rd_T64 l0 x10_1).f0) ((rd_T64 l0 x10_1).f1) ((rd_T64 l0 x10_1).f2) ((rd_T64 l0 x10_1).f3) t176 _ A11.out).mono ?_); rintro e w45 ⟨rfl, hb⟩; refine ⟨_, rfl, ?_⟩; have n0_ := Aside0.mk (Kd.R_below (by (with_reducible repeat (first | apply Kd.R_alloc | apply Kd.R_drewN | apply Kd.R_drew)); exact HO_4.out) hb); have n1_ := Aside0.mk (blk_below (g := gb175) (o := .cells #[.int .i64 ((rd_T64 l0 x10_1).f0), .int .i64 ((rd_T64 l0 x10_1).f1), .int .i64 ((rd_T64 l0 x10_1).f2), .bool ((rd_T64 l0 x10_1).f3)] 64 (0, 0)) kz hb); have n2_ := Aside0.mk (below_step bs hb); clear HO_4; clear BK175; clear HB; have HO_4 := n0_; have BK175 := n1_; have HB := n2_; clear n0_ n1_ n2_; (try clear hb); (try clear hb2); (try clear hk); (try clear hi); have hcz46_0 : w45.cell? ⟨gb175, 0, none⟩ = some (.int .i64 ((rd_T64 l0 x10_1).f0)) := (blk_cell BK175.out 0).trans rfl; have hcz46_1 : w45.cell? ⟨gb175, 1, none⟩ = some (.int .i64 ((rd_T64 l0 x10_1).f1)) := (blk_cell BK175.out 1).trans rfl; have hcz46_2 : w45.cell? ⟨gb175, 2, none⟩ = some (.int .i64 ((rd_T64 l0 x10_1).f2)) := (blk_cell BK175.out 2).trans rfl; have hcz46_3 : w45.cell? ⟨gb175, 3, none⟩ = some (.bool ((rd_T64 l0 x10_1).f3)) := (blk_cell BK175.out 3).trans rfl; have hfz46_0 := blk_frozen BK175.out 0; have hfz46_1 := blk_frozen BK175.out 1; have hfz46_2 := blk_frozen BK175.out 2; have hfz46_3 := blk_frozen BK175.out 3) | ((with_reducible refine gate_callee (f := 75) rfl ?_); refine goesL_ (some 25) rfl rfl Try.func75 (by kernel_rfl) rfl #[.int .i64 t176] rfl mz ?_; (with_reducible refine (spec_lbMark.calls kj5 t176 false _ A12.out).mono ?_); rintro e w47 ⟨rfl, hb⟩; refine ⟨_, rfl, ?_⟩; have n0_ := Aside0.mk (Kd.R_below (by (with_reducible repeat (first | apply Kd.R_alloc | apply Kd.R_drewN | apply Kd.R_drew)); exact (Kd.R_mono (Kd.R_far (p := ⟨gb175, 0, none⟩) (Kd.R_mono HO_4.out (fun k_ hk => (⟨hk, hk⟩ : _ ∧ k_ ≠ gb175))) (fun _ hk => hk.2) (.int .i64 t176)) (fun _ h_ => h_.1))) hb); have n1_ := Aside0.mk (blk_below (g := gb175) (o := .cells #[.int .i64 t176, .int .i64 ((rd_T64 l0 x10_1).f1), .int .i64 ((rd_T64 l0 x10_1).f2), .bool ((rd_T64 l0 x10_1).f3)] 64 (0, 0)) (by (with_reducible repeat (first | refine blk_drewN ?_ _ | refine blk_drew ?_ | refine blk_alloc ?_ _)); refine blk_put (cs := #[.int .i64 ((rd_T64 l0 x10_1).f0), .int .i64 ((rd_T64 l0 x10_1).f1), .int .i64 ((rd_T64 l0 x10_1).f2), .bool ((rd_T64 l0 x10_1).f3)]) ?_ 0 _ rfl; (with_reducible repeat (first | refine blk_drewN ?_ _ | refine blk_drew ?_ | refine blk_alloc ?_ _)); exact BK175.out) hb); have n2_ := Aside0.mk (below_step bs hb); clear HO_4; clear BK175; clear HB; have HO_4 := n0_; have BK175 := n1_; have HB := n2_; clear n0_ n1_ n2_; (try clear hb); (try clear hb2); (try clear hk); (try clear hi); have hcz48_0 : w47.cell? ⟨gb175, 0, none⟩ = some (.int .i64 t176) := (blk_cell BK175.out 0).trans rfl; have hcz48_1 : w47.cell? ⟨gb175, 1, none⟩ = some (.int .i64 ((rd_T64 l0 x10_1).f1)) := (blk_cell BK175.out 1).trans rfl; have hcz48_2 : w47.cell? ⟨gb175, 2, none⟩ = some (.int .i64 ((rd_T64 l0 x10_1).f2)) := (blk_cell BK175.out 2).trans rfl; have hcz48_3 : w47.cell? ⟨gb175, 3, none⟩ = some (.bool ((rd_T64 l0 x10_1).f3)) := (blk_cell BK175.out 3).trans rfl; have hfz48_0 := blk_frozen BK175.out 0; have hfz48_1 := blk_frozen BK175.out 1; have hfz48_2 := blk_frozen BK175.out 2; have hfz48_3 := blk_frozen BK175.out 3) | ((with_reducible refine gate_builtin (b := .append) (xs := #[.tmp 39, .tmp 41]) rfl ?_); at_builtin; refine Kd.R_append k64 (w0 := w) w.heap.size rfl (.tmp 39) (.tmp 41) 35 64 (.agg #[(.int .i64 0), (.int .i64 0), (.int .i64 0), (.bool false)]) 32 rfl Try.underlying35 info64 rfl (by decide) (by omega) u4 x4_1 (⟨t176, ((rd_T64 l0 x10_1).f1), ((rd_T64 l0 x10_1).f2), ((rd_T64 l0 x10_1).f3)⟩ : S64) [.int .i64 t176, .int .i64 ((rd_T64 l0 x10_1).f1), .int .i64 ((rd_T64 l0 x10_1).f2), .bool ((rd_T64 l0 x10_1).f3)] (fun k_ => k_ ≠ gb175) (fun _ => False) rfl rfl ?aP (fun _ hk => hk.elim) ?aF ?aO ?aB ?aS ?aL ?_; (case aP => exact k64_mkM _ _ _ (⟨t176, ((rd_T64 l0 x10_1).f1), ((rd_T64 l0 x10_1).f2), ((rd_T64 l0 x10_1).f3)⟩ : S64)); (case aB => exact bs); (case aF => exact (fun k_ hk => Kd.freshB (g := gb175) (o := .cells #[.int .i64 t176, .int .i64 ((rd_T64 l0 x10_1).f1), .int .i64 ((rd_T64 l0 x10_1).f2), .bool ((rd_T64 l0 x10_1).f3)] 64 (0, 0)) kz k_ hk)); (case aO => exact (by (with_reducible repeat (first | apply Kd.R_alloc | apply Kd.R_drewN | apply Kd.R_drew)); exact HO_4.out)); (case aS => exact (below_size bs)); (case aL => have := LMc43.out; omega); intro v188 w49 ho hb hg hat; rw [← Ny187.out] at ho; have n0_ := Aside0.mk (blk_grown (g := gb175) (o := .cells #[.int .i64 t176, .int .i64 ((rd_T64 l0 x10_1).f1), .int .i64 ((rd_T64 l0 x10_1).f2), .bool ((rd_T64 l0 x10_1).f3)] 64 (0, 0)) kz hg (Kd.R_away HO_4.out (fun _ hk => hk))); have n1_ := Aside0.mk (hb); have n2_ := Aside0.mk (ho); clear BK175; clear HB; clear HO_4; have BK175 := n0_; have HB := n1_; have HO189 := n2_; clear n0_ n1_ n2_; clear ho hb hg hat))
          go_roundg kj5
          case measure => have := HK1.out; have := HJ5.out; omega
          case rel => exact ⟨(y187), (x5_5), (wrap64 (x10_1 + 1)), vz, vz, H', ⟨by have := HK1.out; have := HJ5.out; omega⟩, ⟨by (with_reducible repeat (first | apply Kd.R_alloc | apply Kd.R_drewN | apply Kd.R_drew)); exact Kd.R_mono HO189.out (fun _ hk => trivial)⟩, ⟨bs⟩⟩
         ·rw [if_neg c43] at H
          exact absurd H (by simp)
     ·rw [if_neg c5] at H
      exact absurd H (by simp)
    ·rw [if_neg c4] at H
     exact absurd H (by simp)
   ·rw [if_neg c3] at H
    have c3b0 : decide (x10_1 < (l0.length : Int)) = false := decide_eq_false c3
    clear c3
    simp only [Option.some.injEq, Prod.mk.injEq] at H
    obtain ⟨rfl, rfl⟩ := H
    go_wp2
    go_ret2
    exact ⟨_, ez, by (with_reducible repeat (first | apply Kd.R_alloc | apply Kd.R_drewN | apply Kd.R_drew)); exact HO_4.out, bz⟩

-- NOT PRINTED: function 63 (spec_lbAt)

end Go.Proofs.Ytnanfoahimccpaa.Ln
