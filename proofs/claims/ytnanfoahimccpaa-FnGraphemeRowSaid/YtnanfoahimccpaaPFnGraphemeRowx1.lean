-- PRINTED BY print.sh 35421559b90ae4d0a3588c463048766b98c2df88dd9212a6774a882060cdf62d: not written by this session
import Derived.Test.YtnanfoahimccpaaPFnGraphemeRowx0
namespace Go.Proofs.Ytnanfoahimccpaa.PFnGraphemeRow
open Go.RowKit Go.Proofs.YtnanfoahimccpaaW.PrintWords Go.Proofs.YtnanfoahimccpaaW.PrintLast Go.Proofs.YtnanfoahimccpaaW.PrintMore
attribute [local go_sem] max2_int min2_int max_two min_two max_three min_three max_four min_four   -- for this text's walks alone
set_option linter.unusedVariables false
set_option linter.unusedSimpArgs false

/-! ### laws_row: function 7 -/
def laws_row.l0 : Nat → Int → List Int → List Int → Int → Int → Option (List Int)
  | 0, _, _, _, _, _ => none
  | k + 1, x1, x5, x8, x9, x10 => if x10 < x9 then (if 0 ≤ x10 then (if x10 < (x8.length : Int) then (if x10 < 60 then (if x1 = 0 then (none) else (if x5.length < 17592186044416 then (laws_row.l0 k x1 (x5 ++ [Int.tmod (wrap64 (rd x8 x10)) x1]) x8 x9 (wrap64 (x10 + 1))) else (none))) else (laws_row.l0 k x1 x5 x8 x9 (wrap64 (x10 + 1)))) else (none)) else (none)) else (some x5)
def laws_row.f (k : Nat) (l0 : List Int) (a1 : Int) : Option (List Int) := laws_row.l0 k a1 ([] : List Int) l0 (l0.length : Int) 0
theorem laws_row.mono_l : ∀ k, (∀ y0 y1 y2 y3 y4, LeO (laws_row.l0 k y0 y1 y2 y3 y4) (laws_row.l0 (k + 1) y0 y1 y2 y3 y4))
  | 0 => fun _ _ _ _ _ r h => by simp [laws_row.l0] at h
  | k + 1 => by
    have ih0 := laws_row.mono_l k
    · intro y0 y1 y2 y3 y4
      unfold laws_row.l0
      repeat' first
      | (with_reducible exact ih0 _ _ _ _ _)
      | (with_reducible exact LeO.refl _)
      | (with_reducible exact LeO.none _)
      | (with_reducible refine LeO.ite ?_ ?_)
      | (with_reducible refine LeO.bind ?_ (fun _ => ?_))
      | exact ih0 _ _ _ _ _
      | exact LeO.none _
      | refine LeO.ite ?_ ?_
      | refine LeO.bind ?_ (fun _ => ?_)
theorem laws_row.mono : ∀ a0 a1 k, LeO (laws_row.f k a0 a1) (laws_row.f (k + 1) a0 a1) := by
  intro a0 a1 k
  have ih0 := laws_row.mono_l k
  unfold laws_row.f
  repeat' first
      | (with_reducible exact ih0 _ _ _ _ _)
      | (with_reducible exact LeO.refl _)
      | (with_reducible exact LeO.none _)
      | (with_reducible refine LeO.ite ?_ ?_)
      | (with_reducible refine LeO.bind ?_ (fun _ => ?_))
      | exact ih0 _ _ _ _ _
      | exact LeO.none _
      | refine LeO.ite ?_ ?_
      | refine LeO.bind ?_ (fun _ => ?_)
set_option maxHeartbeats 8000000 in
set_option maxRecDepth 100000 in
theorem laws_row.calls (k : Nat) (A0 : Option Addr) (c0 : Nat) (l0 : List Int) (a1 : Int) (r : List Int) (w : World) (hr0 : Kd.C (Kd.int .u8) w A0 l0.length l0) (hc0 : l0.length ≤ c0) (h : laws_row.f k l0 a1 = some r) :
    Calls Try.prog 7 #[.slice A0 l0.length c0, .int .i64 a1] w fun e w' => ∃ v0_ : Value, e = .returned (v0_) ∧ Kd.R (Kd.int .i64) 3 w' w.heap.size (fun _ => True) v0_ r ∧ Below w.heap.size w w' := by
  have HR0 := Aside0.mk hr0
  have HC0 := Aside0.mk hc0
  clear hr0 hc0
  have HB := Aside0.mk (Below.refl w.heap.size w)
  have H : (laws_row.l0 k a1 ([] : List Int) l0 (l0.length : Int) 0) = some r := h
  clear h
  have H' := Aside0.mk H
  clear H
  go_enter Try.func7, Try.ntmps7
  go_wp2
  go_loopg [5, 10] k (fun kq v5 v10 w' => ∃ (x5_1 : List Int) (x10_1 : Int), v10 = .int .i64 x10_1 ∧ Aside0 (laws_row.l0 kq a1 x5_1 l0 (l0.length : Int) x10_1 = some r) ∧ Aside0 (kq ≤ k) ∧ Aside0 (Kd.R (Kd.int .i64) 3 w' w.heap.size (fun _ => True) v5 x5_1) ∧ Aside0 (Below w.heap.size w w'))
  case atStart => exact ⟨(([] : List Int)), (0), (by first | rfl | (simp; done) | (simp [*]; done)), H', ⟨Nat.le_refl _⟩, ⟨by first | exact Kd.R_nil _ _ _ _ _ | exact Kd.N_nil _ _ _ _ _ | exact Kd.V_nil _ _ _ _ _ | exact Kd.Q_nil _ _ _ _ _ | exact Kd.S_nil _ _ _ _ _⟩, ⟨by repeat (first | (with_reducible first | exact HB.out | apply below_alloc | apply pw_below_drewN | apply below_drew1) | exact HB.out)⟩⟩
  case round =>
    clear H'
    try clear p2
    obtain ⟨x5_1, x10_1, rfl, HA, HK1, HO_5, HB⟩ := hrel
    cases gk with
    | zero => exact absurd HA.out (by simp [laws_row.l0])
    | succ k1 =>
      have H := HA.out
      clear HA
      simp only [laws_row.l0] at H
      by_cases c3 : x10_1 < (l0.length : Int)
      · rw [if_pos c3] at H
        have c3b0 : decide (x10_1 < (l0.length : Int)) = true := decide_eq_true c3
        clear c3
        by_cases c4 : 0 ≤ x10_1
        · rw [if_pos c4] at H
          have c4b0 : decide (0 ≤ x10_1) = true := decide_eq_true c4
          clear c4
          by_cases c5 : x10_1 < (l0.length : Int)
          · rw [if_pos c5] at H
            have c5b0 : decide (x10_1 < (l0.length : Int)) = true := decide_eq_true c5
            clear c5
            by_cases c6 : x10_1 < 60
            · rw [if_pos c6] at H
              have c6b0 : decide (x10_1 < 60) = true := decide_eq_true c6
              clear c6
              by_cases c7 : a1 = 0
              · rw [if_pos c7] at H
                exact absurd H (by simp)
              · rw [if_neg c7] at H
                have c7b0 : (a1 == 0) = false := beq_eq_false_iff_ne.mpr c7
                have c7b1 : (a1 != 0) = true := bne_iff_ne.mpr c7
                by_cases c8 : x5_1.length < 17592186044416
                · rw [if_pos c8] at H
                  have LMc8 := Aside0.mk c8
                  clear c8
                  obtain ⟨y102, hy102⟩ : ∃ y_ : List Int, y_ = (x5_1 ++ [Int.tmod (wrap64 (rd l0 x10_1)) a1]) := ⟨_, rfl⟩
                  replace H : (laws_row.l0 k1 a1 y102 l0 (l0.length : Int) (wrap64 (x10_1 + 1))) = some r := by first | (rw [hy102]; with_reducible exact H) | (have H2_ := (Option.bind_some _ _).symm.trans H; rw [hy102]; with_reducible exact H2_) | (have H2_ := (Option.bind_some _ _).symm.trans H; with_reducible exact H2_) | with_reducible exact H | (rw [hy102]; exact H) | exact H
                  have Ny102 := Aside0.mk hy102
                  clear hy102
                  have H' := Aside0.mk H
                  clear H
                  have p101 : 0 ≤ (x10_1 : Int) := of_decide_eq_true (by first | (with_reducible assumption) | assumption)
                  have q101 : x10_1 < (l0.length : Int) := of_decide_eq_true (by first | (with_reducible assumption) | assumption)
                  obtain ⟨ad101, e101, hx101_0⟩ := Kd.at_int HR0.out x10_1 p101 q101
                  cases e101
                  replace hx101_0 := (HB.out.cell (World.block_lt_of_cell? w _ hx101_0)).trans hx101_0
                  replace p101 := eq_true p101
                  replace q101 := eq_true q101
                  go_wp2_with (first | ((with_reducible refine gate_builtin (b := .append) (xs := #[.tmp 17, .tmp 22]) rfl ?_); at_builtin; refine Kd.R_append (Kd.int .i64) (w0 := w) w.heap.size rfl (.tmp 17) (.tmp 22) 23 3 (.int .i64 0) 8 rfl Try.underlying23 info3 rfl (by decide) (by omega) u5 x5_1 (Int.tmod (wrap64 (rd l0 x10_1)) a1) [.int .i64 (Int.tmod (wrap64 (rd l0 x10_1)) a1)] (fun _ => True) (fun _ => False) rfl rfl ?aP (fun _ hk => hk.elim) ?aF ?aO ?aB ?aS ?aL ?_; (case aP => exact rfl); (case aB => exact (by repeat (first | (with_reducible first | exact HB.out | apply below_alloc | apply pw_below_drewN | apply below_drew1) | exact HB.out))); (case aF => exact (fun _ _ => trivial)); (case aO => exact (by (with_reducible repeat (first | apply Kd.R_alloc | apply Kd.R_drewN | apply Kd.R_drew)); exact HO_5.out)); (case aS => exact (below_size (by repeat (first | (with_reducible first | exact HB.out | apply below_alloc | apply pw_below_drewN | apply below_drew1) | exact HB.out)))); (case aL => have := LMc8.out; omega); intro v103 w9 ho hb hg hat; rw [← Ny102.out] at ho; have n0_ := Aside0.mk (hb); have n1_ := Aside0.mk (ho); clear HB; clear HO_5; have HB := n0_; have HO104 := n1_; clear n0_ n1_; clear ho hb hg hat))
                  go_roundg k1
                  case measure => have := HK1.out; omega
                  case rel => exact ⟨(y102), (wrap64 (x10_1 + 1)), (by first | rfl | (simp; done) | (simp [*]; done)), H', ⟨by have := HK1.out; omega⟩, ⟨by (with_reducible repeat (first | apply Kd.R_alloc | apply Kd.R_drewN | apply Kd.R_drew)); exact HO104.out⟩, ⟨by repeat (first | (with_reducible first | exact HB.out | apply below_alloc | apply pw_below_drewN | apply below_drew1) | exact HB.out)⟩⟩
                · rw [if_neg c8] at H
                  exact absurd H (by simp)
            · rw [if_neg c6] at H
              have c6b0 : decide (x10_1 < 60) = false := decide_eq_false c6
              clear c6
              have H' := Aside0.mk H
              clear H
              have p101 : 0 ≤ (x10_1 : Int) := of_decide_eq_true (by first | (with_reducible assumption) | assumption)
              have q101 : x10_1 < (l0.length : Int) := of_decide_eq_true (by first | (with_reducible assumption) | assumption)
              obtain ⟨ad101, e101, hx101_0⟩ := Kd.at_int HR0.out x10_1 p101 q101
              cases e101
              replace hx101_0 := (HB.out.cell (World.block_lt_of_cell? w _ hx101_0)).trans hx101_0
              replace p101 := eq_true p101
              replace q101 := eq_true q101
              go_wp2
              go_roundg k1
              case measure => have := HK1.out; omega
              case rel => exact ⟨(x5_1), (wrap64 (x10_1 + 1)), (by first | rfl | (simp; done) | (simp [*]; done)), H', ⟨by have := HK1.out; omega⟩, ⟨by (with_reducible repeat (first | apply Kd.R_alloc | apply Kd.R_drewN | apply Kd.R_drew)); exact HO_5.out⟩, ⟨by repeat (first | (with_reducible first | exact HB.out | apply below_alloc | apply pw_below_drewN | apply below_drew1) | exact HB.out)⟩⟩
          · rw [if_neg c5] at H
            exact absurd H (by simp)
        · rw [if_neg c4] at H
          exact absurd H (by simp)
      · rw [if_neg c3] at H
        have c3b0 : decide (x10_1 < (l0.length : Int)) = false := decide_eq_false c3
        clear c3
        obtain rfl := Option.some.inj H
        go_wp2
        go_ret
        exact ⟨_, by first | rfl | (simp [errW_none, errW_some] <;> rfl) | (simp [*, errW_none, errW_some] <;> rfl), by (with_reducible repeat (first | apply Kd.R_alloc | apply Kd.R_drewN | apply Kd.R_drew)); exact HO_5.out, by repeat (first | (with_reducible first | exact HB.out | apply below_alloc | apply pw_below_drewN | apply below_drew1) | exact HB.out)⟩

-- NOT PRINTED: function 8 (laws_breaks)

/-! ### impl_graphemes: function 21 -/
def impl_graphemes.f  : Option (List Int) := some (([1, 2, 3, 4, 5, 6, 7, 8, 9, 10, 11, 12, 13, 14, 15] : List Int))
set_option maxHeartbeats 8000000 in
set_option maxRecDepth 100000 in
theorem impl_graphemes.calls  (r : List Int) (w : World) (h : impl_graphemes.f  = some r) :
    Calls Try.prog 21 #[] w fun e w' => ∃ v0_ : Value, e = .returned (v0_) ∧ Kd.R (Kd.int .i64) 3 w' w.heap.size (fun _ => True) v0_ r ∧ Below w.heap.size w w' := by
  have HB := Aside0.mk (Below.refl w.heap.size w)
  have H : (some (([1, 2, 3, 4, 5, 6, 7, 8, 9, 10, 11, 12, 13, 14, 15] : List Int))) = some r := h
  clear h
  obtain ⟨y105, hy105⟩ : ∃ y_ : List Int, y_ = (([1, 2, 3, 4, 5, 6, 7, 8, 9, 10, 11, 12, 13, 14, 15] : List Int)) := ⟨_, rfl⟩
  replace H : (some y105) = some r := by first | (rw [hy105]; with_reducible exact H) | (have H2_ := (Option.bind_some _ _).symm.trans H; rw [hy105]; with_reducible exact H2_) | (have H2_ := (Option.bind_some _ _).symm.trans H; with_reducible exact H2_) | with_reducible exact H | (rw [hy105]; exact H) | exact H
  have Ny105 := Aside0.mk hy105
  clear hy105
  obtain rfl := Option.some.inj H
  go_enter Try.func21, Try.ntmps21
  go_wp2_with (first | ((with_reducible refine gate_dst (N := 1) rfl ?_); refine Kd.R_lit (Kd.int .i64) _ 3 ?hg (N := 1) ?hd (xs := ([1, 2, 3, 4, 5, 6, 7, 8, 9, 10, 11, 12, 13, 14, 15] : List Int)) (inner := [.int .i64 1, .int .i64 2, .int .i64 3, .int .i64 4, .int .i64 5, .int .i64 6, .int .i64 7, .int .i64 8, .int .i64 9, .int .i64 10, .int .i64 11, .int .i64 12, .int .i64 13, .int .i64 14, .int .i64 15]) (ok := fun _ => True) (okp := fun _ => True) ?hr ?hp (fun _ hk => hk) trivial (Below.refl _ _) (Nat.le_refl _) (by simp) ?_; (case hd => rfl); (case hg => rfl); (case hr => first | (go_simp; done) | (go_simp; rfl)); (case hp => exact (Reps.one (show Kd.M (Kd.int .i64) _ _ _ 1 [.int .i64 1] from rfl) (Reps.one (show Kd.M (Kd.int .i64) _ _ _ 2 [.int .i64 2] from rfl) (Reps.one (show Kd.M (Kd.int .i64) _ _ _ 3 [.int .i64 3] from rfl) (Reps.one (show Kd.M (Kd.int .i64) _ _ _ 4 [.int .i64 4] from rfl) (Reps.one (show Kd.M (Kd.int .i64) _ _ _ 5 [.int .i64 5] from rfl) (Reps.one (show Kd.M (Kd.int .i64) _ _ _ 6 [.int .i64 6] from rfl) (Reps.one (show Kd.M (Kd.int .i64) _ _ _ 7 [.int .i64 7] from rfl) (Reps.one (show Kd.M (Kd.int .i64) _ _ _ 8 [.int .i64 8] from rfl) (Reps.one (show Kd.M (Kd.int .i64) _ _ _ 9 [.int .i64 9] from rfl) (Reps.one (show Kd.M (Kd.int .i64) _ _ _ 10 [.int .i64 10] from rfl) (Reps.one (show Kd.M (Kd.int .i64) _ _ _ 11 [.int .i64 11] from rfl) (Reps.one (show Kd.M (Kd.int .i64) _ _ _ 12 [.int .i64 12] from rfl) (Reps.one (show Kd.M (Kd.int .i64) _ _ _ 13 [.int .i64 13] from rfl) (Reps.one (show Kd.M (Kd.int .i64) _ _ _ 14 [.int .i64 14] from rfl) (Reps.one (show Kd.M (Kd.int .i64) _ _ _ 15 [.int .i64 15] from rfl) (Reps.none _ _))))))))))))))))); intro v106 w1 ho2 hb hg_ hnew_; clear hg_ hnew_; (first | rw [← Ny105.out] at ho2 | (simp only [Int.reduceToNat] at ho2; rw [← Ny105.out] at ho2)); have n0_ := Aside0.mk (Kd.R_lower ho2 (below_size (by repeat (first | (with_reducible first | exact HB.out | apply below_alloc | apply pw_below_drewN | apply below_drew1) | exact HB.out)))); have n1_ := Aside0.mk (below_step (by repeat (first | (with_reducible first | exact HB.out | apply below_alloc | apply pw_below_drewN | apply below_drew1) | exact HB.out)) hb); clear HB; have HO107 := n0_; have HB := n1_; clear n0_ n1_; clear hb ho2))
  go_ret
  exact ⟨_, by first | rfl | (simp [errW_none, errW_some] <;> rfl) | (simp [*, errW_none, errW_some] <;> rfl), by (with_reducible repeat (first | apply Kd.R_alloc | apply Kd.R_drewN | apply Kd.R_drew)); exact HO107.out, by repeat (first | (with_reducible first | exact HB.out | apply below_alloc | apply pw_below_drewN | apply below_drew1) | exact HB.out)⟩

/-! ### uniseg_grTransitions: function 78 -/
def uniseg_grTransitions.f (a0 : Int) (a1 : Int) : Option (Int × Int × Int) := if (Go.bits .or .u64 (IntKind.u64.wrap (a0)) (IntKind.u64.wrap ((IntKind.u64.wrap (a1)) * 4294967296))) = 12884901888 then (some (1, 1, 50)) else (if (Go.bits .or .u64 (IntKind.u64.wrap (a0)) (IntKind.u64.wrap ((IntKind.u64.wrap (a1)) * 4294967296))) = 17179869184 then (some (2, 1, 50)) else (if (Go.bits .or .u64 (IntKind.u64.wrap (a0)) (IntKind.u64.wrap ((IntKind.u64.wrap (a1)) * 4294967296))) = 21474836480 then (some (2, 1, 50)) else (if (Go.bits .or .u64 (IntKind.u64.wrap (a0)) (IntKind.u64.wrap ((IntKind.u64.wrap (a1)) * 4294967296))) = 4294967297 then (some (0, 1, 40)) else (if (Go.bits .or .u64 (IntKind.u64.wrap (a0)) (IntKind.u64.wrap ((IntKind.u64.wrap (a1)) * 4294967296))) = 4294967298 then (some (0, 1, 40)) else (if (Go.bits .or .u64 (IntKind.u64.wrap (a0)) (IntKind.u64.wrap ((IntKind.u64.wrap (a1)) * 4294967296))) = 17179869185 then (some (2, 0, 30)) else (if (Go.bits .or .u64 (IntKind.u64.wrap (a0)) (IntKind.u64.wrap ((IntKind.u64.wrap (a1)) * 4294967296))) = 38654705664 then (some (3, 1, 9990)) else (if (Go.bits .or .u64 (IntKind.u64.wrap (a0)) (IntKind.u64.wrap ((IntKind.u64.wrap (a1)) * 4294967296))) = 38654705667 then (some (3, 0, 60)) else (if (Go.bits .or .u64 (IntKind.u64.wrap (a0)) (IntKind.u64.wrap ((IntKind.u64.wrap (a1)) * 4294967296))) = 42949672963 then (some (4, 0, 60)) else (if (Go.bits .or .u64 (IntKind.u64.wrap (a0)) (IntKind.u64.wrap ((IntKind.u64.wrap (a1)) * 4294967296))) = 51539607555 then (some (4, 0, 60)) else (if (Go.bits .or .u64 (IntKind.u64.wrap (a0)) (IntKind.u64.wrap ((IntKind.u64.wrap (a1)) * 4294967296))) = 55834574851 then (some (5, 0, 60)) else (if (Go.bits .or .u64 (IntKind.u64.wrap (a0)) (IntKind.u64.wrap ((IntKind.u64.wrap (a1)) * 4294967296))) = 51539607552 then (some (4, 1, 9990)) else (if (Go.bits .or .u64 (IntKind.u64.wrap (a0)) (IntKind.u64.wrap ((IntKind.u64.wrap (a1)) * 4294967296))) = 42949672960 then (some (4, 1, 9990)) else (if (Go.bits .or .u64 (IntKind.u64.wrap (a0)) (IntKind.u64.wrap ((IntKind.u64.wrap (a1)) * 4294967296))) = 42949672964 then (some (4, 0, 70)) else (if (Go.bits .or .u64 (IntKind.u64.wrap (a0)) (IntKind.u64.wrap ((IntKind.u64.wrap (a1)) * 4294967296))) = 47244640260 then (some (5, 0, 70)) else (if (Go.bits .or .u64 (IntKind.u64.wrap (a0)) (IntKind.u64.wrap ((IntKind.u64.wrap (a1)) * 4294967296))) = 55834574848 then (some (5, 1, 9990)) else (if (Go.bits .or .u64 (IntKind.u64.wrap (a0)) (IntKind.u64.wrap ((IntKind.u64.wrap (a1)) * 4294967296))) = 47244640256 then (some (5, 1, 9990)) else (if (Go.bits .or .u64 (IntKind.u64.wrap (a0)) (IntKind.u64.wrap ((IntKind.u64.wrap (a1)) * 4294967296))) = 47244640261 then (some (5, 0, 80)) else (if (Go.bits .or .u64 (IntKind.u64.wrap (a0)) (IntKind.u64.wrap ((IntKind.u64.wrap (a1)) * 4294967296))) = 25769803776 then (some (0, 0, 90)) else (if (Go.bits .or .u64 (IntKind.u64.wrap (a0)) (IntKind.u64.wrap ((IntKind.u64.wrap (a1)) * 4294967296))) = 60129542144 then (some (0, 0, 90)) else (if (Go.bits .or .u64 (IntKind.u64.wrap (a0)) (IntKind.u64.wrap ((IntKind.u64.wrap (a1)) * 4294967296))) = 34359738368 then (some (0, 0, 91)) else (if (Go.bits .or .u64 (IntKind.u64.wrap (a0)) (IntKind.u64.wrap ((IntKind.u64.wrap (a1)) * 4294967296))) = 8589934592 then (some (6, 1, 9990)) else (if (Go.bits .or .u64 (IntKind.u64.wrap (a0)) (IntKind.u64.wrap ((IntKind.u64.wrap (a1)) * 4294967296))) = 4294967302 then (some (0, 0, 92)) else (if (Go.bits .or .u64 (IntKind.u64.wrap (a0)) (IntKind.u64.wrap ((IntKind.u64.wrap (a1)) * 4294967296))) = 64424509440 then (some (7, 1, 9990)) else (if (Go.bits .or .u64 (IntKind.u64.wrap (a0)) (IntKind.u64.wrap ((IntKind.u64.wrap (a1)) * 4294967296))) = 25769803783 then (some (7, 0, 110)) else (if (Go.bits .or .u64 (IntKind.u64.wrap (a0)) (IntKind.u64.wrap ((IntKind.u64.wrap (a1)) * 4294967296))) = 60129542151 then (some (8, 0, 110)) else (if (Go.bits .or .u64 (IntKind.u64.wrap (a0)) (IntKind.u64.wrap ((IntKind.u64.wrap (a1)) * 4294967296))) = 64424509448 then (some (7, 0, 110)) else (if (Go.bits .or .u64 (IntKind.u64.wrap (a0)) (IntKind.u64.wrap ((IntKind.u64.wrap (a1)) * 4294967296))) = 30064771072 then (some (9, 1, 9990)) else (if (Go.bits .or .u64 (IntKind.u64.wrap (a0)) (IntKind.u64.wrap ((IntKind.u64.wrap (a1)) * 4294967296))) = 30064771081 then (some (10, 0, 120)) else (if (Go.bits .or .u64 (IntKind.u64.wrap (a0)) (IntKind.u64.wrap ((IntKind.u64.wrap (a1)) * 4294967296))) = 30064771082 then (some (9, 1, 120)) else (some ((-1), (-1), (-1))))))))))))))))))))))))))))))))
set_option maxHeartbeats 8000000 in
set_option maxRecDepth 100000 in
theorem uniseg_grTransitions.calls (a0 : Int) (a1 : Int) (r1 : Int) (r2 : Int) (r3 : Int) (w : World) (h : uniseg_grTransitions.f a0 a1 = some (r1, r2, r3)) :
    Calls Try.prog 78 #[.int .i64 a0, .int .i64 a1] w fun e w' => e = .returned (.tuple #[.int .i64 r1, .int .i64 r2, .int .i64 r3]) ∧ Drawn0 w w' := by
  have H : (if (Go.bits .or .u64 (IntKind.u64.wrap (a0)) (IntKind.u64.wrap ((IntKind.u64.wrap (a1)) * 4294967296))) = 12884901888 then (some (1, 1, 50)) else (if (Go.bits .or .u64 (IntKind.u64.wrap (a0)) (IntKind.u64.wrap ((IntKind.u64.wrap (a1)) * 4294967296))) = 17179869184 then (some (2, 1, 50)) else (if (Go.bits .or .u64 (IntKind.u64.wrap (a0)) (IntKind.u64.wrap ((IntKind.u64.wrap (a1)) * 4294967296))) = 21474836480 then (some (2, 1, 50)) else (if (Go.bits .or .u64 (IntKind.u64.wrap (a0)) (IntKind.u64.wrap ((IntKind.u64.wrap (a1)) * 4294967296))) = 4294967297 then (some (0, 1, 40)) else (if (Go.bits .or .u64 (IntKind.u64.wrap (a0)) (IntKind.u64.wrap ((IntKind.u64.wrap (a1)) * 4294967296))) = 4294967298 then (some (0, 1, 40)) else (if (Go.bits .or .u64 (IntKind.u64.wrap (a0)) (IntKind.u64.wrap ((IntKind.u64.wrap (a1)) * 4294967296))) = 17179869185 then (some (2, 0, 30)) else (if (Go.bits .or .u64 (IntKind.u64.wrap (a0)) (IntKind.u64.wrap ((IntKind.u64.wrap (a1)) * 4294967296))) = 38654705664 then (some (3, 1, 9990)) else (if (Go.bits .or .u64 (IntKind.u64.wrap (a0)) (IntKind.u64.wrap ((IntKind.u64.wrap (a1)) * 4294967296))) = 38654705667 then (some (3, 0, 60)) else (if (Go.bits .or .u64 (IntKind.u64.wrap (a0)) (IntKind.u64.wrap ((IntKind.u64.wrap (a1)) * 4294967296))) = 42949672963 then (some (4, 0, 60)) else (if (Go.bits .or .u64 (IntKind.u64.wrap (a0)) (IntKind.u64.wrap ((IntKind.u64.wrap (a1)) * 4294967296))) = 51539607555 then (some (4, 0, 60)) else (if (Go.bits .or .u64 (IntKind.u64.wrap (a0)) (IntKind.u64.wrap ((IntKind.u64.wrap (a1)) * 4294967296))) = 55834574851 then (some (5, 0, 60)) else (if (Go.bits .or .u64 (IntKind.u64.wrap (a0)) (IntKind.u64.wrap ((IntKind.u64.wrap (a1)) * 4294967296))) = 51539607552 then (some (4, 1, 9990)) else (if (Go.bits .or .u64 (IntKind.u64.wrap (a0)) (IntKind.u64.wrap ((IntKind.u64.wrap (a1)) * 4294967296))) = 42949672960 then (some (4, 1, 9990)) else (if (Go.bits .or .u64 (IntKind.u64.wrap (a0)) (IntKind.u64.wrap ((IntKind.u64.wrap (a1)) * 4294967296))) = 42949672964 then (some (4, 0, 70)) else (if (Go.bits .or .u64 (IntKind.u64.wrap (a0)) (IntKind.u64.wrap ((IntKind.u64.wrap (a1)) * 4294967296))) = 47244640260 then (some (5, 0, 70)) else (if (Go.bits .or .u64 (IntKind.u64.wrap (a0)) (IntKind.u64.wrap ((IntKind.u64.wrap (a1)) * 4294967296))) = 55834574848 then (some (5, 1, 9990)) else (if (Go.bits .or .u64 (IntKind.u64.wrap (a0)) (IntKind.u64.wrap ((IntKind.u64.wrap (a1)) * 4294967296))) = 47244640256 then (some (5, 1, 9990)) else (if (Go.bits .or .u64 (IntKind.u64.wrap (a0)) (IntKind.u64.wrap ((IntKind.u64.wrap (a1)) * 4294967296))) = 47244640261 then (some (5, 0, 80)) else (if (Go.bits .or .u64 (IntKind.u64.wrap (a0)) (IntKind.u64.wrap ((IntKind.u64.wrap (a1)) * 4294967296))) = 25769803776 then (some (0, 0, 90)) else (if (Go.bits .or .u64 (IntKind.u64.wrap (a0)) (IntKind.u64.wrap ((IntKind.u64.wrap (a1)) * 4294967296))) = 60129542144 then (some (0, 0, 90)) else (if (Go.bits .or .u64 (IntKind.u64.wrap (a0)) (IntKind.u64.wrap ((IntKind.u64.wrap (a1)) * 4294967296))) = 34359738368 then (some (0, 0, 91)) else (if (Go.bits .or .u64 (IntKind.u64.wrap (a0)) (IntKind.u64.wrap ((IntKind.u64.wrap (a1)) * 4294967296))) = 8589934592 then (some (6, 1, 9990)) else (if (Go.bits .or .u64 (IntKind.u64.wrap (a0)) (IntKind.u64.wrap ((IntKind.u64.wrap (a1)) * 4294967296))) = 4294967302 then (some (0, 0, 92)) else (if (Go.bits .or .u64 (IntKind.u64.wrap (a0)) (IntKind.u64.wrap ((IntKind.u64.wrap (a1)) * 4294967296))) = 64424509440 then (some (7, 1, 9990)) else (if (Go.bits .or .u64 (IntKind.u64.wrap (a0)) (IntKind.u64.wrap ((IntKind.u64.wrap (a1)) * 4294967296))) = 25769803783 then (some (7, 0, 110)) else (if (Go.bits .or .u64 (IntKind.u64.wrap (a0)) (IntKind.u64.wrap ((IntKind.u64.wrap (a1)) * 4294967296))) = 60129542151 then (some (8, 0, 110)) else (if (Go.bits .or .u64 (IntKind.u64.wrap (a0)) (IntKind.u64.wrap ((IntKind.u64.wrap (a1)) * 4294967296))) = 64424509448 then (some (7, 0, 110)) else (if (Go.bits .or .u64 (IntKind.u64.wrap (a0)) (IntKind.u64.wrap ((IntKind.u64.wrap (a1)) * 4294967296))) = 30064771072 then (some (9, 1, 9990)) else (if (Go.bits .or .u64 (IntKind.u64.wrap (a0)) (IntKind.u64.wrap ((IntKind.u64.wrap (a1)) * 4294967296))) = 30064771081 then (some (10, 0, 120)) else (if (Go.bits .or .u64 (IntKind.u64.wrap (a0)) (IntKind.u64.wrap ((IntKind.u64.wrap (a1)) * 4294967296))) = 30064771082 then (some (9, 1, 120)) else (some ((-1), (-1), (-1))))))))))))))))))))))))))))))))) = some (r1, r2, r3) := h
  clear h
  by_cases c3 : (Go.bits .or .u64 (IntKind.u64.wrap (a0)) (IntKind.u64.wrap ((IntKind.u64.wrap (a1)) * 4294967296))) = 12884901888
  · rw [if_pos c3] at H
    have c3b0 : ((Go.bits .or .u64 (IntKind.u64.wrap (a0)) (IntKind.u64.wrap ((IntKind.u64.wrap (a1)) * 4294967296))) == 12884901888) = true := beq_iff_eq.mpr c3
    have c3b1 : ((Go.bits .or .u64 (IntKind.u64.wrap (a0)) (IntKind.u64.wrap ((IntKind.u64.wrap (a1)) * 4294967296))) != 12884901888) = false := bne_eq_false_iff_eq.mpr c3
    clear c3
    simp only [Option.some.injEq, Prod.mk.injEq] at H
    obtain ⟨rfl, rfl, rfl⟩ := H
    go_enter Try.func78, Try.ntmps78
    go_wp2
    go_ret3
    exact ⟨by first | rfl | (simp; done) | (simp [*]; done), by repeat (first | exact Drawn0.refl _ | apply Drawn0.step)⟩
  · rw [if_neg c3] at H
    have c3b0 : ((Go.bits .or .u64 (IntKind.u64.wrap (a0)) (IntKind.u64.wrap ((IntKind.u64.wrap (a1)) * 4294967296))) == 12884901888) = false := beq_eq_false_iff_ne.mpr c3
    have c3b1 : ((Go.bits .or .u64 (IntKind.u64.wrap (a0)) (IntKind.u64.wrap ((IntKind.u64.wrap (a1)) * 4294967296))) != 12884901888) = true := bne_iff_ne.mpr c3
    by_cases c4 : (Go.bits .or .u64 (IntKind.u64.wrap (a0)) (IntKind.u64.wrap ((IntKind.u64.wrap (a1)) * 4294967296))) = 17179869184
    · rw [if_pos c4] at H
      have c4b0 : ((Go.bits .or .u64 (IntKind.u64.wrap (a0)) (IntKind.u64.wrap ((IntKind.u64.wrap (a1)) * 4294967296))) == 17179869184) = true := beq_iff_eq.mpr c4
      have c4b1 : ((Go.bits .or .u64 (IntKind.u64.wrap (a0)) (IntKind.u64.wrap ((IntKind.u64.wrap (a1)) * 4294967296))) != 17179869184) = false := bne_eq_false_iff_eq.mpr c4
      clear c4
      simp only [Option.some.injEq, Prod.mk.injEq] at H
      obtain ⟨rfl, rfl, rfl⟩ := H
      go_enter Try.func78, Try.ntmps78
      go_wp2
      go_ret3
      exact ⟨by first | rfl | (simp; done) | (simp [*]; done), by repeat (first | exact Drawn0.refl _ | apply Drawn0.step)⟩
    · rw [if_neg c4] at H
      have c4b0 : ((Go.bits .or .u64 (IntKind.u64.wrap (a0)) (IntKind.u64.wrap ((IntKind.u64.wrap (a1)) * 4294967296))) == 17179869184) = false := beq_eq_false_iff_ne.mpr c4
      have c4b1 : ((Go.bits .or .u64 (IntKind.u64.wrap (a0)) (IntKind.u64.wrap ((IntKind.u64.wrap (a1)) * 4294967296))) != 17179869184) = true := bne_iff_ne.mpr c4
      by_cases c5 : (Go.bits .or .u64 (IntKind.u64.wrap (a0)) (IntKind.u64.wrap ((IntKind.u64.wrap (a1)) * 4294967296))) = 21474836480
      · rw [if_pos c5] at H
        have c5b0 : ((Go.bits .or .u64 (IntKind.u64.wrap (a0)) (IntKind.u64.wrap ((IntKind.u64.wrap (a1)) * 4294967296))) == 21474836480) = true := beq_iff_eq.mpr c5
        have c5b1 : ((Go.bits .or .u64 (IntKind.u64.wrap (a0)) (IntKind.u64.wrap ((IntKind.u64.wrap (a1)) * 4294967296))) != 21474836480) = false := bne_eq_false_iff_eq.mpr c5
        clear c5
        simp only [Option.some.injEq, Prod.mk.injEq] at H
        obtain ⟨rfl, rfl, rfl⟩ := H
        go_enter Try.func78, Try.ntmps78
        go_wp2
        go_ret3
        exact ⟨by first | rfl | (simp; done) | (simp [*]; done), by repeat (first | exact Drawn0.refl _ | apply Drawn0.step)⟩
      · rw [if_neg c5] at H
        have c5b0 : ((Go.bits .or .u64 (IntKind.u64.wrap (a0)) (IntKind.u64.wrap ((IntKind.u64.wrap (a1)) * 4294967296))) == 21474836480) = false := beq_eq_false_iff_ne.mpr c5
        have c5b1 : ((Go.bits .or .u64 (IntKind.u64.wrap (a0)) (IntKind.u64.wrap ((IntKind.u64.wrap (a1)) * 4294967296))) != 21474836480) = true := bne_iff_ne.mpr c5
        by_cases c6 : (Go.bits .or .u64 (IntKind.u64.wrap (a0)) (IntKind.u64.wrap ((IntKind.u64.wrap (a1)) * 4294967296))) = 4294967297
        · rw [if_pos c6] at H
          have c6b0 : ((Go.bits .or .u64 (IntKind.u64.wrap (a0)) (IntKind.u64.wrap ((IntKind.u64.wrap (a1)) * 4294967296))) == 4294967297) = true := beq_iff_eq.mpr c6
          have c6b1 : ((Go.bits .or .u64 (IntKind.u64.wrap (a0)) (IntKind.u64.wrap ((IntKind.u64.wrap (a1)) * 4294967296))) != 4294967297) = false := bne_eq_false_iff_eq.mpr c6
          clear c6
          simp only [Option.some.injEq, Prod.mk.injEq] at H
          obtain ⟨rfl, rfl, rfl⟩ := H
          go_enter Try.func78, Try.ntmps78
          go_wp2
          go_ret3
          exact ⟨by first | rfl | (simp; done) | (simp [*]; done), by repeat (first | exact Drawn0.refl _ | apply Drawn0.step)⟩
        · rw [if_neg c6] at H
          have c6b0 : ((Go.bits .or .u64 (IntKind.u64.wrap (a0)) (IntKind.u64.wrap ((IntKind.u64.wrap (a1)) * 4294967296))) == 4294967297) = false := beq_eq_false_iff_ne.mpr c6
          have c6b1 : ((Go.bits .or .u64 (IntKind.u64.wrap (a0)) (IntKind.u64.wrap ((IntKind.u64.wrap (a1)) * 4294967296))) != 4294967297) = true := bne_iff_ne.mpr c6
          by_cases c7 : (Go.bits .or .u64 (IntKind.u64.wrap (a0)) (IntKind.u64.wrap ((IntKind.u64.wrap (a1)) * 4294967296))) = 4294967298
          · rw [if_pos c7] at H
            have c7b0 : ((Go.bits .or .u64 (IntKind.u64.wrap (a0)) (IntKind.u64.wrap ((IntKind.u64.wrap (a1)) * 4294967296))) == 4294967298) = true := beq_iff_eq.mpr c7
            have c7b1 : ((Go.bits .or .u64 (IntKind.u64.wrap (a0)) (IntKind.u64.wrap ((IntKind.u64.wrap (a1)) * 4294967296))) != 4294967298) = false := bne_eq_false_iff_eq.mpr c7
            clear c7
            simp only [Option.some.injEq, Prod.mk.injEq] at H
            obtain ⟨rfl, rfl, rfl⟩ := H
            go_enter Try.func78, Try.ntmps78
            go_wp2
            go_ret3
            exact ⟨by first | rfl | (simp; done) | (simp [*]; done), by repeat (first | exact Drawn0.refl _ | apply Drawn0.step)⟩
          · rw [if_neg c7] at H
            have c7b0 : ((Go.bits .or .u64 (IntKind.u64.wrap (a0)) (IntKind.u64.wrap ((IntKind.u64.wrap (a1)) * 4294967296))) == 4294967298) = false := beq_eq_false_iff_ne.mpr c7
            have c7b1 : ((Go.bits .or .u64 (IntKind.u64.wrap (a0)) (IntKind.u64.wrap ((IntKind.u64.wrap (a1)) * 4294967296))) != 4294967298) = true := bne_iff_ne.mpr c7
            by_cases c8 : (Go.bits .or .u64 (IntKind.u64.wrap (a0)) (IntKind.u64.wrap ((IntKind.u64.wrap (a1)) * 4294967296))) = 17179869185
            · rw [if_pos c8] at H
              have c8b0 : ((Go.bits .or .u64 (IntKind.u64.wrap (a0)) (IntKind.u64.wrap ((IntKind.u64.wrap (a1)) * 4294967296))) == 17179869185) = true := beq_iff_eq.mpr c8
              have c8b1 : ((Go.bits .or .u64 (IntKind.u64.wrap (a0)) (IntKind.u64.wrap ((IntKind.u64.wrap (a1)) * 4294967296))) != 17179869185) = false := bne_eq_false_iff_eq.mpr c8
              clear c8
              simp only [Option.some.injEq, Prod.mk.injEq] at H
              obtain ⟨rfl, rfl, rfl⟩ := H
              go_enter Try.func78, Try.ntmps78
              go_wp2
              go_ret3
              exact ⟨by first | rfl | (simp; done) | (simp [*]; done), by repeat (first | exact Drawn0.refl _ | apply Drawn0.step)⟩
            · rw [if_neg c8] at H
              have c8b0 : ((Go.bits .or .u64 (IntKind.u64.wrap (a0)) (IntKind.u64.wrap ((IntKind.u64.wrap (a1)) * 4294967296))) == 17179869185) = false := beq_eq_false_iff_ne.mpr c8
              have c8b1 : ((Go.bits .or .u64 (IntKind.u64.wrap (a0)) (IntKind.u64.wrap ((IntKind.u64.wrap (a1)) * 4294967296))) != 17179869185) = true := bne_iff_ne.mpr c8
              by_cases c9 : (Go.bits .or .u64 (IntKind.u64.wrap (a0)) (IntKind.u64.wrap ((IntKind.u64.wrap (a1)) * 4294967296))) = 38654705664
              · rw [if_pos c9] at H
                have c9b0 : ((Go.bits .or .u64 (IntKind.u64.wrap (a0)) (IntKind.u64.wrap ((IntKind.u64.wrap (a1)) * 4294967296))) == 38654705664) = true := beq_iff_eq.mpr c9
                have c9b1 : ((Go.bits .or .u64 (IntKind.u64.wrap (a0)) (IntKind.u64.wrap ((IntKind.u64.wrap (a1)) * 4294967296))) != 38654705664) = false := bne_eq_false_iff_eq.mpr c9
                clear c9
                simp only [Option.some.injEq, Prod.mk.injEq] at H
                obtain ⟨rfl, rfl, rfl⟩ := H
                go_enter Try.func78, Try.ntmps78
                go_wp2
                go_ret3
                exact ⟨by first | rfl | (simp; done) | (simp [*]; done), by repeat (first | exact Drawn0.refl _ | apply Drawn0.step)⟩
              · rw [if_neg c9] at H
                have c9b0 : ((Go.bits .or .u64 (IntKind.u64.wrap (a0)) (IntKind.u64.wrap ((IntKind.u64.wrap (a1)) * 4294967296))) == 38654705664) = false := beq_eq_false_iff_ne.mpr c9
                have c9b1 : ((Go.bits .or .u64 (IntKind.u64.wrap (a0)) (IntKind.u64.wrap ((IntKind.u64.wrap (a1)) * 4294967296))) != 38654705664) = true := bne_iff_ne.mpr c9
                by_cases c10 : (Go.bits .or .u64 (IntKind.u64.wrap (a0)) (IntKind.u64.wrap ((IntKind.u64.wrap (a1)) * 4294967296))) = 38654705667
                · rw [if_pos c10] at H
                  have c10b0 : ((Go.bits .or .u64 (IntKind.u64.wrap (a0)) (IntKind.u64.wrap ((IntKind.u64.wrap (a1)) * 4294967296))) == 38654705667) = true := beq_iff_eq.mpr c10
                  have c10b1 : ((Go.bits .or .u64 (IntKind.u64.wrap (a0)) (IntKind.u64.wrap ((IntKind.u64.wrap (a1)) * 4294967296))) != 38654705667) = false := bne_eq_false_iff_eq.mpr c10
                  clear c10
                  simp only [Option.some.injEq, Prod.mk.injEq] at H
                  obtain ⟨rfl, rfl, rfl⟩ := H
                  go_enter Try.func78, Try.ntmps78
                  go_wp2
                  go_ret3
                  exact ⟨by first | rfl | (simp; done) | (simp [*]; done), by repeat (first | exact Drawn0.refl _ | apply Drawn0.step)⟩
                · rw [if_neg c10] at H
                  have c10b0 : ((Go.bits .or .u64 (IntKind.u64.wrap (a0)) (IntKind.u64.wrap ((IntKind.u64.wrap (a1)) * 4294967296))) == 38654705667) = false := beq_eq_false_iff_ne.mpr c10
                  have c10b1 : ((Go.bits .or .u64 (IntKind.u64.wrap (a0)) (IntKind.u64.wrap ((IntKind.u64.wrap (a1)) * 4294967296))) != 38654705667) = true := bne_iff_ne.mpr c10
                  by_cases c11 : (Go.bits .or .u64 (IntKind.u64.wrap (a0)) (IntKind.u64.wrap ((IntKind.u64.wrap (a1)) * 4294967296))) = 42949672963
                  · rw [if_pos c11] at H
                    have c11b0 : ((Go.bits .or .u64 (IntKind.u64.wrap (a0)) (IntKind.u64.wrap ((IntKind.u64.wrap (a1)) * 4294967296))) == 42949672963) = true := beq_iff_eq.mpr c11
                    have c11b1 : ((Go.bits .or .u64 (IntKind.u64.wrap (a0)) (IntKind.u64.wrap ((IntKind.u64.wrap (a1)) * 4294967296))) != 42949672963) = false := bne_eq_false_iff_eq.mpr c11
                    clear c11
                    simp only [Option.some.injEq, Prod.mk.injEq] at H
                    obtain ⟨rfl, rfl, rfl⟩ := H
                    go_enter Try.func78, Try.ntmps78
                    go_wp2
                    go_ret3
                    exact ⟨by first | rfl | (simp; done) | (simp [*]; done), by repeat (first | exact Drawn0.refl _ | apply Drawn0.step)⟩
                  · rw [if_neg c11] at H
                    have c11b0 : ((Go.bits .or .u64 (IntKind.u64.wrap (a0)) (IntKind.u64.wrap ((IntKind.u64.wrap (a1)) * 4294967296))) == 42949672963) = false := beq_eq_false_iff_ne.mpr c11
                    have c11b1 : ((Go.bits .or .u64 (IntKind.u64.wrap (a0)) (IntKind.u64.wrap ((IntKind.u64.wrap (a1)) * 4294967296))) != 42949672963) = true := bne_iff_ne.mpr c11
                    by_cases c12 : (Go.bits .or .u64 (IntKind.u64.wrap (a0)) (IntKind.u64.wrap ((IntKind.u64.wrap (a1)) * 4294967296))) = 51539607555
                    · rw [if_pos c12] at H
                      have c12b0 : ((Go.bits .or .u64 (IntKind.u64.wrap (a0)) (IntKind.u64.wrap ((IntKind.u64.wrap (a1)) * 4294967296))) == 51539607555) = true := beq_iff_eq.mpr c12
                      have c12b1 : ((Go.bits .or .u64 (IntKind.u64.wrap (a0)) (IntKind.u64.wrap ((IntKind.u64.wrap (a1)) * 4294967296))) != 51539607555) = false := bne_eq_false_iff_eq.mpr c12
                      clear c12
                      simp only [Option.some.injEq, Prod.mk.injEq] at H
                      obtain ⟨rfl, rfl, rfl⟩ := H
                      go_enter Try.func78, Try.ntmps78
                      go_wp2
                      go_ret3
                      exact ⟨by first | rfl | (simp; done) | (simp [*]; done), by repeat (first | exact Drawn0.refl _ | apply Drawn0.step)⟩
                    · rw [if_neg c12] at H
                      have c12b0 : ((Go.bits .or .u64 (IntKind.u64.wrap (a0)) (IntKind.u64.wrap ((IntKind.u64.wrap (a1)) * 4294967296))) == 51539607555) = false := beq_eq_false_iff_ne.mpr c12
                      have c12b1 : ((Go.bits .or .u64 (IntKind.u64.wrap (a0)) (IntKind.u64.wrap ((IntKind.u64.wrap (a1)) * 4294967296))) != 51539607555) = true := bne_iff_ne.mpr c12
                      by_cases c13 : (Go.bits .or .u64 (IntKind.u64.wrap (a0)) (IntKind.u64.wrap ((IntKind.u64.wrap (a1)) * 4294967296))) = 55834574851
                      · rw [if_pos c13] at H
                        have c13b0 : ((Go.bits .or .u64 (IntKind.u64.wrap (a0)) (IntKind.u64.wrap ((IntKind.u64.wrap (a1)) * 4294967296))) == 55834574851) = true := beq_iff_eq.mpr c13
                        have c13b1 : ((Go.bits .or .u64 (IntKind.u64.wrap (a0)) (IntKind.u64.wrap ((IntKind.u64.wrap (a1)) * 4294967296))) != 55834574851) = false := bne_eq_false_iff_eq.mpr c13
                        clear c13
                        simp only [Option.some.injEq, Prod.mk.injEq] at H
                        obtain ⟨rfl, rfl, rfl⟩ := H
                        go_enter Try.func78, Try.ntmps78
                        go_wp2
                        go_ret3
                        exact ⟨by first | rfl | (simp; done) | (simp [*]; done), by repeat (first | exact Drawn0.refl _ | apply Drawn0.step)⟩
                      · rw [if_neg c13] at H
                        have c13b0 : ((Go.bits .or .u64 (IntKind.u64.wrap (a0)) (IntKind.u64.wrap ((IntKind.u64.wrap (a1)) * 4294967296))) == 55834574851) = false := beq_eq_false_iff_ne.mpr c13
                        have c13b1 : ((Go.bits .or .u64 (IntKind.u64.wrap (a0)) (IntKind.u64.wrap ((IntKind.u64.wrap (a1)) * 4294967296))) != 55834574851) = true := bne_iff_ne.mpr c13
                        by_cases c14 : (Go.bits .or .u64 (IntKind.u64.wrap (a0)) (IntKind.u64.wrap ((IntKind.u64.wrap (a1)) * 4294967296))) = 51539607552
                        · rw [if_pos c14] at H
                          have c14b0 : ((Go.bits .or .u64 (IntKind.u64.wrap (a0)) (IntKind.u64.wrap ((IntKind.u64.wrap (a1)) * 4294967296))) == 51539607552) = true := beq_iff_eq.mpr c14
                          have c14b1 : ((Go.bits .or .u64 (IntKind.u64.wrap (a0)) (IntKind.u64.wrap ((IntKind.u64.wrap (a1)) * 4294967296))) != 51539607552) = false := bne_eq_false_iff_eq.mpr c14
                          clear c14
                          simp only [Option.some.injEq, Prod.mk.injEq] at H
                          obtain ⟨rfl, rfl, rfl⟩ := H
                          go_enter Try.func78, Try.ntmps78
                          go_wp2
                          go_ret3
                          exact ⟨by first | rfl | (simp; done) | (simp [*]; done), by repeat (first | exact Drawn0.refl _ | apply Drawn0.step)⟩
                        · rw [if_neg c14] at H
                          have c14b0 : ((Go.bits .or .u64 (IntKind.u64.wrap (a0)) (IntKind.u64.wrap ((IntKind.u64.wrap (a1)) * 4294967296))) == 51539607552) = false := beq_eq_false_iff_ne.mpr c14
                          have c14b1 : ((Go.bits .or .u64 (IntKind.u64.wrap (a0)) (IntKind.u64.wrap ((IntKind.u64.wrap (a1)) * 4294967296))) != 51539607552) = true := bne_iff_ne.mpr c14
                          by_cases c15 : (Go.bits .or .u64 (IntKind.u64.wrap (a0)) (IntKind.u64.wrap ((IntKind.u64.wrap (a1)) * 4294967296))) = 42949672960
                          · rw [if_pos c15] at H
                            have c15b0 : ((Go.bits .or .u64 (IntKind.u64.wrap (a0)) (IntKind.u64.wrap ((IntKind.u64.wrap (a1)) * 4294967296))) == 42949672960) = true := beq_iff_eq.mpr c15
                            have c15b1 : ((Go.bits .or .u64 (IntKind.u64.wrap (a0)) (IntKind.u64.wrap ((IntKind.u64.wrap (a1)) * 4294967296))) != 42949672960) = false := bne_eq_false_iff_eq.mpr c15
                            clear c15
                            simp only [Option.some.injEq, Prod.mk.injEq] at H
                            obtain ⟨rfl, rfl, rfl⟩ := H
                            go_enter Try.func78, Try.ntmps78
                            go_wp2
                            go_ret3
                            exact ⟨by first | rfl | (simp; done) | (simp [*]; done), by repeat (first | exact Drawn0.refl _ | apply Drawn0.step)⟩
                          · rw [if_neg c15] at H
                            have c15b0 : ((Go.bits .or .u64 (IntKind.u64.wrap (a0)) (IntKind.u64.wrap ((IntKind.u64.wrap (a1)) * 4294967296))) == 42949672960) = false := beq_eq_false_iff_ne.mpr c15
                            have c15b1 : ((Go.bits .or .u64 (IntKind.u64.wrap (a0)) (IntKind.u64.wrap ((IntKind.u64.wrap (a1)) * 4294967296))) != 42949672960) = true := bne_iff_ne.mpr c15
                            by_cases c16 : (Go.bits .or .u64 (IntKind.u64.wrap (a0)) (IntKind.u64.wrap ((IntKind.u64.wrap (a1)) * 4294967296))) = 42949672964
                            · rw [if_pos c16] at H
                              have c16b0 : ((Go.bits .or .u64 (IntKind.u64.wrap (a0)) (IntKind.u64.wrap ((IntKind.u64.wrap (a1)) * 4294967296))) == 42949672964) = true := beq_iff_eq.mpr c16
                              have c16b1 : ((Go.bits .or .u64 (IntKind.u64.wrap (a0)) (IntKind.u64.wrap ((IntKind.u64.wrap (a1)) * 4294967296))) != 42949672964) = false := bne_eq_false_iff_eq.mpr c16
                              clear c16
                              simp only [Option.some.injEq, Prod.mk.injEq] at H
                              obtain ⟨rfl, rfl, rfl⟩ := H
                              go_enter Try.func78, Try.ntmps78
                              go_wp2
                              go_ret3
                              exact ⟨by first | rfl | (simp; done) | (simp [*]; done), by repeat (first | exact Drawn0.refl _ | apply Drawn0.step)⟩
                            · rw [if_neg c16] at H
                              have c16b0 : ((Go.bits .or .u64 (IntKind.u64.wrap (a0)) (IntKind.u64.wrap ((IntKind.u64.wrap (a1)) * 4294967296))) == 42949672964) = false := beq_eq_false_iff_ne.mpr c16
                              have c16b1 : ((Go.bits .or .u64 (IntKind.u64.wrap (a0)) (IntKind.u64.wrap ((IntKind.u64.wrap (a1)) * 4294967296))) != 42949672964) = true := bne_iff_ne.mpr c16
                              by_cases c17 : (Go.bits .or .u64 (IntKind.u64.wrap (a0)) (IntKind.u64.wrap ((IntKind.u64.wrap (a1)) * 4294967296))) = 47244640260
                              · rw [if_pos c17] at H
                                have c17b0 : ((Go.bits .or .u64 (IntKind.u64.wrap (a0)) (IntKind.u64.wrap ((IntKind.u64.wrap (a1)) * 4294967296))) == 47244640260) = true := beq_iff_eq.mpr c17
                                have c17b1 : ((Go.bits .or .u64 (IntKind.u64.wrap (a0)) (IntKind.u64.wrap ((IntKind.u64.wrap (a1)) * 4294967296))) != 47244640260) = false := bne_eq_false_iff_eq.mpr c17
                                clear c17
                                simp only [Option.some.injEq, Prod.mk.injEq] at H
                                obtain ⟨rfl, rfl, rfl⟩ := H
                                go_enter Try.func78, Try.ntmps78
                                go_wp2
                                go_ret3
                                exact ⟨by first | rfl | (simp; done) | (simp [*]; done), by repeat (first | exact Drawn0.refl _ | apply Drawn0.step)⟩
                              · rw [if_neg c17] at H
                                have c17b0 : ((Go.bits .or .u64 (IntKind.u64.wrap (a0)) (IntKind.u64.wrap ((IntKind.u64.wrap (a1)) * 4294967296))) == 47244640260) = false := beq_eq_false_iff_ne.mpr c17
                                have c17b1 : ((Go.bits .or .u64 (IntKind.u64.wrap (a0)) (IntKind.u64.wrap ((IntKind.u64.wrap (a1)) * 4294967296))) != 47244640260) = true := bne_iff_ne.mpr c17
                                by_cases c18 : (Go.bits .or .u64 (IntKind.u64.wrap (a0)) (IntKind.u64.wrap ((IntKind.u64.wrap (a1)) * 4294967296))) = 55834574848
                                · rw [if_pos c18] at H
                                  have c18b0 : ((Go.bits .or .u64 (IntKind.u64.wrap (a0)) (IntKind.u64.wrap ((IntKind.u64.wrap (a1)) * 4294967296))) == 55834574848) = true := beq_iff_eq.mpr c18
                                  have c18b1 : ((Go.bits .or .u64 (IntKind.u64.wrap (a0)) (IntKind.u64.wrap ((IntKind.u64.wrap (a1)) * 4294967296))) != 55834574848) = false := bne_eq_false_iff_eq.mpr c18
                                  clear c18
                                  simp only [Option.some.injEq, Prod.mk.injEq] at H
                                  obtain ⟨rfl, rfl, rfl⟩ := H
                                  go_enter Try.func78, Try.ntmps78
                                  go_wp2
                                  go_ret3
                                  exact ⟨by first | rfl | (simp; done) | (simp [*]; done), by repeat (first | exact Drawn0.refl _ | apply Drawn0.step)⟩
                                · rw [if_neg c18] at H
                                  have c18b0 : ((Go.bits .or .u64 (IntKind.u64.wrap (a0)) (IntKind.u64.wrap ((IntKind.u64.wrap (a1)) * 4294967296))) == 55834574848) = false := beq_eq_false_iff_ne.mpr c18
                                  have c18b1 : ((Go.bits .or .u64 (IntKind.u64.wrap (a0)) (IntKind.u64.wrap ((IntKind.u64.wrap (a1)) * 4294967296))) != 55834574848) = true := bne_iff_ne.mpr c18
                                  by_cases c19 : (Go.bits .or .u64 (IntKind.u64.wrap (a0)) (IntKind.u64.wrap ((IntKind.u64.wrap (a1)) * 4294967296))) = 47244640256
                                  · rw [if_pos c19] at H
                                    have c19b0 : ((Go.bits .or .u64 (IntKind.u64.wrap (a0)) (IntKind.u64.wrap ((IntKind.u64.wrap (a1)) * 4294967296))) == 47244640256) = true := beq_iff_eq.mpr c19
                                    have c19b1 : ((Go.bits .or .u64 (IntKind.u64.wrap (a0)) (IntKind.u64.wrap ((IntKind.u64.wrap (a1)) * 4294967296))) != 47244640256) = false := bne_eq_false_iff_eq.mpr c19
                                    clear c19
                                    simp only [Option.some.injEq, Prod.mk.injEq] at H
                                    obtain ⟨rfl, rfl, rfl⟩ := H
                                    go_enter Try.func78, Try.ntmps78
                                    go_wp2
                                    go_ret3
                                    exact ⟨by first | rfl | (simp; done) | (simp [*]; done), by repeat (first | exact Drawn0.refl _ | apply Drawn0.step)⟩
                                  · rw [if_neg c19] at H
                                    have c19b0 : ((Go.bits .or .u64 (IntKind.u64.wrap (a0)) (IntKind.u64.wrap ((IntKind.u64.wrap (a1)) * 4294967296))) == 47244640256) = false := beq_eq_false_iff_ne.mpr c19
                                    have c19b1 : ((Go.bits .or .u64 (IntKind.u64.wrap (a0)) (IntKind.u64.wrap ((IntKind.u64.wrap (a1)) * 4294967296))) != 47244640256) = true := bne_iff_ne.mpr c19
                                    by_cases c20 : (Go.bits .or .u64 (IntKind.u64.wrap (a0)) (IntKind.u64.wrap ((IntKind.u64.wrap (a1)) * 4294967296))) = 47244640261
                                    · rw [if_pos c20] at H
                                      have c20b0 : ((Go.bits .or .u64 (IntKind.u64.wrap (a0)) (IntKind.u64.wrap ((IntKind.u64.wrap (a1)) * 4294967296))) == 47244640261) = true := beq_iff_eq.mpr c20
                                      have c20b1 : ((Go.bits .or .u64 (IntKind.u64.wrap (a0)) (IntKind.u64.wrap ((IntKind.u64.wrap (a1)) * 4294967296))) != 47244640261) = false := bne_eq_false_iff_eq.mpr c20
                                      clear c20
                                      simp only [Option.some.injEq, Prod.mk.injEq] at H
                                      obtain ⟨rfl, rfl, rfl⟩ := H
                                      go_enter Try.func78, Try.ntmps78
                                      go_wp2
                                      go_ret3
                                      exact ⟨by first | rfl | (simp; done) | (simp [*]; done), by repeat (first | exact Drawn0.refl _ | apply Drawn0.step)⟩
                                    · rw [if_neg c20] at H
                                      have c20b0 : ((Go.bits .or .u64 (IntKind.u64.wrap (a0)) (IntKind.u64.wrap ((IntKind.u64.wrap (a1)) * 4294967296))) == 47244640261) = false := beq_eq_false_iff_ne.mpr c20
                                      have c20b1 : ((Go.bits .or .u64 (IntKind.u64.wrap (a0)) (IntKind.u64.wrap ((IntKind.u64.wrap (a1)) * 4294967296))) != 47244640261) = true := bne_iff_ne.mpr c20
                                      by_cases c21 : (Go.bits .or .u64 (IntKind.u64.wrap (a0)) (IntKind.u64.wrap ((IntKind.u64.wrap (a1)) * 4294967296))) = 25769803776
                                      · rw [if_pos c21] at H
                                        have c21b0 : ((Go.bits .or .u64 (IntKind.u64.wrap (a0)) (IntKind.u64.wrap ((IntKind.u64.wrap (a1)) * 4294967296))) == 25769803776) = true := beq_iff_eq.mpr c21
                                        have c21b1 : ((Go.bits .or .u64 (IntKind.u64.wrap (a0)) (IntKind.u64.wrap ((IntKind.u64.wrap (a1)) * 4294967296))) != 25769803776) = false := bne_eq_false_iff_eq.mpr c21
                                        clear c21
                                        simp only [Option.some.injEq, Prod.mk.injEq] at H
                                        obtain ⟨rfl, rfl, rfl⟩ := H
                                        go_enter Try.func78, Try.ntmps78
                                        go_wp2
                                        go_ret3
                                        exact ⟨by first | rfl | (simp; done) | (simp [*]; done), by repeat (first | exact Drawn0.refl _ | apply Drawn0.step)⟩
                                      · rw [if_neg c21] at H
                                        have c21b0 : ((Go.bits .or .u64 (IntKind.u64.wrap (a0)) (IntKind.u64.wrap ((IntKind.u64.wrap (a1)) * 4294967296))) == 25769803776) = false := beq_eq_false_iff_ne.mpr c21
                                        have c21b1 : ((Go.bits .or .u64 (IntKind.u64.wrap (a0)) (IntKind.u64.wrap ((IntKind.u64.wrap (a1)) * 4294967296))) != 25769803776) = true := bne_iff_ne.mpr c21
                                        by_cases c22 : (Go.bits .or .u64 (IntKind.u64.wrap (a0)) (IntKind.u64.wrap ((IntKind.u64.wrap (a1)) * 4294967296))) = 60129542144
                                        · rw [if_pos c22] at H
                                          have c22b0 : ((Go.bits .or .u64 (IntKind.u64.wrap (a0)) (IntKind.u64.wrap ((IntKind.u64.wrap (a1)) * 4294967296))) == 60129542144) = true := beq_iff_eq.mpr c22
                                          have c22b1 : ((Go.bits .or .u64 (IntKind.u64.wrap (a0)) (IntKind.u64.wrap ((IntKind.u64.wrap (a1)) * 4294967296))) != 60129542144) = false := bne_eq_false_iff_eq.mpr c22
                                          clear c22
                                          simp only [Option.some.injEq, Prod.mk.injEq] at H
                                          obtain ⟨rfl, rfl, rfl⟩ := H
                                          go_enter Try.func78, Try.ntmps78
                                          go_wp2
                                          go_ret3
                                          exact ⟨by first | rfl | (simp; done) | (simp [*]; done), by repeat (first | exact Drawn0.refl _ | apply Drawn0.step)⟩
                                        · rw [if_neg c22] at H
                                          have c22b0 : ((Go.bits .or .u64 (IntKind.u64.wrap (a0)) (IntKind.u64.wrap ((IntKind.u64.wrap (a1)) * 4294967296))) == 60129542144) = false := beq_eq_false_iff_ne.mpr c22
                                          have c22b1 : ((Go.bits .or .u64 (IntKind.u64.wrap (a0)) (IntKind.u64.wrap ((IntKind.u64.wrap (a1)) * 4294967296))) != 60129542144) = true := bne_iff_ne.mpr c22
                                          by_cases c23 : (Go.bits .or .u64 (IntKind.u64.wrap (a0)) (IntKind.u64.wrap ((IntKind.u64.wrap (a1)) * 4294967296))) = 34359738368
                                          · rw [if_pos c23] at H
                                            have c23b0 : ((Go.bits .or .u64 (IntKind.u64.wrap (a0)) (IntKind.u64.wrap ((IntKind.u64.wrap (a1)) * 4294967296))) == 34359738368) = true := beq_iff_eq.mpr c23
                                            have c23b1 : ((Go.bits .or .u64 (IntKind.u64.wrap (a0)) (IntKind.u64.wrap ((IntKind.u64.wrap (a1)) * 4294967296))) != 34359738368) = false := bne_eq_false_iff_eq.mpr c23
                                            clear c23
                                            simp only [Option.some.injEq, Prod.mk.injEq] at H
                                            obtain ⟨rfl, rfl, rfl⟩ := H
                                            go_enter Try.func78, Try.ntmps78
                                            go_wp2
                                            go_ret3
                                            exact ⟨by first | rfl | (simp; done) | (simp [*]; done), by repeat (first | exact Drawn0.refl _ | apply Drawn0.step)⟩
                                          · rw [if_neg c23] at H
                                            have c23b0 : ((Go.bits .or .u64 (IntKind.u64.wrap (a0)) (IntKind.u64.wrap ((IntKind.u64.wrap (a1)) * 4294967296))) == 34359738368) = false := beq_eq_false_iff_ne.mpr c23
                                            have c23b1 : ((Go.bits .or .u64 (IntKind.u64.wrap (a0)) (IntKind.u64.wrap ((IntKind.u64.wrap (a1)) * 4294967296))) != 34359738368) = true := bne_iff_ne.mpr c23
                                            by_cases c24 : (Go.bits .or .u64 (IntKind.u64.wrap (a0)) (IntKind.u64.wrap ((IntKind.u64.wrap (a1)) * 4294967296))) = 8589934592
                                            · rw [if_pos c24] at H
                                              have c24b0 : ((Go.bits .or .u64 (IntKind.u64.wrap (a0)) (IntKind.u64.wrap ((IntKind.u64.wrap (a1)) * 4294967296))) == 8589934592) = true := beq_iff_eq.mpr c24
                                              have c24b1 : ((Go.bits .or .u64 (IntKind.u64.wrap (a0)) (IntKind.u64.wrap ((IntKind.u64.wrap (a1)) * 4294967296))) != 8589934592) = false := bne_eq_false_iff_eq.mpr c24
                                              clear c24
                                              simp only [Option.some.injEq, Prod.mk.injEq] at H
                                              obtain ⟨rfl, rfl, rfl⟩ := H
                                              go_enter Try.func78, Try.ntmps78
                                              go_wp2
                                              go_ret3
                                              exact ⟨by first | rfl | (simp; done) | (simp [*]; done), by repeat (first | exact Drawn0.refl _ | apply Drawn0.step)⟩
                                            · rw [if_neg c24] at H
                                              have c24b0 : ((Go.bits .or .u64 (IntKind.u64.wrap (a0)) (IntKind.u64.wrap ((IntKind.u64.wrap (a1)) * 4294967296))) == 8589934592) = false := beq_eq_false_iff_ne.mpr c24
                                              have c24b1 : ((Go.bits .or .u64 (IntKind.u64.wrap (a0)) (IntKind.u64.wrap ((IntKind.u64.wrap (a1)) * 4294967296))) != 8589934592) = true := bne_iff_ne.mpr c24
                                              by_cases c25 : (Go.bits .or .u64 (IntKind.u64.wrap (a0)) (IntKind.u64.wrap ((IntKind.u64.wrap (a1)) * 4294967296))) = 4294967302
                                              · rw [if_pos c25] at H
                                                have c25b0 : ((Go.bits .or .u64 (IntKind.u64.wrap (a0)) (IntKind.u64.wrap ((IntKind.u64.wrap (a1)) * 4294967296))) == 4294967302) = true := beq_iff_eq.mpr c25
                                                have c25b1 : ((Go.bits .or .u64 (IntKind.u64.wrap (a0)) (IntKind.u64.wrap ((IntKind.u64.wrap (a1)) * 4294967296))) != 4294967302) = false := bne_eq_false_iff_eq.mpr c25
                                                clear c25
                                                simp only [Option.some.injEq, Prod.mk.injEq] at H
                                                obtain ⟨rfl, rfl, rfl⟩ := H
                                                go_enter Try.func78, Try.ntmps78
                                                go_wp2
                                                go_ret3
                                                exact ⟨by first | rfl | (simp; done) | (simp [*]; done), by repeat (first | exact Drawn0.refl _ | apply Drawn0.step)⟩
                                              · rw [if_neg c25] at H
                                                have c25b0 : ((Go.bits .or .u64 (IntKind.u64.wrap (a0)) (IntKind.u64.wrap ((IntKind.u64.wrap (a1)) * 4294967296))) == 4294967302) = false := beq_eq_false_iff_ne.mpr c25
                                                have c25b1 : ((Go.bits .or .u64 (IntKind.u64.wrap (a0)) (IntKind.u64.wrap ((IntKind.u64.wrap (a1)) * 4294967296))) != 4294967302) = true := bne_iff_ne.mpr c25
                                                by_cases c26 : (Go.bits .or .u64 (IntKind.u64.wrap (a0)) (IntKind.u64.wrap ((IntKind.u64.wrap (a1)) * 4294967296))) = 64424509440
                                                · rw [if_pos c26] at H
                                                  have c26b0 : ((Go.bits .or .u64 (IntKind.u64.wrap (a0)) (IntKind.u64.wrap ((IntKind.u64.wrap (a1)) * 4294967296))) == 64424509440) = true := beq_iff_eq.mpr c26
                                                  have c26b1 : ((Go.bits .or .u64 (IntKind.u64.wrap (a0)) (IntKind.u64.wrap ((IntKind.u64.wrap (a1)) * 4294967296))) != 64424509440) = false := bne_eq_false_iff_eq.mpr c26
                                                  clear c26
                                                  simp only [Option.some.injEq, Prod.mk.injEq] at H
                                                  obtain ⟨rfl, rfl, rfl⟩ := H
                                                  go_enter Try.func78, Try.ntmps78
                                                  go_wp2
                                                  go_ret3
                                                  exact ⟨by first | rfl | (simp; done) | (simp [*]; done), by repeat (first | exact Drawn0.refl _ | apply Drawn0.step)⟩
                                                · rw [if_neg c26] at H
                                                  have c26b0 : ((Go.bits .or .u64 (IntKind.u64.wrap (a0)) (IntKind.u64.wrap ((IntKind.u64.wrap (a1)) * 4294967296))) == 64424509440) = false := beq_eq_false_iff_ne.mpr c26
                                                  have c26b1 : ((Go.bits .or .u64 (IntKind.u64.wrap (a0)) (IntKind.u64.wrap ((IntKind.u64.wrap (a1)) * 4294967296))) != 64424509440) = true := bne_iff_ne.mpr c26
                                                  by_cases c27 : (Go.bits .or .u64 (IntKind.u64.wrap (a0)) (IntKind.u64.wrap ((IntKind.u64.wrap (a1)) * 4294967296))) = 25769803783
                                                  · rw [if_pos c27] at H
                                                    have c27b0 : ((Go.bits .or .u64 (IntKind.u64.wrap (a0)) (IntKind.u64.wrap ((IntKind.u64.wrap (a1)) * 4294967296))) == 25769803783) = true := beq_iff_eq.mpr c27
                                                    have c27b1 : ((Go.bits .or .u64 (IntKind.u64.wrap (a0)) (IntKind.u64.wrap ((IntKind.u64.wrap (a1)) * 4294967296))) != 25769803783) = false := bne_eq_false_iff_eq.mpr c27
                                                    clear c27
                                                    simp only [Option.some.injEq, Prod.mk.injEq] at H
                                                    obtain ⟨rfl, rfl, rfl⟩ := H
                                                    go_enter Try.func78, Try.ntmps78
                                                    go_wp2
                                                    go_ret3
                                                    exact ⟨by first | rfl | (simp; done) | (simp [*]; done), by repeat (first | exact Drawn0.refl _ | apply Drawn0.step)⟩
                                                  · rw [if_neg c27] at H
                                                    have c27b0 : ((Go.bits .or .u64 (IntKind.u64.wrap (a0)) (IntKind.u64.wrap ((IntKind.u64.wrap (a1)) * 4294967296))) == 25769803783) = false := beq_eq_false_iff_ne.mpr c27
                                                    have c27b1 : ((Go.bits .or .u64 (IntKind.u64.wrap (a0)) (IntKind.u64.wrap ((IntKind.u64.wrap (a1)) * 4294967296))) != 25769803783) = true := bne_iff_ne.mpr c27
                                                    by_cases c28 : (Go.bits .or .u64 (IntKind.u64.wrap (a0)) (IntKind.u64.wrap ((IntKind.u64.wrap (a1)) * 4294967296))) = 60129542151
                                                    · rw [if_pos c28] at H
                                                      have c28b0 : ((Go.bits .or .u64 (IntKind.u64.wrap (a0)) (IntKind.u64.wrap ((IntKind.u64.wrap (a1)) * 4294967296))) == 60129542151) = true := beq_iff_eq.mpr c28
                                                      have c28b1 : ((Go.bits .or .u64 (IntKind.u64.wrap (a0)) (IntKind.u64.wrap ((IntKind.u64.wrap (a1)) * 4294967296))) != 60129542151) = false := bne_eq_false_iff_eq.mpr c28
                                                      clear c28
                                                      simp only [Option.some.injEq, Prod.mk.injEq] at H
                                                      obtain ⟨rfl, rfl, rfl⟩ := H
                                                      go_enter Try.func78, Try.ntmps78
                                                      go_wp2
                                                      go_ret3
                                                      exact ⟨by first | rfl | (simp; done) | (simp [*]; done), by repeat (first | exact Drawn0.refl _ | apply Drawn0.step)⟩
                                                    · rw [if_neg c28] at H
                                                      have c28b0 : ((Go.bits .or .u64 (IntKind.u64.wrap (a0)) (IntKind.u64.wrap ((IntKind.u64.wrap (a1)) * 4294967296))) == 60129542151) = false := beq_eq_false_iff_ne.mpr c28
                                                      have c28b1 : ((Go.bits .or .u64 (IntKind.u64.wrap (a0)) (IntKind.u64.wrap ((IntKind.u64.wrap (a1)) * 4294967296))) != 60129542151) = true := bne_iff_ne.mpr c28
                                                      by_cases c29 : (Go.bits .or .u64 (IntKind.u64.wrap (a0)) (IntKind.u64.wrap ((IntKind.u64.wrap (a1)) * 4294967296))) = 64424509448
                                                      · rw [if_pos c29] at H
                                                        have c29b0 : ((Go.bits .or .u64 (IntKind.u64.wrap (a0)) (IntKind.u64.wrap ((IntKind.u64.wrap (a1)) * 4294967296))) == 64424509448) = true := beq_iff_eq.mpr c29
                                                        have c29b1 : ((Go.bits .or .u64 (IntKind.u64.wrap (a0)) (IntKind.u64.wrap ((IntKind.u64.wrap (a1)) * 4294967296))) != 64424509448) = false := bne_eq_false_iff_eq.mpr c29
                                                        clear c29
                                                        simp only [Option.some.injEq, Prod.mk.injEq] at H
                                                        obtain ⟨rfl, rfl, rfl⟩ := H
                                                        go_enter Try.func78, Try.ntmps78
                                                        go_wp2
                                                        go_ret3
                                                        exact ⟨by first | rfl | (simp; done) | (simp [*]; done), by repeat (first | exact Drawn0.refl _ | apply Drawn0.step)⟩
                                                      · rw [if_neg c29] at H
                                                        have c29b0 : ((Go.bits .or .u64 (IntKind.u64.wrap (a0)) (IntKind.u64.wrap ((IntKind.u64.wrap (a1)) * 4294967296))) == 64424509448) = false := beq_eq_false_iff_ne.mpr c29
                                                        have c29b1 : ((Go.bits .or .u64 (IntKind.u64.wrap (a0)) (IntKind.u64.wrap ((IntKind.u64.wrap (a1)) * 4294967296))) != 64424509448) = true := bne_iff_ne.mpr c29
                                                        by_cases c30 : (Go.bits .or .u64 (IntKind.u64.wrap (a0)) (IntKind.u64.wrap ((IntKind.u64.wrap (a1)) * 4294967296))) = 30064771072
                                                        · rw [if_pos c30] at H
                                                          have c30b0 : ((Go.bits .or .u64 (IntKind.u64.wrap (a0)) (IntKind.u64.wrap ((IntKind.u64.wrap (a1)) * 4294967296))) == 30064771072) = true := beq_iff_eq.mpr c30
                                                          have c30b1 : ((Go.bits .or .u64 (IntKind.u64.wrap (a0)) (IntKind.u64.wrap ((IntKind.u64.wrap (a1)) * 4294967296))) != 30064771072) = false := bne_eq_false_iff_eq.mpr c30
                                                          clear c30
                                                          simp only [Option.some.injEq, Prod.mk.injEq] at H
                                                          obtain ⟨rfl, rfl, rfl⟩ := H
                                                          go_enter Try.func78, Try.ntmps78
                                                          go_wp2
                                                          go_ret3
                                                          exact ⟨by first | rfl | (simp; done) | (simp [*]; done), by repeat (first | exact Drawn0.refl _ | apply Drawn0.step)⟩
                                                        · rw [if_neg c30] at H
                                                          have c30b0 : ((Go.bits .or .u64 (IntKind.u64.wrap (a0)) (IntKind.u64.wrap ((IntKind.u64.wrap (a1)) * 4294967296))) == 30064771072) = false := beq_eq_false_iff_ne.mpr c30
                                                          have c30b1 : ((Go.bits .or .u64 (IntKind.u64.wrap (a0)) (IntKind.u64.wrap ((IntKind.u64.wrap (a1)) * 4294967296))) != 30064771072) = true := bne_iff_ne.mpr c30
                                                          by_cases c31 : (Go.bits .or .u64 (IntKind.u64.wrap (a0)) (IntKind.u64.wrap ((IntKind.u64.wrap (a1)) * 4294967296))) = 30064771081
                                                          · rw [if_pos c31] at H
                                                            have c31b0 : ((Go.bits .or .u64 (IntKind.u64.wrap (a0)) (IntKind.u64.wrap ((IntKind.u64.wrap (a1)) * 4294967296))) == 30064771081) = true := beq_iff_eq.mpr c31
                                                            have c31b1 : ((Go.bits .or .u64 (IntKind.u64.wrap (a0)) (IntKind.u64.wrap ((IntKind.u64.wrap (a1)) * 4294967296))) != 30064771081) = false := bne_eq_false_iff_eq.mpr c31
                                                            clear c31
                                                            simp only [Option.some.injEq, Prod.mk.injEq] at H
                                                            obtain ⟨rfl, rfl, rfl⟩ := H
                                                            go_enter Try.func78, Try.ntmps78
                                                            go_wp2
                                                            go_ret3
                                                            exact ⟨by first | rfl | (simp; done) | (simp [*]; done), by repeat (first | exact Drawn0.refl _ | apply Drawn0.step)⟩
                                                          · rw [if_neg c31] at H
                                                            have c31b0 : ((Go.bits .or .u64 (IntKind.u64.wrap (a0)) (IntKind.u64.wrap ((IntKind.u64.wrap (a1)) * 4294967296))) == 30064771081) = false := beq_eq_false_iff_ne.mpr c31
                                                            have c31b1 : ((Go.bits .or .u64 (IntKind.u64.wrap (a0)) (IntKind.u64.wrap ((IntKind.u64.wrap (a1)) * 4294967296))) != 30064771081) = true := bne_iff_ne.mpr c31
                                                            by_cases c32 : (Go.bits .or .u64 (IntKind.u64.wrap (a0)) (IntKind.u64.wrap ((IntKind.u64.wrap (a1)) * 4294967296))) = 30064771082
                                                            · rw [if_pos c32] at H
                                                              have c32b0 : ((Go.bits .or .u64 (IntKind.u64.wrap (a0)) (IntKind.u64.wrap ((IntKind.u64.wrap (a1)) * 4294967296))) == 30064771082) = true := beq_iff_eq.mpr c32
                                                              have c32b1 : ((Go.bits .or .u64 (IntKind.u64.wrap (a0)) (IntKind.u64.wrap ((IntKind.u64.wrap (a1)) * 4294967296))) != 30064771082) = false := bne_eq_false_iff_eq.mpr c32
                                                              clear c32
                                                              simp only [Option.some.injEq, Prod.mk.injEq] at H
                                                              obtain ⟨rfl, rfl, rfl⟩ := H
                                                              go_enter Try.func78, Try.ntmps78
                                                              go_wp2
                                                              go_ret3
                                                              exact ⟨by first | rfl | (simp; done) | (simp [*]; done), by repeat (first | exact Drawn0.refl _ | apply Drawn0.step)⟩
                                                            · rw [if_neg c32] at H
                                                              have c32b0 : ((Go.bits .or .u64 (IntKind.u64.wrap (a0)) (IntKind.u64.wrap ((IntKind.u64.wrap (a1)) * 4294967296))) == 30064771082) = false := beq_eq_false_iff_ne.mpr c32
                                                              have c32b1 : ((Go.bits .or .u64 (IntKind.u64.wrap (a0)) (IntKind.u64.wrap ((IntKind.u64.wrap (a1)) * 4294967296))) != 30064771082) = true := bne_iff_ne.mpr c32
                                                              simp only [Option.some.injEq, Prod.mk.injEq] at H
                                                              obtain ⟨rfl, rfl, rfl⟩ := H
                                                              go_enter Try.func78, Try.ntmps78
                                                              go_wp2
                                                              go_ret3
                                                              exact ⟨by first | rfl | (simp; done) | (simp [*]; done), by repeat (first | exact Drawn0.refl _ | apply Drawn0.step)⟩

/-! ### uniseg_transitionGraphemeProperty: function 52 -/
def uniseg_transitionGraphemeProperty.j0 : Nat → Int → Int → Int → Int → Int → Int → Int → Bool → Option (Int × Int × Bool)
  | 0, _, _, _, _, _, _, _, _ => none
  | k + 1, x5, x10, x11, x12, x13, x14, x15, x47 => if x47 = true then (if x12 < x15 then (some (x13, x5, (x11 == 1))) else (some (x13, x5, (x14 == 1)))) else (if x10 ≥ 0 then (some (x10, x5, (x11 == 1))) else (if x13 ≥ 0 then (some (x13, x5, (x14 == 1))) else (some (0, x5, true))))
def uniseg_transitionGraphemeProperty.f (k : Nat) (a0 : Int) (a1 : Int) : Option (Int × Int × Bool) := (uniseg_grTransitions.f a0 a1).bind fun bt108 => (if bt108.1 ≥ 0 then (some (bt108.1, a1, (bt108.2.1 == 1))) else ((uniseg_grTransitions.f a0 1).bind fun bt111 => ((uniseg_grTransitions.f 0 a1).bind fun bt114 => (if bt111.1 ≥ 0 then (uniseg_transitionGraphemeProperty.j0 k a1 bt111.1 bt111.2.1 bt111.2.2 bt114.1 bt114.2.1 bt114.2.2 (decide (bt114.1 ≥ 0))) else (uniseg_transitionGraphemeProperty.j0 k a1 bt111.1 bt111.2.1 bt111.2.2 bt114.1 bt114.2.1 bt114.2.2 false)))))
theorem uniseg_transitionGraphemeProperty.mono_l : ∀ k, (∀ y0 y1 y2 y3 y4 y5 y6 y7, LeO (uniseg_transitionGraphemeProperty.j0 k y0 y1 y2 y3 y4 y5 y6 y7) (uniseg_transitionGraphemeProperty.j0 (k + 1) y0 y1 y2 y3 y4 y5 y6 y7))
  | 0 => fun _ _ _ _ _ _ _ _ r h => by simp [uniseg_transitionGraphemeProperty.j0] at h
  | k + 1 => by
    have ih0 := uniseg_transitionGraphemeProperty.mono_l k
    · intro y0 y1 y2 y3 y4 y5 y6 y7
      unfold uniseg_transitionGraphemeProperty.j0
      repeat' first
      | (with_reducible exact ih0 _ _ _ _ _ _ _ _)
      | (with_reducible exact LeO.refl _)
      | (with_reducible exact LeO.none _)
      | (with_reducible refine LeO.ite ?_ ?_)
      | (with_reducible refine LeO.bind ?_ (fun _ => ?_))
      | exact ih0 _ _ _ _ _ _ _ _
      | exact LeO.none _
      | refine LeO.ite ?_ ?_
      | refine LeO.bind ?_ (fun _ => ?_)
theorem uniseg_transitionGraphemeProperty.mono : ∀ a0 a1 k, LeO (uniseg_transitionGraphemeProperty.f k a0 a1) (uniseg_transitionGraphemeProperty.f (k + 1) a0 a1) := by
  intro a0 a1 k
  have ih0 := uniseg_transitionGraphemeProperty.mono_l k
  unfold uniseg_transitionGraphemeProperty.f
  repeat' first
      | (with_reducible exact ih0 _ _ _ _ _ _ _ _)
      | (with_reducible exact LeO.refl _)
      | (with_reducible exact LeO.none _)
      | (with_reducible refine LeO.ite ?_ ?_)
      | (with_reducible refine LeO.bind ?_ (fun _ => ?_))
      | exact ih0 _ _ _ _ _ _ _ _
      | exact LeO.none _
      | refine LeO.ite ?_ ?_
      | refine LeO.bind ?_ (fun _ => ?_)
set_option maxHeartbeats 8000000 in
set_option maxRecDepth 100000 in
theorem uniseg_transitionGraphemeProperty.calls (k : Nat) (a0 : Int) (a1 : Int) (r1 : Int) (r2 : Int) (r3 : Bool) (w : World) (h : uniseg_transitionGraphemeProperty.f k a0 a1 = some (r1, r2, r3)) :
    Calls Try.prog 52 #[.int .i64 a0, .int .i64 a1] w fun e w' => e = .returned (.tuple #[.int .i64 r1, .int .i64 r2, .bool r3]) ∧ Drawn0 w w' := by
  have H : ((uniseg_grTransitions.f a0 a1).bind fun bt108 => (if bt108.1 ≥ 0 then (some (bt108.1, a1, (bt108.2.1 == 1))) else ((uniseg_grTransitions.f a0 1).bind fun bt111 => ((uniseg_grTransitions.f 0 a1).bind fun bt114 => (if bt111.1 ≥ 0 then (uniseg_transitionGraphemeProperty.j0 k a1 bt111.1 bt111.2.1 bt111.2.2 bt114.1 bt114.2.1 bt114.2.2 (decide (bt114.1 ≥ 0))) else (uniseg_transitionGraphemeProperty.j0 k a1 bt111.1 bt111.2.1 bt111.2.2 bt114.1 bt114.2.1 bt114.2.2 false)))))) = some (r1, r2, r3) := h
  clear h
  replace H := Option.bind_eq_some_iff.mp H
  obtain ⟨⟨t108, t109, t110⟩, A30, H⟩ := H
  replace H : (if t108 ≥ 0 then (some (t108, a1, (t109 == 1))) else ((uniseg_grTransitions.f a0 1).bind fun bt111 => ((uniseg_grTransitions.f 0 a1).bind fun bt114 => (if bt111.1 ≥ 0 then (uniseg_transitionGraphemeProperty.j0 k a1 bt111.1 bt111.2.1 bt111.2.2 bt114.1 bt114.2.1 bt114.2.2 (decide (bt114.1 ≥ 0))) else (uniseg_transitionGraphemeProperty.j0 k a1 bt111.1 bt111.2.1 bt111.2.2 bt114.1 bt114.2.1 bt114.2.2 false))))) = some (r1, r2, r3) := H
  have A3 := Aside0.mk A30
  clear A30
  by_cases c4 : t108 ≥ 0
  · rw [if_pos c4] at H
    have c4b0 : decide (0 ≤ t108) = true := decide_eq_true c4
    clear c4
    simp only [Option.some.injEq, Prod.mk.injEq] at H
    obtain ⟨rfl, rfl, rfl⟩ := H
    go_enter Try.func52, Try.ntmps52
    go_wp2_with (first | ((with_reducible refine gate_callee (f := 78) rfl ?_); refine goesL_ (some 20) rfl rfl Try.func78 (by kernel_rfl) rfl #[.int .i64 a0, .int .i64 a1] rfl (by (try simp only [List.map_toArray, List.map_cons, List.map_nil]); first | done | rfl | (simp only [List.length_drop, List.length_take]; rfl)) ?_; (with_reducible refine (uniseg_grTransitions.calls a0 a1 t108 t109 t110 _ A3.out).mono ?_); rintro e w' ⟨rfl, ⟨nd, rfl⟩⟩; refine ⟨_, rfl, ?_⟩))
    go_ret3
    exact ⟨by first | rfl | (simp; done) | (simp [*]; done), by repeat (first | exact Drawn0.refl _ | apply Drawn0.step)⟩
  · rw [if_neg c4] at H
    have c4b0 : decide (0 ≤ t108) = false := decide_eq_false c4
    clear c4
    replace H := Option.bind_eq_some_iff.mp H
    obtain ⟨⟨t111, t112, t113⟩, A50, H⟩ := H
    replace H : ((uniseg_grTransitions.f 0 a1).bind fun bt114 => (if t111 ≥ 0 then (uniseg_transitionGraphemeProperty.j0 k a1 t111 t112 t113 bt114.1 bt114.2.1 bt114.2.2 (decide (bt114.1 ≥ 0))) else (uniseg_transitionGraphemeProperty.j0 k a1 t111 t112 t113 bt114.1 bt114.2.1 bt114.2.2 false))) = some (r1, r2, r3) := H
    have A5 := Aside0.mk A50
    clear A50
    replace H := Option.bind_eq_some_iff.mp H
    obtain ⟨⟨t114, t115, t116⟩, A60, H⟩ := H
    replace H : (if t111 ≥ 0 then (uniseg_transitionGraphemeProperty.j0 k a1 t111 t112 t113 t114 t115 t116 (decide (t114 ≥ 0))) else (uniseg_transitionGraphemeProperty.j0 k a1 t111 t112 t113 t114 t115 t116 false)) = some (r1, r2, r3) := H
    have A6 := Aside0.mk A60
    clear A60
    have HC7 := Aside0.mk H
    clear H
    go_enter Try.func52, Try.ntmps52
    go_upto_region 7 with (first | ((with_reducible refine gate_callee (f := 78) rfl ?_); refine goesL_ (some 20) rfl rfl Try.func78 (by kernel_rfl) rfl #[.int .i64 a0, .int .i64 a1] rfl (by (try simp only [List.map_toArray, List.map_cons, List.map_nil]); first | done | rfl | (simp only [List.length_drop, List.length_take]; rfl)) ?_; (with_reducible refine (uniseg_grTransitions.calls a0 a1 t108 t109 t110 _ A3.out).mono ?_); rintro e w' ⟨rfl, ⟨nd, rfl⟩⟩; refine ⟨_, rfl, ?_⟩) | ((with_reducible refine gate_callee (f := 78) rfl ?_); refine goesL_ (some 32) rfl rfl Try.func78 (by kernel_rfl) rfl #[.int .i64 a0, .int .i64 1] rfl (by (try simp only [List.map_toArray, List.map_cons, List.map_nil]); first | done | rfl | (simp only [List.length_drop, List.length_take]; rfl)) ?_; (with_reducible refine (uniseg_grTransitions.calls a0 1 t111 t112 t113 _ A5.out).mono ?_); rintro e w' ⟨rfl, ⟨nd, rfl⟩⟩; refine ⟨_, rfl, ?_⟩) | ((with_reducible refine gate_callee (f := 78) rfl ?_); refine goesL_ (some 38) rfl rfl Try.func78 (by kernel_rfl) rfl #[.int .i64 0, .int .i64 a1] rfl (by (try simp only [List.map_toArray, List.map_cons, List.map_nil]); first | done | rfl | (simp only [List.length_drop, List.length_take]; rfl)) ?_; (with_reducible refine (uniseg_grTransitions.calls 0 a1 t114 t115 t116 _ A6.out).mono ?_); rintro e w' ⟨rfl, ⟨nd, rfl⟩⟩; refine ⟨_, rfl, ?_⟩))
    (try simp only [Act.put, List.setIfInBounds_toArray, List.set_cons_zero, List.set_cons_succ])
    go_cut [47] (fun v47 wc => ∃ (kq : Nat) (x47_6 : Bool), v47 = .bool x47_6 ∧ Aside0 (uniseg_transitionGraphemeProperty.j0 kq a1 t111 t112 t113 t114 t115 t116 x47_6 = some (r1, r2, r3)) ∧ Aside0 (kq ≤ k) ∧ Drawn0 w wc)
    case first =>
      have H := HC7.out
      clear HC7
      by_cases c8 : t111 ≥ 0
      · rw [if_pos c8] at H
        have c8b0 : decide (0 ≤ t111) = true := decide_eq_true c8
        clear c8
        (first | rw [c8b0] | (simp only [i64_w, i32_w]; rw [c8b0]) | skip)
        have H' := Aside0.mk H
        clear H
        go_wp2
        go_meet
        case rel => exact ⟨_, (decide (t114 ≥ 0)), (by first | rfl | (simp; done) | (simp [*]; done)), H', ⟨by first | omega | exact Nat.le_refl _⟩, by repeat (first | exact Drawn0.refl _ | apply Drawn0.step)⟩
      · rw [if_neg c8] at H
        have c8b0 : decide (0 ≤ t111) = false := decide_eq_false c8
        clear c8
        (first | rw [c8b0] | (simp only [i64_w, i32_w]; rw [c8b0]) | skip)
        have H' := Aside0.mk H
        clear H
        go_wp2
        go_meet
        case rel => exact ⟨_, (false), (by first | rfl | (simp; done) | (simp [*]; done)), H', ⟨by first | omega | exact Nat.le_refl _⟩, by repeat (first | exact Drawn0.refl _ | apply Drawn0.step)⟩
    case rest =>
      clear HC7
      try clear p2
      try clear c4
      try clear c4b0
      try clear c5
      try clear c7
      try clear c8
      try clear c8b0
      obtain ⟨kq, x47_6, rfl, HA, HJ6, ⟨mc6, rfl⟩⟩ := hcut
      cases kq with
      | zero => exact absurd HA.out (by simp [uniseg_transitionGraphemeProperty.j0])
      | succ kj6 =>
        have H := HA.out
        clear HA
        simp only [uniseg_transitionGraphemeProperty.j0] at H
        by_cases c9 : x47_6 = true
        · subst c9
          have H1 : (if t113 < t116 then (some (t114, a1, (t112 == 1))) else (some (t114, a1, (t115 == 1)))) = some (r1, r2, r3) := by rw [if_pos rfl] at H; exact H
          clear H
          have H := H1
          clear H1
          by_cases c10 : t113 < t116
          · rw [if_pos c10] at H
            have c10b0 : decide (t113 < t116) = true := decide_eq_true c10
            clear c10
            simp only [Option.some.injEq, Prod.mk.injEq] at H
            obtain ⟨rfl, rfl, rfl⟩ := H
            go_wp2
            go_ret3
            exact ⟨by first | rfl | (simp; done) | (simp [*]; done), by repeat (first | exact Drawn0.refl _ | apply Drawn0.step)⟩
          · rw [if_neg c10] at H
            have c10b0 : decide (t113 < t116) = false := decide_eq_false c10
            clear c10
            simp only [Option.some.injEq, Prod.mk.injEq] at H
            obtain ⟨rfl, rfl, rfl⟩ := H
            go_wp2
            go_ret3
            exact ⟨by first | rfl | (simp; done) | (simp [*]; done), by repeat (first | exact Drawn0.refl _ | apply Drawn0.step)⟩
        · replace c9 := Bool.eq_false_iff.mpr c9
          subst c9
          have H1 : (if t111 ≥ 0 then (some (t111, a1, (t112 == 1))) else (if t114 ≥ 0 then (some (t114, a1, (t115 == 1))) else (some (0, a1, true)))) = some (r1, r2, r3) := by rw [if_neg (show ¬ (false = true) by decide)] at H; exact H
          clear H
          have H := H1
          clear H1
          by_cases c11 : t111 ≥ 0
          · rw [if_pos c11] at H
            have c11b0 : decide (0 ≤ t111) = true := decide_eq_true c11
            clear c11
            simp only [Option.some.injEq, Prod.mk.injEq] at H
            obtain ⟨rfl, rfl, rfl⟩ := H
            go_wp2
            go_ret3
            exact ⟨by first | rfl | (simp; done) | (simp [*]; done), by repeat (first | exact Drawn0.refl _ | apply Drawn0.step)⟩
          · rw [if_neg c11] at H
            have c11b0 : decide (0 ≤ t111) = false := decide_eq_false c11
            clear c11
            by_cases c12 : t114 ≥ 0
            · rw [if_pos c12] at H
              have c12b0 : decide (0 ≤ t114) = true := decide_eq_true c12
              clear c12
              simp only [Option.some.injEq, Prod.mk.injEq] at H
              obtain ⟨rfl, rfl, rfl⟩ := H
              go_wp2
              go_ret3
              exact ⟨by first | rfl | (simp; done) | (simp [*]; done), by repeat (first | exact Drawn0.refl _ | apply Drawn0.step)⟩
            · rw [if_neg c12] at H
              have c12b0 : decide (0 ≤ t114) = false := decide_eq_false c12
              clear c12
              simp only [Option.some.injEq, Prod.mk.injEq] at H
              obtain ⟨rfl, rfl, rfl⟩ := H
              go_wp2
              go_ret3
              exact ⟨by first | rfl | (simp; done) | (simp [*]; done), by repeat (first | exact Drawn0.refl _ | apply Drawn0.step)⟩

/-! ### uniseg_ZzGraphemeNext: function 22 -/
def uniseg_ZzGraphemeNext.f (k : Nat) (a0 : Int) (a1 : Int) : Option (Int × Bool) := (uniseg_transitionGraphemeProperty.f k a0 a1).bind fun bt117 => (some (bt117.1, bt117.2.2))
theorem uniseg_ZzGraphemeNext.mono : ∀ a0 a1 k, LeO (uniseg_ZzGraphemeNext.f k a0 a1) (uniseg_ZzGraphemeNext.f (k + 1) a0 a1) := by
  intro a0 a1 k
  unfold uniseg_ZzGraphemeNext.f
  repeat' first
      | (with_reducible exact uniseg_transitionGraphemeProperty.mono _ _ _)
      | (with_reducible exact LeO.refl _)
      | (with_reducible exact LeO.none _)
      | (with_reducible refine LeO.ite ?_ ?_)
      | (with_reducible refine LeO.bind ?_ (fun _ => ?_))
      | exact uniseg_transitionGraphemeProperty.mono _ _ _
      | exact LeO.none _
      | refine LeO.ite ?_ ?_
      | refine LeO.bind ?_ (fun _ => ?_)
set_option maxHeartbeats 8000000 in
set_option maxRecDepth 100000 in
theorem uniseg_ZzGraphemeNext.calls (k : Nat) (a0 : Int) (a1 : Int) (r1 : Int) (r2 : Bool) (w : World) (h : uniseg_ZzGraphemeNext.f k a0 a1 = some (r1, r2)) :
    Calls Try.prog 22 #[.int .i64 a0, .int .i64 a1] w fun e w' => e = .returned (.tuple #[.int .i64 r1, .bool r2]) ∧ Drawn0 w w' := by
  have H : ((uniseg_transitionGraphemeProperty.f k a0 a1).bind fun bt117 => (some (bt117.1, bt117.2.2))) = some (r1, r2) := h
  clear h
  replace H := Option.bind_eq_some_iff.mp H
  obtain ⟨⟨t117, t118, t119⟩, A30, H⟩ := H
  replace H : (some (t117, t119)) = some (r1, r2) := H
  have A3 := Aside0.mk A30
  clear A30
  simp only [Option.some.injEq, Prod.mk.injEq] at H
  obtain ⟨rfl, rfl⟩ := H
  go_enter Try.func22, Try.ntmps22
  go_wp2_with (first | ((with_reducible refine gate_callee (f := 52) rfl ?_); refine goesL_ (some 12) rfl rfl Try.func52 (by kernel_rfl) rfl #[.int .i64 a0, .int .i64 a1] rfl (by (try simp only [List.map_toArray, List.map_cons, List.map_nil]); first | done | rfl | (simp only [List.length_drop, List.length_take]; rfl)) ?_; (with_reducible refine (uniseg_transitionGraphemeProperty.calls k a0 a1 t117 t118 t119 _ A3.out).mono ?_); rintro e w' ⟨rfl, ⟨nd, rfl⟩⟩; refine ⟨_, rfl, ?_⟩))
  go_ret2
  exact ⟨by first | rfl | (simp; done) | (simp [*]; done), by repeat (first | exact Drawn0.refl _ | apply Drawn0.step)⟩

/-! ### impl_numberOf: function 23 -/
def impl_numberOf.f (l0 : List Int) (a1 : Int) : Option (Int) := if a1 < 0 then (if 0 < (l0.length : Int) then (some (rd l0 0)) else (none)) else (if a1 ≥ (l0.length : Int) then (if 0 < (l0.length : Int) then (some (rd l0 0)) else (none)) else (if 0 ≤ a1 then (if a1 < (l0.length : Int) then (some (rd l0 a1)) else (none)) else (none)))
set_option maxHeartbeats 8000000 in
set_option maxRecDepth 100000 in
theorem impl_numberOf.calls (A0 : Option Addr) (c0 : Nat) (l0 : List Int) (a1 : Int) (r : Int) (w : World) (hr0 : Kd.C (Kd.int .i64) w A0 l0.length l0) (hc0 : l0.length ≤ c0) (h : impl_numberOf.f l0 a1 = some r) :
    Calls Try.prog 23 #[.slice A0 l0.length c0, .int .i64 a1] w fun e w' => e = .returned (.int .i64 r) ∧ Drawn0 w w' := by
  have HR0 := Aside0.mk hr0
  have HC0 := Aside0.mk hc0
  clear hr0 hc0
  have H : (if a1 < 0 then (if 0 < (l0.length : Int) then (some (rd l0 0)) else (none)) else (if a1 ≥ (l0.length : Int) then (if 0 < (l0.length : Int) then (some (rd l0 0)) else (none)) else (if 0 ≤ a1 then (if a1 < (l0.length : Int) then (some (rd l0 a1)) else (none)) else (none)))) = some r := h
  clear h
  by_cases c3 : a1 < 0
  · rw [if_pos c3] at H
    have c3b0 : decide (a1 < 0) = true := decide_eq_true c3
    clear c3
    by_cases c4 : 0 < (l0.length : Int)
    · rw [if_pos c4] at H
      have c4b0 : decide (0 < (l0.length : Int)) = true := decide_eq_true c4
      have c4b1 : decide (0 < l0.length) = true := decide_eq_true (by omega)
      clear c4
      obtain rfl := Option.some.inj H
      have p120 : 0 ≤ (0 : Int) := (by omega)
      have q120 : 0 < (l0.length : Int) := of_decide_eq_true (by first | (with_reducible assumption) | assumption)
      obtain ⟨ad120, e120, hx120_0⟩ := Kd.at_int HR0.out 0 p120 q120
      cases e120
      have qi120 : (0 < l0.length) = True := eq_true (by omega)
      (try rw [show ((0 : Int)).toNat = 0 from rfl] at hx120_0)
      (try rw [Addr.add_zero'] at hx120_0)
      replace p120 := eq_true p120
      replace q120 := eq_true q120
      go_enter Try.func23, Try.ntmps23
      go_wp2
      go_ret
      exact ⟨by first | rfl | (simp; done) | (simp [*]; done), by repeat (first | exact Drawn0.refl _ | apply Drawn0.step)⟩
    · rw [if_neg c4] at H
      exact absurd H (by simp)
  · rw [if_neg c3] at H
    have c3b0 : decide (a1 < 0) = false := decide_eq_false c3
    clear c3
    by_cases c5 : a1 ≥ (l0.length : Int)
    · rw [if_pos c5] at H
      have c5b0 : decide ((l0.length : Int) ≤ a1) = true := decide_eq_true c5
      clear c5
      by_cases c6 : 0 < (l0.length : Int)
      · rw [if_pos c6] at H
        have c6b0 : decide (0 < (l0.length : Int)) = true := decide_eq_true c6
        have c6b1 : decide (0 < l0.length) = true := decide_eq_true (by omega)
        clear c6
        obtain rfl := Option.some.inj H
        have p121 : 0 ≤ (0 : Int) := (by omega)
        have q121 : 0 < (l0.length : Int) := of_decide_eq_true (by first | (with_reducible assumption) | assumption)
        obtain ⟨ad121, e121, hx121_0⟩ := Kd.at_int HR0.out 0 p121 q121
        cases e121
        have qi121 : (0 < l0.length) = True := eq_true (by omega)
        (try rw [show ((0 : Int)).toNat = 0 from rfl] at hx121_0)
        (try rw [Addr.add_zero'] at hx121_0)
        replace p121 := eq_true p121
        replace q121 := eq_true q121
        go_enter Try.func23, Try.ntmps23
        go_wp2
        go_ret
        exact ⟨by first | rfl | (simp; done) | (simp [*]; done), by repeat (first | exact Drawn0.refl _ | apply Drawn0.step)⟩
      · rw [if_neg c6] at H
        exact absurd H (by simp)
    · rw [if_neg c5] at H
      have c5b0 : decide ((l0.length : Int) ≤ a1) = false := decide_eq_false c5
      clear c5
      by_cases c7 : 0 ≤ a1
      · rw [if_pos c7] at H
        have c7b0 : decide (0 ≤ a1) = true := decide_eq_true c7
        clear c7
        by_cases c8 : a1 < (l0.length : Int)
        · rw [if_pos c8] at H
          have c8b0 : decide (a1 < (l0.length : Int)) = true := decide_eq_true c8
          clear c8
          obtain rfl := Option.some.inj H
          have p122 : 0 ≤ (a1 : Int) := of_decide_eq_true (by first | (with_reducible assumption) | assumption)
          have q122 : a1 < (l0.length : Int) := of_decide_eq_true (by first | (with_reducible assumption) | assumption)
          obtain ⟨ad122, e122, hx122_0⟩ := Kd.at_int HR0.out a1 p122 q122
          cases e122
          replace p122 := eq_true p122
          replace q122 := eq_true q122
          go_enter Try.func23, Try.ntmps23
          go_wp2
          go_ret
          exact ⟨by first | rfl | (simp; done) | (simp [*]; done), by repeat (first | exact Drawn0.refl _ | apply Drawn0.step)⟩
        · rw [if_neg c8] at H
          exact absurd H (by simp)
      · rw [if_neg c7] at H
        exact absurd H (by simp)

end Go.Proofs.Ytnanfoahimccpaa.PFnGraphemeRow
