/- Functions of the translation as Lean functions, and their walks: lines written by a program, a turned copy of the kit's print. -/
import Derived.Test.YtnanfoahimccpaaWdx0
namespace Go.Proofs.Ytnanfoahimccpaa.Wd
open Go.RowKit Go.Proofs.YtnanfoahimccpaaW.PrintWords Go.Proofs.YtnanfoahimccpaaW.PrintLast Go.Proofs.YtnanfoahimccpaaW.PrintMore
attribute [local go_sem] max2_int min2_int max_two min_two max_three min_three max_four min_four   -- for this text's walks alone
set_option linter.unusedVariables false
set_option linter.unusedSimpArgs false

/-! ### laws_row: function 7 -/
def laws_row.l0 : Nat → Int → List Int → List Int → Int → Int → Option (List Int)
  | 0, _, _, _, _, _ => none
  | k + 1, x1, x5, x8, x9, x10 => if x10 < x9 then (if 0 ≤ x10 then (if x10 < (x8.length : Int) then (if x10 < 60 then (if x1 = 0 then (none) else (if x5.length < 17592186044416 then (laws_row.l0 k x1 (x5 ++ [Int.tmod (wrap64 (rd x8 x10)) x1]) x8 x9 (wrap64 (x10 + 1))) else (none))) else (laws_row.l0 k x1 x5 x8 x9 (wrap64 (x10 + 1)))) else (none)) else (none)) else (some x5)
def laws_row.f (k : Nat) (l0 : List Int) (a1 : Int) : Option (List Int) := laws_row.l0 k a1 ([] : List Int) l0 (l0.length : Int) 0
theorem laws_row.mono_l : ∀ k, (∀ y0 y1 y2 y3 y4, LeO (laws_row.l0 k y0 y1 y2 y3 y4) (laws_row.l0 (k + 1) y0 y1 y2 y3 y4))
  | 0 => fun _ _ _ _ _ r h => by simp [laws_row.l0] at h
  | k + 1 => by
    have ih0 := laws_row.mono_l k
    · intro y0 y1 y2 y3 y4
      unfold laws_row.l0
      repeat' first
      | (with_reducible exact ih0 _ _ _ _ _)
      | (with_reducible exact LeO.refl _)
      | (with_reducible exact LeO.none _)
      | (with_reducible refine LeO.ite ?_ ?_)
      | (with_reducible refine LeO.bind ?_ (fun _ => ?_))
      | exact ih0 _ _ _ _ _
      | exact LeO.none _
      | refine LeO.ite ?_ ?_
      | refine LeO.bind ?_ (fun _ => ?_)
theorem laws_row.mono : ∀ a0 a1 k, LeO (laws_row.f k a0 a1) (laws_row.f (k + 1) a0 a1) := by
  intro a0 a1 k
  have ih0 := laws_row.mono_l k
  unfold laws_row.f
  repeat' first
      | (with_reducible exact ih0 _ _ _ _ _)
      | (with_reducible exact LeO.refl _)
      | (with_reducible exact LeO.none _)
      | (with_reducible refine LeO.ite ?_ ?_)
      | (with_reducible refine LeO.bind ?_ (fun _ => ?_))
      | exact ih0 _ _ _ _ _
      | exact LeO.none _
      | refine LeO.ite ?_ ?_
      | refine LeO.bind ?_ (fun _ => ?_)
set_option maxHeartbeats 8000000 in
set_option maxRecDepth 100000 in
theorem laws_row.calls (k : Nat) (A0 : Option Addr) (c0 : Nat) (l0 : List Int) (a1 : Int) (r : List Int) (w : World) (hr0 : Kd.C (Kd.int .u8) w A0 l0.length l0) (hc0 : l0.length ≤ c0) (h : laws_row.f k l0 a1 = some r) :
    Calls Try.prog 7 #[.slice A0 l0.length c0, .int .i64 a1] w fun e w' => ∃ v0_ : Value, e = .returned (v0_) ∧ Kd.R (Kd.int .i64) 3 w' w.heap.size (fun _ => True) v0_ r ∧ Below w.heap.size w w' := by
  have HR0 := Aside0.mk hr0
  have HC0 := Aside0.mk hc0
  clear hr0 hc0
  have HB := Aside0.mk (Below.refl w.heap.size w)
  have H : (laws_row.l0 k a1 ([] : List Int) l0 (l0.length : Int) 0) = some r := h
  clear h
  have H' := Aside0.mk H
  clear H
  go_enter Try.func7, Try.ntmps7
  go_wp2
  go_loopg [5, 10] k (fun kq v5 v10 w' => ∃ (x5_1 : List Int) (x10_1 : Int), v10 = .int .i64 x10_1 ∧ Aside0 (laws_row.l0 kq a1 x5_1 l0 (l0.length : Int) x10_1 = some r) ∧ Aside0 (kq ≤ k) ∧ Aside0 (Kd.R (Kd.int .i64) 3 w' w.heap.size (fun _ => True) v5 x5_1) ∧ Aside0 (Below w.heap.size w w'))
  case atStart => exact ⟨(([] : List Int)), (0), (by first | rfl | (simp; done) | (simp [*]; done)), H', ⟨Nat.le_refl _⟩, ⟨by first | exact Kd.R_nil _ _ _ _ _ | exact Kd.N_nil _ _ _ _ _ | exact Kd.V_nil _ _ _ _ _ | exact Kd.Q_nil _ _ _ _ _ | exact Kd.S_nil _ _ _ _ _⟩, ⟨by repeat (first | (with_reducible first | exact HB.out | apply below_alloc | apply pw_below_drewN | apply below_drew1) | exact HB.out)⟩⟩
  case round =>
    clear H'
    try clear p2
    obtain ⟨x5_1, x10_1, rfl, HA, HK1, HO_5, HB⟩ := hrel
    cases gk with
    | zero => exact absurd HA.out (by simp [laws_row.l0])
    | succ k1 =>
      have H := HA.out
      clear HA
      simp only [laws_row.l0] at H
      by_cases c3 : x10_1 < (l0.length : Int)
      · rw [if_pos c3] at H
        have c3b0 : decide (x10_1 < (l0.length : Int)) = true := decide_eq_true c3
        clear c3
        by_cases c4 : 0 ≤ x10_1
        · rw [if_pos c4] at H
          have c4b0 : decide (0 ≤ x10_1) = true := decide_eq_true c4
          clear c4
          by_cases c5 : x10_1 < (l0.length : Int)
          · rw [if_pos c5] at H
            have c5b0 : decide (x10_1 < (l0.length : Int)) = true := decide_eq_true c5
            clear c5
            by_cases c6 : x10_1 < 60
            · rw [if_pos c6] at H
              have c6b0 : decide (x10_1 < 60) = true := decide_eq_true c6
              clear c6
              by_cases c7 : a1 = 0
              · rw [if_pos c7] at H
                exact absurd H (by simp)
              · rw [if_neg c7] at H
                have c7b0 : (a1 == 0) = false := beq_eq_false_iff_ne.mpr c7
                have c7b1 : (a1 != 0) = true := bne_iff_ne.mpr c7
                by_cases c8 : x5_1.length < 17592186044416
                · rw [if_pos c8] at H
                  have LMc8 := Aside0.mk c8
                  clear c8
                  obtain ⟨y175, hy175⟩ : ∃ y_ : List Int, y_ = (x5_1 ++ [Int.tmod (wrap64 (rd l0 x10_1)) a1]) := ⟨_, rfl⟩
                  replace H : (laws_row.l0 k1 a1 y175 l0 (l0.length : Int) (wrap64 (x10_1 + 1))) = some r := by first | (rw [hy175]; with_reducible exact H) | (have H2_ := (Option.bind_some _ _).symm.trans H; rw [hy175]; with_reducible exact H2_) | (have H2_ := (Option.bind_some _ _).symm.trans H; with_reducible exact H2_) | with_reducible exact H | (rw [hy175]; exact H) | exact H
                  have Ny175 := Aside0.mk hy175
                  clear hy175
                  have H' := Aside0.mk H
                  clear H
                  have p174 : 0 ≤ (x10_1 : Int) := of_decide_eq_true (by first | (with_reducible assumption) | assumption)
                  have q174 : x10_1 < (l0.length : Int) := of_decide_eq_true (by first | (with_reducible assumption) | assumption)
                  obtain ⟨ad174, e174, hx174_0⟩ := Kd.at_int HR0.out x10_1 p174 q174
                  cases e174
                  replace hx174_0 := (HB.out.cell (World.block_lt_of_cell? w _ hx174_0)).trans hx174_0
                  replace p174 := eq_true p174
                  replace q174 := eq_true q174
                  go_wp2_with (first | ((with_reducible refine gate_builtin (b := .append) (xs := #[.tmp 17, .tmp 22]) rfl ?_); at_builtin; refine Kd.R_append (Kd.int .i64) (w0 := w) w.heap.size rfl (.tmp 17) (.tmp 22) 23 3 (.int .i64 0) 8 rfl Try.underlying23 info3 rfl (by decide) (by omega) u5 x5_1 (Int.tmod (wrap64 (rd l0 x10_1)) a1) [.int .i64 (Int.tmod (wrap64 (rd l0 x10_1)) a1)] (fun _ => True) (fun _ => False) rfl rfl ?aP (fun _ hk => hk.elim) ?aF ?aO ?aB ?aS ?aL ?_; (case aP => exact rfl); (case aB => exact (by repeat (first | (with_reducible first | exact HB.out | apply below_alloc | apply pw_below_drewN | apply below_drew1) | exact HB.out))); (case aF => exact (fun _ _ => trivial)); (case aO => exact (by (with_reducible repeat (first | apply Kd.R_alloc | apply Kd.R_drewN | apply Kd.R_drew)); exact HO_5.out)); (case aS => exact (below_size (by repeat (first | (with_reducible first | exact HB.out | apply below_alloc | apply pw_below_drewN | apply below_drew1) | exact HB.out)))); (case aL => have := LMc8.out; omega); intro v176 w9 ho hb hg hat; rw [← Ny175.out] at ho; have n0_ := Aside0.mk (hb); have n1_ := Aside0.mk (ho); clear HB; clear HO_5; have HB := n0_; have HO177 := n1_; clear n0_ n1_; clear ho hb hg hat))
                  go_roundg k1
                  case measure => have := HK1.out; omega
                  case rel => exact ⟨(y175), (wrap64 (x10_1 + 1)), (by first | rfl | (simp; done) | (simp [*]; done)), H', ⟨by have := HK1.out; omega⟩, ⟨by (with_reducible repeat (first | apply Kd.R_alloc | apply Kd.R_drewN | apply Kd.R_drew)); exact HO177.out⟩, ⟨by repeat (first | (with_reducible first | exact HB.out | apply below_alloc | apply pw_below_drewN | apply below_drew1) | exact HB.out)⟩⟩
                · rw [if_neg c8] at H
                  exact absurd H (by simp)
            · rw [if_neg c6] at H
              have c6b0 : decide (x10_1 < 60) = false := decide_eq_false c6
              clear c6
              have H' := Aside0.mk H
              clear H
              have p174 : 0 ≤ (x10_1 : Int) := of_decide_eq_true (by first | (with_reducible assumption) | assumption)
              have q174 : x10_1 < (l0.length : Int) := of_decide_eq_true (by first | (with_reducible assumption) | assumption)
              obtain ⟨ad174, e174, hx174_0⟩ := Kd.at_int HR0.out x10_1 p174 q174
              cases e174
              replace hx174_0 := (HB.out.cell (World.block_lt_of_cell? w _ hx174_0)).trans hx174_0
              replace p174 := eq_true p174
              replace q174 := eq_true q174
              go_wp2
              go_roundg k1
              case measure => have := HK1.out; omega
              case rel => exact ⟨(x5_1), (wrap64 (x10_1 + 1)), (by first | rfl | (simp; done) | (simp [*]; done)), H', ⟨by have := HK1.out; omega⟩, ⟨by (with_reducible repeat (first | apply Kd.R_alloc | apply Kd.R_drewN | apply Kd.R_drew)); exact HO_5.out⟩, ⟨by repeat (first | (with_reducible first | exact HB.out | apply below_alloc | apply pw_below_drewN | apply below_drew1) | exact HB.out)⟩⟩
          · rw [if_neg c5] at H
            exact absurd H (by simp)
        · rw [if_neg c4] at H
          exact absurd H (by simp)
      · rw [if_neg c3] at H
        have c3b0 : decide (x10_1 < (l0.length : Int)) = false := decide_eq_false c3
        clear c3
        obtain rfl := Option.some.inj H
        go_wp2
        go_ret
        exact ⟨_, by first | rfl | (simp [errW_none, errW_some] <;> rfl) | (simp [*, errW_none, errW_some] <;> rfl), by (with_reducible repeat (first | apply Kd.R_alloc | apply Kd.R_drewN | apply Kd.R_drew)); exact HO_5.out, by repeat (first | (with_reducible first | exact HB.out | apply below_alloc | apply pw_below_drewN | apply below_drew1) | exact HB.out)⟩

/-! ### impl_words: function 27 -/
def impl_words.f  : Option (List Int) := some (([1, 3, 4, 16, 6, 14, 26, 7, 28, 27, 25, 19, 18, 20, 22, 23, 21, 24, 17, 15] : List Int))
set_option maxHeartbeats 8000000 in
set_option maxRecDepth 100000 in
theorem impl_words.calls  (r : List Int) (w : World) (h : impl_words.f  = some r) :
    Calls Try.prog 27 #[] w fun e w' => ∃ v0_ : Value, e = .returned (v0_) ∧ Kd.R (Kd.int .i64) 3 w' w.heap.size (fun _ => True) v0_ r ∧ Below w.heap.size w w' := by
  have HB := Aside0.mk (Below.refl w.heap.size w)
  have H : (some (([1, 3, 4, 16, 6, 14, 26, 7, 28, 27, 25, 19, 18, 20, 22, 23, 21, 24, 17, 15] : List Int))) = some r := h
  clear h
  obtain ⟨y178, hy178⟩ : ∃ y_ : List Int, y_ = (([1, 3, 4, 16, 6, 14, 26, 7, 28, 27, 25, 19, 18, 20, 22, 23, 21, 24, 17, 15] : List Int)) := ⟨_, rfl⟩
  replace H : (some y178) = some r := by first | (rw [hy178]; with_reducible exact H) | (have H2_ := (Option.bind_some _ _).symm.trans H; rw [hy178]; with_reducible exact H2_) | (have H2_ := (Option.bind_some _ _).symm.trans H; with_reducible exact H2_) | with_reducible exact H | (rw [hy178]; exact H) | exact H
  have Ny178 := Aside0.mk hy178
  clear hy178
  obtain rfl := Option.some.inj H
  go_enter Try.func27, Try.ntmps27
  go_wp2_with (first | ((with_reducible refine gate_dst (N := 1) rfl ?_); refine Kd.R_lit (Kd.int .i64) _ 3 ?hg (N := 1) ?hd (xs := ([1, 3, 4, 16, 6, 14, 26, 7, 28, 27, 25, 19, 18, 20, 22, 23, 21, 24, 17, 15] : List Int)) (inner := [.int .i64 1, .int .i64 3, .int .i64 4, .int .i64 16, .int .i64 6, .int .i64 14, .int .i64 26, .int .i64 7, .int .i64 28, .int .i64 27, .int .i64 25, .int .i64 19, .int .i64 18, .int .i64 20, .int .i64 22, .int .i64 23, .int .i64 21, .int .i64 24, .int .i64 17, .int .i64 15]) (ok := fun _ => True) (okp := fun _ => True) ?hr ?hp (fun _ hk => hk) trivial (Below.refl _ _) (Nat.le_refl _) (by simp) ?_; (case hd => rfl); (case hg => rfl); (case hr => first | (go_simp; done) | (go_simp; rfl)); (case hp => exact (Reps.one (show Kd.M (Kd.int .i64) _ _ _ 1 [.int .i64 1] from rfl) (Reps.one (show Kd.M (Kd.int .i64) _ _ _ 3 [.int .i64 3] from rfl) (Reps.one (show Kd.M (Kd.int .i64) _ _ _ 4 [.int .i64 4] from rfl) (Reps.one (show Kd.M (Kd.int .i64) _ _ _ 16 [.int .i64 16] from rfl) (Reps.one (show Kd.M (Kd.int .i64) _ _ _ 6 [.int .i64 6] from rfl) (Reps.one (show Kd.M (Kd.int .i64) _ _ _ 14 [.int .i64 14] from rfl) (Reps.one (show Kd.M (Kd.int .i64) _ _ _ 26 [.int .i64 26] from rfl) (Reps.one (show Kd.M (Kd.int .i64) _ _ _ 7 [.int .i64 7] from rfl) (Reps.one (show Kd.M (Kd.int .i64) _ _ _ 28 [.int .i64 28] from rfl) (Reps.one (show Kd.M (Kd.int .i64) _ _ _ 27 [.int .i64 27] from rfl) (Reps.one (show Kd.M (Kd.int .i64) _ _ _ 25 [.int .i64 25] from rfl) (Reps.one (show Kd.M (Kd.int .i64) _ _ _ 19 [.int .i64 19] from rfl) (Reps.one (show Kd.M (Kd.int .i64) _ _ _ 18 [.int .i64 18] from rfl) (Reps.one (show Kd.M (Kd.int .i64) _ _ _ 20 [.int .i64 20] from rfl) (Reps.one (show Kd.M (Kd.int .i64) _ _ _ 22 [.int .i64 22] from rfl) (Reps.one (show Kd.M (Kd.int .i64) _ _ _ 23 [.int .i64 23] from rfl) (Reps.one (show Kd.M (Kd.int .i64) _ _ _ 21 [.int .i64 21] from rfl) (Reps.one (show Kd.M (Kd.int .i64) _ _ _ 24 [.int .i64 24] from rfl) (Reps.one (show Kd.M (Kd.int .i64) _ _ _ 17 [.int .i64 17] from rfl) (Reps.one (show Kd.M (Kd.int .i64) _ _ _ 15 [.int .i64 15] from rfl) (Reps.none _ _)))))))))))))))))))))); intro v179 w1 ho2 hb hg_ hnew_; clear hg_ hnew_; (first | rw [← Ny178.out] at ho2 | (simp only [Int.reduceToNat] at ho2; rw [← Ny178.out] at ho2)); have n0_ := Aside0.mk (Kd.R_lower ho2 (below_size (by repeat (first | (with_reducible first | exact HB.out | apply below_alloc | apply pw_below_drewN | apply below_drew1) | exact HB.out)))); have n1_ := Aside0.mk (below_step (by repeat (first | (with_reducible first | exact HB.out | apply below_alloc | apply pw_below_drewN | apply below_drew1) | exact HB.out)) hb); clear HB; have HO180 := n0_; have HB := n1_; clear n0_ n1_; clear hb ho2))
  go_ret
  exact ⟨_, by first | rfl | (simp [errW_none, errW_some] <;> rfl) | (simp [*, errW_none, errW_some] <;> rfl), by (with_reducible repeat (first | apply Kd.R_alloc | apply Kd.R_drewN | apply Kd.R_drew)); exact HO180.out, by repeat (first | (with_reducible first | exact HB.out | apply below_alloc | apply pw_below_drewN | apply below_drew1) | exact HB.out)⟩

/-! ### impl_numberOf: function 23 -/
def impl_numberOf.f (l0 : List Int) (a1 : Int) : Option (Int) := if a1 < 0 then (if 0 < (l0.length : Int) then (some (rd l0 0)) else (none)) else (if a1 ≥ (l0.length : Int) then (if 0 < (l0.length : Int) then (some (rd l0 0)) else (none)) else (if 0 ≤ a1 then (if a1 < (l0.length : Int) then (some (rd l0 a1)) else (none)) else (none)))
set_option maxHeartbeats 8000000 in
set_option maxRecDepth 100000 in
theorem impl_numberOf.calls (A0 : Option Addr) (c0 : Nat) (l0 : List Int) (a1 : Int) (r : Int) (w : World) (hr0 : Kd.C (Kd.int .i64) w A0 l0.length l0) (hc0 : l0.length ≤ c0) (h : impl_numberOf.f l0 a1 = some r) :
    Calls Try.prog 23 #[.slice A0 l0.length c0, .int .i64 a1] w fun e w' => e = .returned (.int .i64 r) ∧ Drawn0 w w' := by
  have HR0 := Aside0.mk hr0
  have HC0 := Aside0.mk hc0
  clear hr0 hc0
  have H : (if a1 < 0 then (if 0 < (l0.length : Int) then (some (rd l0 0)) else (none)) else (if a1 ≥ (l0.length : Int) then (if 0 < (l0.length : Int) then (some (rd l0 0)) else (none)) else (if 0 ≤ a1 then (if a1 < (l0.length : Int) then (some (rd l0 a1)) else (none)) else (none)))) = some r := h
  clear h
  by_cases c3 : a1 < 0
  · rw [if_pos c3] at H
    have c3b0 : decide (a1 < 0) = true := decide_eq_true c3
    clear c3
    by_cases c4 : 0 < (l0.length : Int)
    · rw [if_pos c4] at H
      have c4b0 : decide (0 < (l0.length : Int)) = true := decide_eq_true c4
      have c4b1 : decide (0 < l0.length) = true := decide_eq_true (by omega)
      clear c4
      obtain rfl := Option.some.inj H
      have p181 : 0 ≤ (0 : Int) := (by omega)
      have q181 : 0 < (l0.length : Int) := of_decide_eq_true (by first | (with_reducible assumption) | assumption)
      obtain ⟨ad181, e181, hx181_0⟩ := Kd.at_int HR0.out 0 p181 q181
      cases e181
      have qi181 : (0 < l0.length) = True := eq_true (by omega)
      (try rw [show ((0 : Int)).toNat = 0 from rfl] at hx181_0)
      (try rw [Addr.add_zero'] at hx181_0)
      replace p181 := eq_true p181
      replace q181 := eq_true q181
      go_enter Try.func23, Try.ntmps23
      go_wp2
      go_ret
      exact ⟨by first | rfl | (simp; done) | (simp [*]; done), by repeat (first | exact Drawn0.refl _ | apply Drawn0.step)⟩
    · rw [if_neg c4] at H
      exact absurd H (by simp)
  · rw [if_neg c3] at H
    have c3b0 : decide (a1 < 0) = false := decide_eq_false c3
    clear c3
    by_cases c5 : a1 ≥ (l0.length : Int)
    · rw [if_pos c5] at H
      have c5b0 : decide ((l0.length : Int) ≤ a1) = true := decide_eq_true c5
      clear c5
      by_cases c6 : 0 < (l0.length : Int)
      · rw [if_pos c6] at H
        have c6b0 : decide (0 < (l0.length : Int)) = true := decide_eq_true c6
        have c6b1 : decide (0 < l0.length) = true := decide_eq_true (by omega)
        clear c6
        obtain rfl := Option.some.inj H
        have p182 : 0 ≤ (0 : Int) := (by omega)
        have q182 : 0 < (l0.length : Int) := of_decide_eq_true (by first | (with_reducible assumption) | assumption)
        obtain ⟨ad182, e182, hx182_0⟩ := Kd.at_int HR0.out 0 p182 q182
        cases e182
        have qi182 : (0 < l0.length) = True := eq_true (by omega)
        (try rw [show ((0 : Int)).toNat = 0 from rfl] at hx182_0)
        (try rw [Addr.add_zero'] at hx182_0)
        replace p182 := eq_true p182
        replace q182 := eq_true q182
        go_enter Try.func23, Try.ntmps23
        go_wp2
        go_ret
        exact ⟨by first | rfl | (simp; done) | (simp [*]; done), by repeat (first | exact Drawn0.refl _ | apply Drawn0.step)⟩
      · rw [if_neg c6] at H
        exact absurd H (by simp)
    · rw [if_neg c5] at H
      have c5b0 : decide ((l0.length : Int) ≤ a1) = false := decide_eq_false c5
      clear c5
      by_cases c7 : 0 ≤ a1
      · rw [if_pos c7] at H
        have c7b0 : decide (0 ≤ a1) = true := decide_eq_true c7
        clear c7
        by_cases c8 : a1 < (l0.length : Int)
        · rw [if_pos c8] at H
          have c8b0 : decide (a1 < (l0.length : Int)) = true := decide_eq_true c8
          clear c8
          obtain rfl := Option.some.inj H
          have p183 : 0 ≤ (a1 : Int) := of_decide_eq_true (by first | (with_reducible assumption) | assumption)
          have q183 : a1 < (l0.length : Int) := of_decide_eq_true (by first | (with_reducible assumption) | assumption)
          obtain ⟨ad183, e183, hx183_0⟩ := Kd.at_int HR0.out a1 p183 q183
          cases e183
          replace p183 := eq_true p183
          replace q183 := eq_true q183
          go_enter Try.func23, Try.ntmps23
          go_wp2
          go_ret
          exact ⟨by first | rfl | (simp; done) | (simp [*]; done), by repeat (first | exact Drawn0.refl _ | apply Drawn0.step)⟩
        · rw [if_neg c8] at H
          exact absurd H (by simp)
      · rw [if_neg c7] at H
        exact absurd H (by simp)

end Go.Proofs.Ytnanfoahimccpaa.Wd
