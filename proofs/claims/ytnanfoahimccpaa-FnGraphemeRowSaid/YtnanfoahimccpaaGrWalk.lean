/- How the reference's rule for clusters and the row of breaks are walked: the walks of 'spec.run' and 'spec.GraphemeBreak' (their lines written by the kit's print, one place turned), of 'laws.breaks' and of the law. -/
import Derived.Test.YtnanfoahimccpaaPFnGraphemeRowx0
import Derived.Test.YtnanfoahimccpaaPFnGraphemeRowx1
import Derived.Test.YtnanfoahimccpaaPFnGraphemeRowx2
namespace Go.Proofs.Ytnanfoahimccpaa.PFnGraphemeRow
open Go.RowKit Go.Proofs.YtnanfoahimccpaaW.PrintWords Go.Proofs.YtnanfoahimccpaaW.PrintLast Go.Proofs.YtnanfoahimccpaaW.PrintMore
attribute [local go_sem] max2_int min2_int max_two min_two max_three min_three max_four min_four   -- for this text's walks alone
set_option linter.unusedVariables false
set_option linter.unusedSimpArgs false

/-! ### spec_run: function 26 -/
def spec_run.l0 : Nat → List Int → Int → Int → Int → Option (Int)
  | 0, _, _, _, _ => none
  | k + 1, x0, x1, x2, x7 => if x1 ≥ 0 then (if 0 ≤ x1 then (if x1 < (x0.length : Int) then (if (rd x0 x1) = x2 then (spec_run.l0 k x0 (wrap64 (x1 - 1)) x2 (wrap64 (x7 + 1))) else (some x7)) else (none)) else (none)) else (some x7)
def spec_run.f (k : Nat) (l0 : List Int) (a1 : Int) (a2 : Int) : Option (Int) := spec_run.l0 k l0 (wrap64 (a1 - 1)) a2 0
theorem spec_run.mono_l : ∀ k, (∀ y0 y1 y2 y3, LeO (spec_run.l0 k y0 y1 y2 y3) (spec_run.l0 (k + 1) y0 y1 y2 y3))
  | 0 => fun _ _ _ _ r h => by simp [spec_run.l0] at h
  | k + 1 => by
    have ih0 := spec_run.mono_l k
    · intro y0 y1 y2 y3
      unfold spec_run.l0
      repeat' first
      | (with_reducible exact ih0 _ _ _ _)
      | (with_reducible exact LeO.refl _)
      | (with_reducible exact LeO.none _)
      | (with_reducible refine LeO.ite ?_ ?_)
      | (with_reducible refine LeO.bind ?_ (fun _ => ?_))
      | exact ih0 _ _ _ _
      | exact LeO.none _
      | refine LeO.ite ?_ ?_
      | refine LeO.bind ?_ (fun _ => ?_)
theorem spec_run.mono : ∀ a0 a1 a2 k, LeO (spec_run.f k a0 a1 a2) (spec_run.f (k + 1) a0 a1 a2) := by
  intro a0 a1 a2 k
  have ih0 := spec_run.mono_l k
  unfold spec_run.f
  repeat' first
      | (with_reducible exact ih0 _ _ _ _)
      | (with_reducible exact LeO.refl _)
      | (with_reducible exact LeO.none _)
      | (with_reducible refine LeO.ite ?_ ?_)
      | (with_reducible refine LeO.bind ?_ (fun _ => ?_))
      | exact ih0 _ _ _ _
      | exact LeO.none _
      | refine LeO.ite ?_ ?_
      | refine LeO.bind ?_ (fun _ => ?_)
set_option maxHeartbeats 8000000 in
set_option maxRecDepth 100000 in
theorem spec_run.calls (k : Nat) (A0 : Option Addr) (c0 : Nat) (l0 : List Int) (a1 : Int) (a2 : Int) (r : Int) (w : World) (hr0 : Kd.C (Kd.int .i64) w A0 l0.length l0) (hc0 : l0.length ≤ c0) (h : spec_run.f k l0 a1 a2 = some r) :
    Calls Try.prog 26 #[.slice A0 l0.length c0, .int .i64 a1, .int .i64 a2] w fun e w' => e = .returned (.int .i64 r) ∧ Drawn0 w w' := by
  have HR0 := Aside0.mk hr0
  have HC0 := Aside0.mk hc0
  clear hr0 hc0
  have H : (spec_run.l0 k l0 (wrap64 (a1 - 1)) a2 0) = some r := h
  clear h
  have H' := Aside0.mk H
  clear H
  go_enter Try.func26, Try.ntmps26
  go_wp2
  go_loopg [1, 7] k (fun kq v1 v7 w' => ∃ (x1_1 : Int) (x7_1 : Int), v1 = .int .i64 x1_1 ∧ v7 = .int .i64 x7_1 ∧ Aside0 (spec_run.l0 kq l0 x1_1 a2 x7_1 = some r) ∧ Aside0 (kq ≤ k) ∧ Drawn0 w w')
  case atStart => exact ⟨(wrap64 (a1 - 1)), (0), (by first | rfl | (simp; done) | (simp [*]; done)), (by first | rfl | (simp; done) | (simp [*]; done)), H', ⟨Nat.le_refl _⟩, by repeat (first | exact Drawn0.refl _ | apply Drawn0.step)⟩
  case round =>
    clear H'
    try clear c2
    try clear p2
    obtain ⟨x1_1, x7_1, rfl, rfl, HA, HK1, ⟨m1, rfl⟩⟩ := hrel
    cases gk with
    | zero => exact absurd HA.out (by simp [spec_run.l0])
    | succ k1 =>
      have H := HA.out
      clear HA
      simp only [spec_run.l0] at H
      by_cases c4 : x1_1 ≥ 0
      · rw [if_pos c4] at H
        have c4b0 : decide (0 ≤ x1_1) = true := decide_eq_true c4
        clear c4
        by_cases c5 : 0 ≤ x1_1
        · rw [if_pos c5] at H
          have c5b0 : decide (0 ≤ x1_1) = true := decide_eq_true c5
          clear c5
          by_cases c6 : x1_1 < (l0.length : Int)
          · rw [if_pos c6] at H
            have c6b0 : decide (x1_1 < (l0.length : Int)) = true := decide_eq_true c6
            clear c6
            by_cases c7 : (rd l0 x1_1) = a2
            · rw [if_pos c7] at H
              have c7b0 : ((rd l0 x1_1) == a2) = true := beq_iff_eq.mpr c7
              have c7b1 : ((rd l0 x1_1) != a2) = false := bne_eq_false_iff_eq.mpr c7
              clear c7
              have H' := Aside0.mk H
              clear H
              have p168 : 0 ≤ (x1_1 : Int) := of_decide_eq_true (by first | (with_reducible assumption) | assumption)
              have q168 : x1_1 < (l0.length : Int) := of_decide_eq_true (by first | (with_reducible assumption) | assumption)
              obtain ⟨ad168, e168, hx168_0⟩ := Kd.at_int HR0.out x1_1 p168 q168
              cases e168
              replace p168 := eq_true p168
              replace q168 := eq_true q168
              go_wp2
              go_roundg k1
              case measure => have := HK1.out; omega
              case rel => exact ⟨(wrap64 (x1_1 - 1)), (wrap64 (x7_1 + 1)), (by first | rfl | (simp; done) | (simp [*]; done)), (by first | rfl | (simp; done) | (simp [*]; done)), H', ⟨by have := HK1.out; omega⟩, by repeat (first | exact Drawn0.refl _ | apply Drawn0.step)⟩
            · rw [if_neg c7] at H
              have c7b0 : ((rd l0 x1_1) == a2) = false := beq_eq_false_iff_ne.mpr c7
              have c7b1 : ((rd l0 x1_1) != a2) = true := bne_iff_ne.mpr c7
              obtain rfl := Option.some.inj H
              have p168 : 0 ≤ (x1_1 : Int) := of_decide_eq_true (by first | (with_reducible assumption) | assumption)
              have q168 : x1_1 < (l0.length : Int) := of_decide_eq_true (by first | (with_reducible assumption) | assumption)
              obtain ⟨ad168, e168, hx168_0⟩ := Kd.at_int HR0.out x1_1 p168 q168
              cases e168
              replace p168 := eq_true p168
              replace q168 := eq_true q168
              go_wp2
              go_ret
              exact ⟨by first | rfl | (simp; done) | (simp [*]; done), by repeat (first | exact Drawn0.refl _ | apply Drawn0.step)⟩
          · rw [if_neg c6] at H
            exact absurd H (by simp)
        · rw [if_neg c5] at H
          exact absurd H (by simp)
      · rw [if_neg c4] at H
        have c4b0 : decide (0 ≤ x1_1) = false := decide_eq_false c4
        clear c4
        obtain rfl := Option.some.inj H
        go_wp2
        go_ret
        exact ⟨by first | rfl | (simp; done) | (simp [*]; done), by repeat (first | exact Drawn0.refl _ | apply Drawn0.step)⟩

/-! ### spec_GraphemeBreak: function 10 -/
def spec_GraphemeBreak.j0 : Nat → List Int → Int → Int → Int → Bool → Option (Bool)
  | 0, _, _, _, _, _ => none
  | k + 1, x0, x1, x5, x6, x25 => if x25 = true then ((spec_before.f k x0 (wrap64 (x1 - 1)) (([5] : List Int))).bind fun t175 => (if t175 < 0 then (some true) else (if 0 ≤ t175 then (if t175 < (x0.length : Int) then (some ((rd x0 t175) != 14)) else (none)) else (none)))) else (if x5 = 6 then (if x6 = 6 then ((spec_run.f k x0 x1 6).bind fun t177 => (some ((Int.tmod t177 2) == 0))) else (some true)) else (some true))
def spec_GraphemeBreak.f (k : Nat) (l0 : List Int) (a1 : Int) : Option (Bool) := if 0 ≤ (wrap64 (a1 - 1)) then (if (wrap64 (a1 - 1)) < (l0.length : Int) then (if 0 ≤ a1 then (if a1 < (l0.length : Int) then ((spec_gbJoins.f k (rd l0 (wrap64 (a1 - 1))) (rd l0 a1)).bind fun t171 => (if t171 = true then (some false) else (if (rd l0 (wrap64 (a1 - 1))) = 13 then (spec_GraphemeBreak.j0 k l0 a1 (rd l0 (wrap64 (a1 - 1))) (rd l0 a1) ((rd l0 a1) == 14)) else (spec_GraphemeBreak.j0 k l0 a1 (rd l0 (wrap64 (a1 - 1))) (rd l0 a1) false)))) else (none)) else (none)) else (none)) else (none)
theorem spec_GraphemeBreak.mono_l : ∀ k, (∀ y0 y1 y2 y3 y4, LeO (spec_GraphemeBreak.j0 k y0 y1 y2 y3 y4) (spec_GraphemeBreak.j0 (k + 1) y0 y1 y2 y3 y4))
  | 0 => fun _ _ _ _ _ r h => by simp [spec_GraphemeBreak.j0] at h
  | k + 1 => by
    have ih0 := spec_GraphemeBreak.mono_l k
    · intro y0 y1 y2 y3 y4
      unfold spec_GraphemeBreak.j0
      repeat' first
      | (with_reducible exact ih0 _ _ _ _ _)
      | (with_reducible exact spec_before.mono _ _ _ _)
      | (with_reducible exact spec_gbJoins.mono _ _ _)
      | (with_reducible exact spec_run.mono _ _ _ _)
      | (with_reducible exact LeO.refl _)
      | (with_reducible exact LeO.none _)
      | (with_reducible refine LeO.ite ?_ ?_)
      | (with_reducible refine LeO.bind ?_ (fun _ => ?_))
      | exact ih0 _ _ _ _ _
      | exact spec_before.mono _ _ _ _
      | exact spec_gbJoins.mono _ _ _
      | exact spec_run.mono _ _ _ _
      | exact LeO.none _
      | refine LeO.ite ?_ ?_
      | refine LeO.bind ?_ (fun _ => ?_)
theorem spec_GraphemeBreak.mono : ∀ a0 a1 k, LeO (spec_GraphemeBreak.f k a0 a1) (spec_GraphemeBreak.f (k + 1) a0 a1) := by
  intro a0 a1 k
  have ih0 := spec_GraphemeBreak.mono_l k
  unfold spec_GraphemeBreak.f
  repeat' first
      | (with_reducible exact ih0 _ _ _ _ _)
      | (with_reducible exact spec_before.mono _ _ _ _)
      | (with_reducible exact spec_gbJoins.mono _ _ _)
      | (with_reducible exact spec_run.mono _ _ _ _)
      | (with_reducible exact LeO.refl _)
      | (with_reducible exact LeO.none _)
      | (with_reducible refine LeO.ite ?_ ?_)
      | (with_reducible refine LeO.bind ?_ (fun _ => ?_))
      | exact ih0 _ _ _ _ _
      | exact spec_before.mono _ _ _ _
      | exact spec_gbJoins.mono _ _ _
      | exact spec_run.mono _ _ _ _
      | exact LeO.none _
      | refine LeO.ite ?_ ?_
      | refine LeO.bind ?_ (fun _ => ?_)
set_option maxHeartbeats 8000000 in
set_option maxRecDepth 100000 in
theorem spec_GraphemeBreak.calls (k : Nat) (A0 : Option Addr) (c0 : Nat) (l0 : List Int) (a1 : Int) (r : Bool) (w : World) (hr0 : Kd.C (Kd.int .i64) w A0 l0.length l0) (hc0 : l0.length ≤ c0) (h : spec_GraphemeBreak.f k l0 a1 = some r) :
    Calls Try.prog 10 #[.slice A0 l0.length c0, .int .i64 a1] w fun e w' => e = .returned (.bool r) ∧ Below w.heap.size w w' := by
  have HR0 := Aside0.mk hr0
  have HC0 := Aside0.mk hc0
  clear hr0 hc0
  have HB := Aside0.mk (Below.refl w.heap.size w)
  have H : (if 0 ≤ (wrap64 (a1 - 1)) then (if (wrap64 (a1 - 1)) < (l0.length : Int) then (if 0 ≤ a1 then (if a1 < (l0.length : Int) then ((spec_gbJoins.f k (rd l0 (wrap64 (a1 - 1))) (rd l0 a1)).bind fun t171 => (if t171 = true then (some false) else (if (rd l0 (wrap64 (a1 - 1))) = 13 then (spec_GraphemeBreak.j0 k l0 a1 (rd l0 (wrap64 (a1 - 1))) (rd l0 a1) ((rd l0 a1) == 14)) else (spec_GraphemeBreak.j0 k l0 a1 (rd l0 (wrap64 (a1 - 1))) (rd l0 a1) false)))) else (none)) else (none)) else (none)) else (none)) = some r := h
  clear h
  obtain ⟨ji3, hji3⟩ : ∃ j_ : Int, (wrap64 (a1 - 1)) = j_ := ⟨_, rfl⟩
  replace H : (if 0 ≤ (ji3) then (if (ji3) < (l0.length : Int) then (if 0 ≤ a1 then (if a1 < (l0.length : Int) then ((spec_gbJoins.f k (rd l0 (ji3)) (rd l0 a1)).bind fun t171 => (if t171 = true then (some false) else (if (rd l0 (ji3)) = 13 then (spec_GraphemeBreak.j0 k l0 a1 (rd l0 (ji3)) (rd l0 a1) ((rd l0 a1) == 14)) else (spec_GraphemeBreak.j0 k l0 a1 (rd l0 (ji3)) (rd l0 a1) false)))) else (none)) else (none)) else (none)) else (none)) = some r := by first | (rw [hji3] at H; exact H) | (simp only [hji3] at H ⊢; exact H)
  have hji3w : (IntKind.i64.wrap (a1 - 1)) = ji3 := (i64_w _).trans hji3
  by_cases c4 : 0 ≤ (ji3)
  · rw [if_pos c4] at H
    have c4b0 : decide (0 ≤ (ji3)) = true := decide_eq_true c4
    clear c4
    by_cases c5 : (ji3) < (l0.length : Int)
    · rw [if_pos c5] at H
      have c5b0 : decide ((ji3) < (l0.length : Int)) = true := decide_eq_true c5
      clear c5
      by_cases c6 : 0 ≤ a1
      · rw [if_pos c6] at H
        have c6b0 : decide (0 ≤ a1) = true := decide_eq_true c6
        clear c6
        by_cases c7 : a1 < (l0.length : Int)
        · rw [if_pos c7] at H
          have c7b0 : decide (a1 < (l0.length : Int)) = true := decide_eq_true c7
          clear c7
          replace H := Option.bind_eq_some_iff.mp H
          obtain ⟨t171, A80, H⟩ := H
          replace H : (if t171 = true then (some false) else (if (rd l0 (ji3)) = 13 then (spec_GraphemeBreak.j0 k l0 a1 (rd l0 (ji3)) (rd l0 a1) ((rd l0 a1) == 14)) else (spec_GraphemeBreak.j0 k l0 a1 (rd l0 (ji3)) (rd l0 a1) false))) = some r := H
          have A8 := Aside0.mk A80
          clear A80
          by_cases c9 : t171 = true
          · subst c9
            have H1 : (some false) = some r := by rw [if_pos rfl] at H; exact H
            clear H
            have H := H1
            clear H1
            obtain rfl := Option.some.inj H
            have p169 : 0 ≤ ((ji3) : Int) := of_decide_eq_true (by first | (with_reducible assumption) | assumption)
            have q169 : (ji3) < (l0.length : Int) := of_decide_eq_true (by first | (with_reducible assumption) | assumption)
            obtain ⟨ad169, e169, hx169_0⟩ := Kd.at_int HR0.out (ji3) p169 q169
            cases e169
            replace p169 := eq_true p169
            replace q169 := eq_true q169
            have p170 : 0 ≤ (a1 : Int) := of_decide_eq_true (by first | (with_reducible assumption) | assumption)
            have q170 : a1 < (l0.length : Int) := of_decide_eq_true (by first | (with_reducible assumption) | assumption)
            obtain ⟨ad170, e170, hx170_0⟩ := Kd.at_int HR0.out a1 p170 q170
            obtain rfl : ad169 = ad170 := (by injection e170)
            replace p170 := eq_true p170
            replace q170 := eq_true q170
            go_enter Try.func10, Try.ntmps10
            go_wp2_with (first | (go_at_call 24; (with_reducible refine (spec_gbJoins.calls k (rd l0 (ji3)) (rd l0 a1) true _ A8.out).mono ?_); rintro e w10 ⟨rfl, hb⟩; have n0_ := Aside0.mk (below_step (by repeat (first | (with_reducible first | exact HB.out | apply below_alloc | apply pw_below_drewN | apply below_drew1) | exact HB.out)) hb); clear HB; have HB := n0_; clear n0_; (try clear hb); (try clear hb2); (try clear hk); (try clear hi)))
            repeat (go_quiet (first | (go_at_call 24; (with_reducible refine (spec_gbJoins.calls k (rd l0 (ji3)) (rd l0 a1) true _ A8.out).mono ?_); rintro e w10 ⟨rfl, hb⟩; have n0_ := Aside0.mk (below_step (by repeat (first | (with_reducible first | exact HB.out | apply below_alloc | apply pw_below_drewN | apply below_drew1) | exact HB.out)) hb); clear HB; have HB := n0_; clear n0_; (try clear hb); (try clear hb2); (try clear hk); (try clear hi))); try go_wp2_with (first | (go_at_call 24; (with_reducible refine (spec_gbJoins.calls k (rd l0 (ji3)) (rd l0 a1) true _ A8.out).mono ?_); rintro e w10 ⟨rfl, hb⟩; have n0_ := Aside0.mk (below_step (by repeat (first | (with_reducible first | exact HB.out | apply below_alloc | apply pw_below_drewN | apply below_drew1) | exact HB.out)) hb); clear HB; have HB := n0_; clear n0_; (try clear hb); (try clear hb2); (try clear hk); (try clear hi))))
            go_ret
            exact ⟨by first | rfl | (simp [errW_none, errW_some] <;> rfl) | (simp only [← hji3]; first | rfl | (simp [errW_none, errW_some] <;> rfl)) | (simp [*, errW_none, errW_some] <;> rfl), by repeat (first | (with_reducible first | exact HB.out | apply below_alloc | apply pw_below_drewN | apply below_drew1) | exact HB.out)⟩
          · replace c9 := Bool.eq_false_iff.mpr c9
            subst c9
            have H1 : (if (rd l0 (ji3)) = 13 then (spec_GraphemeBreak.j0 k l0 a1 (rd l0 (ji3)) (rd l0 a1) ((rd l0 a1) == 14)) else (spec_GraphemeBreak.j0 k l0 a1 (rd l0 (ji3)) (rd l0 a1) false)) = some r := by rw [if_neg (show ¬ (false = true) by decide)] at H; exact H
            clear H
            have H := H1
            clear H1
            have HC11 := Aside0.mk H
            clear H
            have p169 : 0 ≤ ((ji3) : Int) := of_decide_eq_true (by first | (with_reducible assumption) | assumption)
            have q169 : (ji3) < (l0.length : Int) := of_decide_eq_true (by first | (with_reducible assumption) | assumption)
            obtain ⟨ad169, e169, hx169_0⟩ := Kd.at_int HR0.out (ji3) p169 q169
            cases e169
            replace p169 := eq_true p169
            replace q169 := eq_true q169
            have p170 : 0 ≤ (a1 : Int) := of_decide_eq_true (by first | (with_reducible assumption) | assumption)
            have q170 : a1 < (l0.length : Int) := of_decide_eq_true (by first | (with_reducible assumption) | assumption)
            obtain ⟨ad170, e170, hx170_0⟩ := Kd.at_int HR0.out a1 p170 q170
            obtain rfl : ad169 = ad170 := (by injection e170)
            replace p170 := eq_true p170
            replace q170 := eq_true q170
            go_enter Try.func10, Try.ntmps10
            go_upto_region 4 with (first | (go_at_call 24; (with_reducible refine (spec_gbJoins.calls k (rd l0 (ji3)) (rd l0 a1) false _ A8.out).mono ?_); rintro e w12 ⟨rfl, hb⟩; have n0_ := Aside0.mk (below_step (by repeat (first | (with_reducible first | exact HB.out | apply below_alloc | apply pw_below_drewN | apply below_drew1) | exact HB.out)) hb); clear HB; have HB := n0_; clear n0_; (try clear hb); (try clear hb2); (try clear hk); (try clear hi)))
            repeat (go_quiet (first | (go_at_call 24; (with_reducible refine (spec_gbJoins.calls k (rd l0 (ji3)) (rd l0 a1) false _ A8.out).mono ?_); rintro e w12 ⟨rfl, hb⟩; have n0_ := Aside0.mk (below_step (by repeat (first | (with_reducible first | exact HB.out | apply below_alloc | apply pw_below_drewN | apply below_drew1) | exact HB.out)) hb); clear HB; have HB := n0_; clear n0_; (try clear hb); (try clear hb2); (try clear hk); (try clear hi))); go_upto_region 4 with (first | (go_at_call 24; (with_reducible refine (spec_gbJoins.calls k (rd l0 (ji3)) (rd l0 a1) false _ A8.out).mono ?_); rintro e w12 ⟨rfl, hb⟩; have n0_ := Aside0.mk (below_step (by repeat (first | (with_reducible first | exact HB.out | apply below_alloc | apply pw_below_drewN | apply below_drew1) | exact HB.out)) hb); clear HB; have HB := n0_; clear n0_; (try clear hb); (try clear hb2); (try clear hk); (try clear hi))))
            (try simp only [Act.put, List.setIfInBounds_toArray, List.set_cons_zero, List.set_cons_succ])
            go_cut [25] (fun v25 wc => ∃ (kq : Nat) (x25_10 : Bool), v25 = .bool x25_10 ∧ Aside0 (spec_GraphemeBreak.j0 kq l0 a1 (rd l0 (ji3)) (rd l0 a1) x25_10 = some r) ∧ Aside0 (kq ≤ k) ∧ Aside0 (Below w.heap.size w wc))
            case first =>
              have H := HC11.out
              clear HC11
              by_cases c13 : (rd l0 (ji3)) = 13
              · rw [if_pos c13] at H
                have c13b0 : ((rd l0 (ji3)) == 13) = true := beq_iff_eq.mpr c13
                have c13b1 : ((rd l0 (ji3)) != 13) = false := bne_eq_false_iff_eq.mpr c13
                clear c13
                (first | rw [c13b0] | (simp only [i64_w, i32_w]; rw [c13b0]) | skip)
                have H' := Aside0.mk H
                clear H
                go_wp2
                repeat (go_quiet (fail); try go_wp2)
                go_meet
                case rel => exact ⟨_, (((rd l0 a1) == 14)), (by first | rfl | (simp; done) | (simp [*]; done)), H', ⟨by first | omega | exact Nat.le_refl _⟩, ⟨by repeat (first | (with_reducible first | exact HB.out | apply below_alloc | apply pw_below_drewN | apply below_drew1) | exact HB.out)⟩⟩
              · rw [if_neg c13] at H
                have c13b0 : ((rd l0 (ji3)) == 13) = false := beq_eq_false_iff_ne.mpr c13
                have c13b1 : ((rd l0 (ji3)) != 13) = true := bne_iff_ne.mpr c13
                (first | rw [c13b0] | (simp only [i64_w, i32_w]; rw [c13b0]) | skip)
                have H' := Aside0.mk H
                clear H
                go_wp2
                repeat (go_quiet (fail); try go_wp2)
                go_meet
                case rel => exact ⟨_, (false), (by first | rfl | (simp; done) | (simp [*]; done)), H', ⟨by first | omega | exact Nat.le_refl _⟩, ⟨by repeat (first | (with_reducible first | exact HB.out | apply below_alloc | apply pw_below_drewN | apply below_drew1) | exact HB.out)⟩⟩
            case rest =>
              clear HC11
              try clear c1
              try clear p1
              try clear q1
              try clear hx1
              try clear p2
              try clear c4
              try clear c4b0
              try clear c5
              try clear c5b0
              try clear c6
              try clear c6b0
              try clear p6
              try clear c7
              try clear c7b0
              try clear c9
              try clear c10
              try clear c13
              try clear c13b0
              try clear c13b1
              try clear hx169_0
              try clear hx170_0
              try clear p169
              try clear p170
              try clear q169
              try clear q170
              obtain ⟨kq, x25_10, rfl, HA, HJ10, HB⟩ := hcut
              cases kq with
              | zero => exact absurd HA.out (by simp [spec_GraphemeBreak.j0])
              | succ kj10 =>
                have H := HA.out
                clear HA
                simp only [spec_GraphemeBreak.j0] at H
                rw [hji3] at H
                by_cases c14 : x25_10 = true
                · subst c14
                  have H1 : ((spec_before.f kj10 l0 ji3 (([5] : List Int))).bind fun t175 => (if t175 < 0 then (some true) else (if 0 ≤ t175 then (if t175 < (l0.length : Int) then (some ((rd l0 t175) != 14)) else (none)) else (none)))) = some r := by rw [if_pos rfl] at H; exact H
                  clear H
                  have H := H1
                  clear H1
                  obtain ⟨y172, hy172⟩ : ∃ y_ : List Int, y_ = (([5] : List Int)) := ⟨_, rfl⟩
                  replace H : ((spec_before.f kj10 l0 ji3 y172).bind fun t175 => (if t175 < 0 then (some true) else (if 0 ≤ t175 then (if t175 < (l0.length : Int) then (some ((rd l0 t175) != 14)) else (none)) else (none)))) = some r := by first | (rw [hy172]; with_reducible exact H) | (have H2_ := (Option.bind_some _ _).symm.trans H; rw [hy172]; with_reducible exact H2_) | (have H2_ := (Option.bind_some _ _).symm.trans H; with_reducible exact H2_) | with_reducible exact H | (rw [hy172]; exact H) | exact H
                  have Ny172 := Aside0.mk hy172
                  clear hy172
                  replace H := Option.bind_eq_some_iff.mp H
                  obtain ⟨t175, A150, H⟩ := H
                  replace H : (if t175 < 0 then (some true) else (if 0 ≤ t175 then (if t175 < (l0.length : Int) then (some ((rd l0 t175) != 14)) else (none)) else (none))) = some r := H
                  have A15 := Aside0.mk A150
                  clear A150
                  by_cases c16 : t175 < 0
                  · rw [if_pos c16] at H
                    have c16b0 : decide (t175 < 0) = true := decide_eq_true c16
                    clear c16
                    obtain rfl := Option.some.inj H
                    go_wp2_with (first | ((with_reducible refine gate_dst (N := 29) rfl ?_); refine Kd.R_lit (Kd.int .i64) _ 3 ?hg (N := 29) ?hd (xs := ([5] : List Int)) (inner := [.int .i64 5]) (ok := fun _ => True) (okp := fun _ => True) ?hr ?hp (fun _ hk => hk) trivial (Below.refl _ _) (Nat.le_refl _) (by simp) ?_; (case hd => rfl); (case hg => rfl); (case hr => first | (go_simp; done) | (go_simp; rfl)); (case hp => exact (Reps.one (show Kd.M (Kd.int .i64) _ _ _ 5 [.int .i64 5] from rfl) (Reps.none _ _))); intro v173 w17 ho18 hb hg_ hnew_; clear hg_ hnew_; (first | rw [← Ny172.out] at ho18 | (simp only [Int.reduceToNat] at ho18; rw [← Ny172.out] at ho18)); have n0_ := Aside0.mk (Kd.R_lower ho18 (below_size (by repeat (first | (with_reducible first | exact HB.out | apply below_alloc | apply pw_below_drewN | apply below_drew1) | exact HB.out)))); have n1_ := Aside0.mk (below_step (by repeat (first | (with_reducible first | exact HB.out | apply below_alloc | apply pw_below_drewN | apply below_drew1) | exact HB.out)) hb); clear HB; have HO174 := n0_; have HB := n1_; clear n0_ n1_; clear hb ho18; obtain ⟨Ao19, co19, eo19⟩ := Kd.R_slice HO174.out; subst eo19) | (go_at_call 25; (with_reducible refine (spec_before.calls kj10 _ _ l0 ji3 _ _ y172 t175 _ ?side1 ?side2 ?side3 ?side4 A15.out).mono ?_); (case side1 => repeat (first | exact (Kd.C_below HR0.out HB.out) | (with_reducible refine Kd.C_alloc ?_ _) | (with_reducible refine Kd.C_drewN ?_ _) | (with_reducible refine Kd.C_drew ?_))); (case side2 => exact HC0.out); (case side3 => repeat (first | exact (Kd.R_reads' HO174.out).2.2 | (with_reducible refine Kd.C_alloc ?_ _) | (with_reducible refine Kd.C_drewN ?_ _) | (with_reducible refine Kd.C_drew ?_))); (case side4 => exact (Kd.R_reads' HO174.out).2.1); rintro e w' ⟨rfl, ⟨nd, rfl⟩⟩; (try first | exact ⟨rfl, _, World.drewN_drewN _ _ _⟩ | exact ⟨rfl, _, Eq.trans (World.drewN_drewN _ _ _) (congrArg (World.drewN _) (Nat.add_assoc _ _ _))⟩)))
                    repeat (go_quiet (first | ((with_reducible refine gate_dst (N := 29) rfl ?_); refine Kd.R_lit (Kd.int .i64) _ 3 ?hg (N := 29) ?hd (xs := ([5] : List Int)) (inner := [.int .i64 5]) (ok := fun _ => True) (okp := fun _ => True) ?hr ?hp (fun _ hk => hk) trivial (Below.refl _ _) (Nat.le_refl _) (by simp) ?_; (case hd => rfl); (case hg => rfl); (case hr => first | (go_simp; done) | (go_simp; rfl)); (case hp => exact (Reps.one (show Kd.M (Kd.int .i64) _ _ _ 5 [.int .i64 5] from rfl) (Reps.none _ _))); intro v173 w17 ho18 hb hg_ hnew_; clear hg_ hnew_; (first | rw [← Ny172.out] at ho18 | (simp only [Int.reduceToNat] at ho18; rw [← Ny172.out] at ho18)); have n0_ := Aside0.mk (Kd.R_lower ho18 (below_size (by repeat (first | (with_reducible first | exact HB.out | apply below_alloc | apply pw_below_drewN | apply below_drew1) | exact HB.out)))); have n1_ := Aside0.mk (below_step (by repeat (first | (with_reducible first | exact HB.out | apply below_alloc | apply pw_below_drewN | apply below_drew1) | exact HB.out)) hb); clear HB; have HO174 := n0_; have HB := n1_; clear n0_ n1_; clear hb ho18; obtain ⟨Ao19, co19, eo19⟩ := Kd.R_slice HO174.out; subst eo19) | (go_at_call 25; (with_reducible refine (spec_before.calls kj10 _ _ l0 ji3 _ _ y172 t175 _ ?side1 ?side2 ?side3 ?side4 A15.out).mono ?_); (case side1 => repeat (first | exact (Kd.C_below HR0.out HB.out) | (with_reducible refine Kd.C_alloc ?_ _) | (with_reducible refine Kd.C_drewN ?_ _) | (with_reducible refine Kd.C_drew ?_))); (case side2 => exact HC0.out); (case side3 => repeat (first | exact (Kd.R_reads' HO174.out).2.2 | (with_reducible refine Kd.C_alloc ?_ _) | (with_reducible refine Kd.C_drewN ?_ _) | (with_reducible refine Kd.C_drew ?_))); (case side4 => exact (Kd.R_reads' HO174.out).2.1); rintro e w' ⟨rfl, ⟨nd, rfl⟩⟩; (try first | exact ⟨rfl, _, World.drewN_drewN _ _ _⟩ | exact ⟨rfl, _, Eq.trans (World.drewN_drewN _ _ _) (congrArg (World.drewN _) (Nat.add_assoc _ _ _))⟩))); try go_wp2_with (first | ((with_reducible refine gate_dst (N := 29) rfl ?_); refine Kd.R_lit (Kd.int .i64) _ 3 ?hg (N := 29) ?hd (xs := ([5] : List Int)) (inner := [.int .i64 5]) (ok := fun _ => True) (okp := fun _ => True) ?hr ?hp (fun _ hk => hk) trivial (Below.refl _ _) (Nat.le_refl _) (by simp) ?_; (case hd => rfl); (case hg => rfl); (case hr => first | (go_simp; done) | (go_simp; rfl)); (case hp => exact (Reps.one (show Kd.M (Kd.int .i64) _ _ _ 5 [.int .i64 5] from rfl) (Reps.none _ _))); intro v173 w17 ho18 hb hg_ hnew_; clear hg_ hnew_; (first | rw [← Ny172.out] at ho18 | (simp only [Int.reduceToNat] at ho18; rw [← Ny172.out] at ho18)); have n0_ := Aside0.mk (Kd.R_lower ho18 (below_size (by repeat (first | (with_reducible first | exact HB.out | apply below_alloc | apply pw_below_drewN | apply below_drew1) | exact HB.out)))); have n1_ := Aside0.mk (below_step (by repeat (first | (with_reducible first | exact HB.out | apply below_alloc | apply pw_below_drewN | apply below_drew1) | exact HB.out)) hb); clear HB; have HO174 := n0_; have HB := n1_; clear n0_ n1_; clear hb ho18; obtain ⟨Ao19, co19, eo19⟩ := Kd.R_slice HO174.out; subst eo19) | (go_at_call 25; (with_reducible refine (spec_before.calls kj10 _ _ l0 ji3 _ _ y172 t175 _ ?side1 ?side2 ?side3 ?side4 A15.out).mono ?_); (case side1 => repeat (first | exact (Kd.C_below HR0.out HB.out) | (with_reducible refine Kd.C_alloc ?_ _) | (with_reducible refine Kd.C_drewN ?_ _) | (with_reducible refine Kd.C_drew ?_))); (case side2 => exact HC0.out); (case side3 => repeat (first | exact (Kd.R_reads' HO174.out).2.2 | (with_reducible refine Kd.C_alloc ?_ _) | (with_reducible refine Kd.C_drewN ?_ _) | (with_reducible refine Kd.C_drew ?_))); (case side4 => exact (Kd.R_reads' HO174.out).2.1); rintro e w' ⟨rfl, ⟨nd, rfl⟩⟩; (try first | exact ⟨rfl, _, World.drewN_drewN _ _ _⟩ | exact ⟨rfl, _, Eq.trans (World.drewN_drewN _ _ _) (congrArg (World.drewN _) (Nat.add_assoc _ _ _))⟩))))
                    go_ret
                    exact ⟨by first | rfl | (simp [errW_none, errW_some] <;> rfl) | (simp only [← hji3]; first | rfl | (simp [errW_none, errW_some] <;> rfl)) | (simp [*, errW_none, errW_some] <;> rfl), by repeat (first | (with_reducible first | exact HB.out | apply below_alloc | apply pw_below_drewN | apply below_drew1) | exact HB.out)⟩
                  · rw [if_neg c16] at H
                    have c16b0 : decide (t175 < 0) = false := decide_eq_false c16
                    clear c16
                    by_cases c20 : 0 ≤ t175
                    · rw [if_pos c20] at H
                      have c20b0 : decide (0 ≤ t175) = true := decide_eq_true c20
                      clear c20
                      by_cases c21 : t175 < (l0.length : Int)
                      · rw [if_pos c21] at H
                        have c21b0 : decide (t175 < (l0.length : Int)) = true := decide_eq_true c21
                        clear c21
                        obtain rfl := Option.some.inj H
                        go_wp2_with (first | ((with_reducible refine gate_dst (N := 29) rfl ?_); refine Kd.R_lit (Kd.int .i64) _ 3 ?hg (N := 29) ?hd (xs := ([5] : List Int)) (inner := [.int .i64 5]) (ok := fun _ => True) (okp := fun _ => True) ?hr ?hp (fun _ hk => hk) trivial (Below.refl _ _) (Nat.le_refl _) (by simp) ?_; (case hd => rfl); (case hg => rfl); (case hr => first | (go_simp; done) | (go_simp; rfl)); (case hp => exact (Reps.one (show Kd.M (Kd.int .i64) _ _ _ 5 [.int .i64 5] from rfl) (Reps.none _ _))); intro v173 w22 ho23 hb hg_ hnew_; clear hg_ hnew_; (first | rw [← Ny172.out] at ho23 | (simp only [Int.reduceToNat] at ho23; rw [← Ny172.out] at ho23)); have n0_ := Aside0.mk (Kd.R_lower ho23 (below_size (by repeat (first | (with_reducible first | exact HB.out | apply below_alloc | apply pw_below_drewN | apply below_drew1) | exact HB.out)))); have n1_ := Aside0.mk (below_step (by repeat (first | (with_reducible first | exact HB.out | apply below_alloc | apply pw_below_drewN | apply below_drew1) | exact HB.out)) hb); clear HB; have HO174 := n0_; have HB := n1_; clear n0_ n1_; clear hb ho23; obtain ⟨Ao24, co24, eo24⟩ := Kd.R_slice HO174.out; subst eo24) | (go_at_call 25; (with_reducible refine (spec_before.calls kj10 _ _ l0 ji3 _ _ y172 t175 _ ?side1 ?side2 ?side3 ?side4 A15.out).mono ?_); (case side1 => repeat (first | exact (Kd.C_below HR0.out HB.out) | (with_reducible refine Kd.C_alloc ?_ _) | (with_reducible refine Kd.C_drewN ?_ _) | (with_reducible refine Kd.C_drew ?_))); (case side2 => exact HC0.out); (case side3 => repeat (first | exact (Kd.R_reads' HO174.out).2.2 | (with_reducible refine Kd.C_alloc ?_ _) | (with_reducible refine Kd.C_drewN ?_ _) | (with_reducible refine Kd.C_drew ?_))); (case side4 => exact (Kd.R_reads' HO174.out).2.1); rintro e w' ⟨rfl, ⟨nd, rfl⟩⟩; (try first | exact ⟨rfl, _, World.drewN_drewN _ _ _⟩ | exact ⟨rfl, _, Eq.trans (World.drewN_drewN _ _ _) (congrArg (World.drewN _) (Nat.add_assoc _ _ _))⟩); have p176 : 0 ≤ (t175 : Int) := of_decide_eq_true (by first | (with_reducible assumption) | assumption); have q176 : t175 < (l0.length : Int) := of_decide_eq_true (by first | (with_reducible assumption) | assumption); obtain ⟨ad176, e176, hx176_0⟩ := Kd.at_int HR0.out t175 p176 q176; obtain rfl : ad169 = ad176 := (by injection e176); replace hx176_0 := (HB.out.cell (World.block_lt_of_cell? w _ hx176_0)).trans hx176_0; replace p176 := eq_true p176; replace q176 := eq_true q176))
                        repeat (go_quiet (first | ((with_reducible refine gate_dst (N := 29) rfl ?_); refine Kd.R_lit (Kd.int .i64) _ 3 ?hg (N := 29) ?hd (xs := ([5] : List Int)) (inner := [.int .i64 5]) (ok := fun _ => True) (okp := fun _ => True) ?hr ?hp (fun _ hk => hk) trivial (Below.refl _ _) (Nat.le_refl _) (by simp) ?_; (case hd => rfl); (case hg => rfl); (case hr => first | (go_simp; done) | (go_simp; rfl)); (case hp => exact (Reps.one (show Kd.M (Kd.int .i64) _ _ _ 5 [.int .i64 5] from rfl) (Reps.none _ _))); intro v173 w22 ho23 hb hg_ hnew_; clear hg_ hnew_; (first | rw [← Ny172.out] at ho23 | (simp only [Int.reduceToNat] at ho23; rw [← Ny172.out] at ho23)); have n0_ := Aside0.mk (Kd.R_lower ho23 (below_size (by repeat (first | (with_reducible first | exact HB.out | apply below_alloc | apply pw_below_drewN | apply below_drew1) | exact HB.out)))); have n1_ := Aside0.mk (below_step (by repeat (first | (with_reducible first | exact HB.out | apply below_alloc | apply pw_below_drewN | apply below_drew1) | exact HB.out)) hb); clear HB; have HO174 := n0_; have HB := n1_; clear n0_ n1_; clear hb ho23; obtain ⟨Ao24, co24, eo24⟩ := Kd.R_slice HO174.out; subst eo24) | (go_at_call 25; (with_reducible refine (spec_before.calls kj10 _ _ l0 ji3 _ _ y172 t175 _ ?side1 ?side2 ?side3 ?side4 A15.out).mono ?_); (case side1 => repeat (first | exact (Kd.C_below HR0.out HB.out) | (with_reducible refine Kd.C_alloc ?_ _) | (with_reducible refine Kd.C_drewN ?_ _) | (with_reducible refine Kd.C_drew ?_))); (case side2 => exact HC0.out); (case side3 => repeat (first | exact (Kd.R_reads' HO174.out).2.2 | (with_reducible refine Kd.C_alloc ?_ _) | (with_reducible refine Kd.C_drewN ?_ _) | (with_reducible refine Kd.C_drew ?_))); (case side4 => exact (Kd.R_reads' HO174.out).2.1); rintro e w' ⟨rfl, ⟨nd, rfl⟩⟩; (try first | exact ⟨rfl, _, World.drewN_drewN _ _ _⟩ | exact ⟨rfl, _, Eq.trans (World.drewN_drewN _ _ _) (congrArg (World.drewN _) (Nat.add_assoc _ _ _))⟩); have p176 : 0 ≤ (t175 : Int) := of_decide_eq_true (by first | (with_reducible assumption) | assumption); have q176 : t175 < (l0.length : Int) := of_decide_eq_true (by first | (with_reducible assumption) | assumption); obtain ⟨ad176, e176, hx176_0⟩ := Kd.at_int HR0.out t175 p176 q176; obtain rfl : ad169 = ad176 := (by injection e176); replace hx176_0 := (HB.out.cell (World.block_lt_of_cell? w _ hx176_0)).trans hx176_0; replace p176 := eq_true p176; replace q176 := eq_true q176)); try go_wp2_with (first | ((with_reducible refine gate_dst (N := 29) rfl ?_); refine Kd.R_lit (Kd.int .i64) _ 3 ?hg (N := 29) ?hd (xs := ([5] : List Int)) (inner := [.int .i64 5]) (ok := fun _ => True) (okp := fun _ => True) ?hr ?hp (fun _ hk => hk) trivial (Below.refl _ _) (Nat.le_refl _) (by simp) ?_; (case hd => rfl); (case hg => rfl); (case hr => first | (go_simp; done) | (go_simp; rfl)); (case hp => exact (Reps.one (show Kd.M (Kd.int .i64) _ _ _ 5 [.int .i64 5] from rfl) (Reps.none _ _))); intro v173 w22 ho23 hb hg_ hnew_; clear hg_ hnew_; (first | rw [← Ny172.out] at ho23 | (simp only [Int.reduceToNat] at ho23; rw [← Ny172.out] at ho23)); have n0_ := Aside0.mk (Kd.R_lower ho23 (below_size (by repeat (first | (with_reducible first | exact HB.out | apply below_alloc | apply pw_below_drewN | apply below_drew1) | exact HB.out)))); have n1_ := Aside0.mk (below_step (by repeat (first | (with_reducible first | exact HB.out | apply below_alloc | apply pw_below_drewN | apply below_drew1) | exact HB.out)) hb); clear HB; have HO174 := n0_; have HB := n1_; clear n0_ n1_; clear hb ho23; obtain ⟨Ao24, co24, eo24⟩ := Kd.R_slice HO174.out; subst eo24) | (go_at_call 25; (with_reducible refine (spec_before.calls kj10 _ _ l0 ji3 _ _ y172 t175 _ ?side1 ?side2 ?side3 ?side4 A15.out).mono ?_); (case side1 => repeat (first | exact (Kd.C_below HR0.out HB.out) | (with_reducible refine Kd.C_alloc ?_ _) | (with_reducible refine Kd.C_drewN ?_ _) | (with_reducible refine Kd.C_drew ?_))); (case side2 => exact HC0.out); (case side3 => repeat (first | exact (Kd.R_reads' HO174.out).2.2 | (with_reducible refine Kd.C_alloc ?_ _) | (with_reducible refine Kd.C_drewN ?_ _) | (with_reducible refine Kd.C_drew ?_))); (case side4 => exact (Kd.R_reads' HO174.out).2.1); rintro e w' ⟨rfl, ⟨nd, rfl⟩⟩; (try first | exact ⟨rfl, _, World.drewN_drewN _ _ _⟩ | exact ⟨rfl, _, Eq.trans (World.drewN_drewN _ _ _) (congrArg (World.drewN _) (Nat.add_assoc _ _ _))⟩); have p176 : 0 ≤ (t175 : Int) := of_decide_eq_true (by first | (with_reducible assumption) | assumption); have q176 : t175 < (l0.length : Int) := of_decide_eq_true (by first | (with_reducible assumption) | assumption); obtain ⟨ad176, e176, hx176_0⟩ := Kd.at_int HR0.out t175 p176 q176; obtain rfl : ad169 = ad176 := (by injection e176); replace hx176_0 := (HB.out.cell (World.block_lt_of_cell? w _ hx176_0)).trans hx176_0; replace p176 := eq_true p176; replace q176 := eq_true q176)))
                        go_ret
                        exact ⟨by first | rfl | (simp [errW_none, errW_some] <;> rfl) | (simp only [← hji3]; first | rfl | (simp [errW_none, errW_some] <;> rfl)) | (simp [*, errW_none, errW_some] <;> rfl), by repeat (first | (with_reducible first | exact HB.out | apply below_alloc | apply pw_below_drewN | apply below_drew1) | exact HB.out)⟩
                      · rw [if_neg c21] at H
                        exact absurd H (by simp)
                    · rw [if_neg c20] at H
                      exact absurd H (by simp)
                · replace c14 := Bool.eq_false_iff.mpr c14
                  subst c14
                  have H1 : (if (rd l0 (ji3)) = 6 then (if (rd l0 a1) = 6 then ((spec_run.f kj10 l0 a1 6).bind fun t177 => (some ((Int.tmod t177 2) == 0))) else (some true)) else (some true)) = some r := by rw [if_neg (show ¬ (false = true) by decide)] at H; exact H
                  clear H
                  have H := H1
                  clear H1
                  by_cases c25 : (rd l0 (ji3)) = 6
                  · rw [if_pos c25] at H
                    have c25b0 : ((rd l0 (ji3)) == 6) = true := beq_iff_eq.mpr c25
                    have c25b1 : ((rd l0 (ji3)) != 6) = false := bne_eq_false_iff_eq.mpr c25
                    clear c25
                    by_cases c26 : (rd l0 a1) = 6
                    · rw [if_pos c26] at H
                      have c26b0 : ((rd l0 a1) == 6) = true := beq_iff_eq.mpr c26
                      have c26b1 : ((rd l0 a1) != 6) = false := bne_eq_false_iff_eq.mpr c26
                      clear c26
                      replace H := Option.bind_eq_some_iff.mp H
                      obtain ⟨t177, A270, H⟩ := H
                      replace H : (some ((Int.tmod t177 2) == 0)) = some r := H
                      have A27 := Aside0.mk A270
                      clear A270
                      obtain rfl := Option.some.inj H
                      go_wp2_with (first | (go_at_call 26; (with_reducible refine (spec_run.calls kj10 _ _ l0 a1 6 t177 _ ?side1 ?side2 A27.out).mono ?_); (case side1 => repeat (first | exact (Kd.C_below HR0.out HB.out) | (with_reducible refine Kd.C_alloc ?_ _) | (with_reducible refine Kd.C_drewN ?_ _) | (with_reducible refine Kd.C_drew ?_))); (case side2 => exact HC0.out); rintro e w' ⟨rfl, ⟨nd, rfl⟩⟩; (try first | exact ⟨rfl, _, World.drewN_drewN _ _ _⟩ | exact ⟨rfl, _, Eq.trans (World.drewN_drewN _ _ _) (congrArg (World.drewN _) (Nat.add_assoc _ _ _))⟩)))
                      repeat (go_quiet (first | (go_at_call 26; (with_reducible refine (spec_run.calls kj10 _ _ l0 a1 6 t177 _ ?side1 ?side2 A27.out).mono ?_); (case side1 => repeat (first | exact (Kd.C_below HR0.out HB.out) | (with_reducible refine Kd.C_alloc ?_ _) | (with_reducible refine Kd.C_drewN ?_ _) | (with_reducible refine Kd.C_drew ?_))); (case side2 => exact HC0.out); rintro e w' ⟨rfl, ⟨nd, rfl⟩⟩; (try first | exact ⟨rfl, _, World.drewN_drewN _ _ _⟩ | exact ⟨rfl, _, Eq.trans (World.drewN_drewN _ _ _) (congrArg (World.drewN _) (Nat.add_assoc _ _ _))⟩))); try go_wp2_with (first | (go_at_call 26; (with_reducible refine (spec_run.calls kj10 _ _ l0 a1 6 t177 _ ?side1 ?side2 A27.out).mono ?_); (case side1 => repeat (first | exact (Kd.C_below HR0.out HB.out) | (with_reducible refine Kd.C_alloc ?_ _) | (with_reducible refine Kd.C_drewN ?_ _) | (with_reducible refine Kd.C_drew ?_))); (case side2 => exact HC0.out); rintro e w' ⟨rfl, ⟨nd, rfl⟩⟩; (try first | exact ⟨rfl, _, World.drewN_drewN _ _ _⟩ | exact ⟨rfl, _, Eq.trans (World.drewN_drewN _ _ _) (congrArg (World.drewN _) (Nat.add_assoc _ _ _))⟩))))
                      go_ret
                      exact ⟨by first | rfl | (simp [errW_none, errW_some] <;> rfl) | (simp only [← hji3]; first | rfl | (simp [errW_none, errW_some] <;> rfl)) | (simp [*, errW_none, errW_some] <;> rfl), by repeat (first | (with_reducible first | exact HB.out | apply below_alloc | apply pw_below_drewN | apply below_drew1) | exact HB.out)⟩
                    · rw [if_neg c26] at H
                      have c26b0 : ((rd l0 a1) == 6) = false := beq_eq_false_iff_ne.mpr c26
                      have c26b1 : ((rd l0 a1) != 6) = true := bne_iff_ne.mpr c26
                      obtain rfl := Option.some.inj H
                      go_wp2
                      repeat (go_quiet (fail); try go_wp2)
                      go_ret
                      exact ⟨by first | rfl | (simp [errW_none, errW_some] <;> rfl) | (simp only [← hji3]; first | rfl | (simp [errW_none, errW_some] <;> rfl)) | (simp [*, errW_none, errW_some] <;> rfl), by repeat (first | (with_reducible first | exact HB.out | apply below_alloc | apply pw_below_drewN | apply below_drew1) | exact HB.out)⟩
                  · rw [if_neg c25] at H
                    have c25b0 : ((rd l0 (ji3)) == 6) = false := beq_eq_false_iff_ne.mpr c25
                    have c25b1 : ((rd l0 (ji3)) != 6) = true := bne_iff_ne.mpr c25
                    obtain rfl := Option.some.inj H
                    go_wp2
                    repeat (go_quiet (fail); try go_wp2)
                    go_ret
                    exact ⟨by first | rfl | (simp [errW_none, errW_some] <;> rfl) | (simp only [← hji3]; first | rfl | (simp [errW_none, errW_some] <;> rfl)) | (simp [*, errW_none, errW_some] <;> rfl), by repeat (first | (with_reducible first | exact HB.out | apply below_alloc | apply pw_below_drewN | apply below_drew1) | exact HB.out)⟩
        · rw [if_neg c7] at H
          exact absurd H (by simp)
      · rw [if_neg c6] at H
        exact absurd H (by simp)
    · rw [if_neg c5] at H
      exact absurd H (by simp)
  · rw [if_neg c4] at H
    exact absurd H (by simp)


set_option maxHeartbeats 1000000 in
set_option maxRecDepth 100000 in
theorem breaks_calls (A0 A1 : Option Addr) (c0 c1 : Nat) (lb : List Bool) (p : List Int) (w : World)
    (hr0 : Kd.C Kd.bool w A0 lb.length lb) (hl : p.length ≤ 60) (hlen : lb.length = p.length - 1)
    (hrule : ∀ (W : World) (i : Int), Below w.heap.size w W → 0 ≤ i → i < lb.length → Calls Try.prog 10 #[.slice A1 p.length c1, .int .i64 (i + 1)] W fun e W' => e = .returned (.bool (lb.getD i.toNat false)) ∧ Below W.heap.size W W') :
    Calls Try.prog 8 #[.slice A0 lb.length c0, .slice A1 p.length c1, .func (.func 10) #[] #[]] w fun e w' => e = .returned (.bool true) ∧ Below w.heap.size w w' := by
  have HR := Aside0.mk hr0
  have HX := Aside0.mk hrule
  clear hr0 hrule
  by_cases hp : p.length = 0
  · have h0 : lb.length = 0 := by omega
    clear hlen
    rw [hp, h0]
    go_enter Try.func8, Try.ntmps8
    go_wp2
    go_ret
    exact ⟨rfl, Below.refl _ _⟩
  · have ht : ((lb.length : Int) != (p.length : Int) - 1) = false := by
      rw [bne_eq_false_iff_eq]; omega
    have ht0 : ((p.length : Int) == 0) = false := by
      rw [beq_eq_false_iff_ne]; omega
    have hlt : (lb.length : Int) < 60 := by omega
    clear hlen hp
    have HT := Aside0.mk ht
    have HT0 := Aside0.mk ht0
    go_enter Try.func8, Try.ntmps8
    go_wp2_with fail
    go_loopw [23] (fun v wr => ∃ k : Nat, (k : Int) ≤ lb.length ∧ v = .int .i64 k ∧ Below w.heap.size w wr) (fun v _ => lb.length - (intOf v).toNat)
    case atStart => exact ⟨0, by omega, rfl, Below.refl _ _⟩
    case round =>
      obtain ⟨k, hk, rfl, hb⟩ := hrel
      have HB := Aside0.mk hb
      clear hb
      by_cases hkl : (k : Int) < lb.length
      · obtain ⟨ad, e, hx⟩ := Kd.at_bool HR.out k (by omega) hkl
        cases e
        replace hx := (HB.out.cell (World.block_lt_of_cell? w _ hx)).trans hx
        have hy := HX.out wr k HB.out (by omega) hkl
        simp only [Int.toNat_natCast] at hx hy
        have hv : rdOf false lb (k : Int) = lb.getD k false := rfl
        rw [hv] at hx
        generalize lb.getD k false = x at hx hy
        clear hv
        have HY := Aside0.mk hy
        clear hy
        have hne : (x != x) = false := by cases x <;> rfl
        go_wp2_with (go_at_call 10; refine HY.out.mono ?_; rintro e w2 ⟨rfl, hb2⟩; have HB2 := Aside0.mk (below_step HB.out hb2); clear hb2)
        go_roundw
        case rel => exact ⟨k + 1, by omega, by go_num, HB2.out⟩
        case measure => simp [intOf]; omega
      · go_wp2
        go_ret
        exact ⟨rfl, HB.out⟩

set_option maxHeartbeats 1000000 in
set_option maxRecDepth 100000 in
theorem law_calls (A : Option Addr) (c : Nat) (l : List Int) (w : World) (hr : Kd.C (Kd.int .u8) w A l.length l) (hc : l.length ≤ c) 
    (p : List Int) (lb : List Bool) (b : Bool) (k : Nat) (hp : laws_row.f k l 15 = some p) (hpl : p.length ≤ 60) (hb : impl_GraphemeBreaks.f k p = some lb) (hbl : lb.length = p.length - 1)
    (hrule : ∀ i : Int, 0 ≤ i → i < lb.length → spec_GraphemeBreak.f k p (i + 1) = some (lb.getD i.toNat false)) (hz : impl_GraphemeBreaks.f k [0, 0] = some [b]) :
    Calls Try.prog 3 #[.slice A l.length c] w fun e w' => e = .returned (.bool true) ∧ Below w.heap.size w w' := by
  by_cases hbig : (2147483647 : Int) < l.length
  · go_enter Try.func3, Try.ntmps3
    go_wp2
    go_ret
    exact ⟨rfl, Below.refl _ _⟩
  · have HR := Aside0.mk hr
    have HC := Aside0.mk hc
    have HP := Aside0.mk hp
    have HBr := Aside0.mk hb
    have HL := Aside0.mk hpl
    have HBL := Aside0.mk hbl
    have HRu := Aside0.mk hrule
    have HZ := Aside0.mk hz
    clear hr hc hp hb hpl hbl hrule hz
    go_enter Try.func3, Try.ntmps3
    go_wp2_with fail
    refine (laws_row.calls k A c l 15 p w HR.out HC.out HP.out).mono ?_
    rintro e w1 ⟨v1, rfl, ho1, hb1⟩
    obtain ⟨A1, c1, rfl⟩ := Kd.R_slice ho1
    have HO1 := Aside0.mk ho1
    have HB1 := Aside0.mk hb1
    clear ho1 hb1
    go_wp2_with fail
    refine (impl_GraphemeBreaks.calls k A1 c1 p lb w1 (Kd.R_reads' HO1.out).2.2 (Kd.R_reads' HO1.out).2.1 HBr.out).mono ?_
    rintro e w2 ⟨v2, rfl, ho2, hb2⟩
    obtain ⟨A2, c2, rfl⟩ := Kd.R_slice ho2
    have HO2 := Aside0.mk ho2
    have HB2 := Aside0.mk (below_step HB1.out hb2)
    have HP2 := Aside0.mk (Kd.C_below (Kd.R_reads' HO1.out).2.2 hb2)
    clear ho2 hb2
    go_wp2_with fail
    refine (breaks_calls A2 A1 c2 c1 lb p w2 (Kd.R_reads' HO2.out).2.2 HL.out HBL.out ?_).mono ?_
    · intro W i hW h0 hi
      exact spec_GraphemeBreak.calls k A1 c1 p (i + 1) _ W (Kd.C_below HP2.out hW) (Kd.R_reads' HO1.out).2.1 (HRu.out i h0 hi)
    rintro e w3 ⟨rfl, hb3⟩
    have HB3 := Aside0.mk (below_step HB2.out hb3)
    clear hb3
    go_wp2_with (first | ((with_reducible refine gate_dst (N := 14) rfl ?_); (try (refine gate_guard (by rfl) ?_; dsimp only)); refine Kd.R_lit (Kd.int .i64) _ 3 ?hg (N := 14) ?hd (xs := ([0, 0] : List Int)) (inner := [.int .i64 0, .int .i64 0]) (ok := fun _ => True) (okp := fun _ => True) ?hr ?hp (fun _ hk => hk) trivial (Below.refl _ _) (Nat.le_refl _) (by simp) ?_; (case hd => rfl); (case hg => rfl); (case hr => first | (go_simp; done) | (go_simp; rfl)); (case hp => exact (Reps.one (show Kd.M (Kd.int .i64) _ _ _ 0 [.int .i64 0] from rfl) (Reps.one (show Kd.M (Kd.int .i64) _ _ _ 0 [.int .i64 0] from rfl) (Reps.none _ _)))); intro v4 w4 ho4 hb4 hg_ hnew_; clear hg_ hnew_))
    obtain ⟨A4, c4, rfl⟩ := Kd.R_slice ho4
    refine (impl_GraphemeBreaks.calls k A4 c4 [0, 0] [b] w4 (Kd.R_reads' ho4).2.2 (Kd.R_reads' ho4).2.1 HZ.out).mono ?_
    rintro e w5 ⟨v5, rfl, ho5, hb5⟩
    obtain ⟨A5, c5, rfl⟩ := Kd.R_slice ho5
    have HB5 := Aside0.mk (below_step (below_step HB3.out hb4) hb5)
    clear ho5 hb5 ho4 hb4
    go_wp2
    go_ret
    exact ⟨rfl, HB5.out⟩
end Go.Proofs.Ytnanfoahimccpaa.PFnGraphemeRow
