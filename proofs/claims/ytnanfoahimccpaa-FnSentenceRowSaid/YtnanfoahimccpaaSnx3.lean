/- Functions of the translation as Lean functions, and their walks: lines written by a program, a turned copy of the kit's print. -/
import Derived.Test.YtnanfoahimccpaaSnx0
import Derived.Test.YtnanfoahimccpaaSnx1
import Derived.Test.YtnanfoahimccpaaSnx2
namespace Go.Proofs.Ytnanfoahimccpaa.Sn
open Go.RowKit Go.Proofs.YtnanfoahimccpaaW.PrintWords Go.Proofs.YtnanfoahimccpaaW.PrintLast Go.Proofs.YtnanfoahimccpaaW.PrintMore
attribute [local go_sem] max2_int min2_int max_two min_two max_three min_three max_four min_four   -- for this text's walks alone
set_option linter.unusedVariables false
set_option linter.unusedSimpArgs false

/-! ### spec_SentenceBreak: function 16 -/
mutual
def spec_SentenceBreak.j0 : Nat → List Int → Int → Int → Int → Bool → Option (Bool)
  | 0, _, _, _, _, _ => none
  | k + 1, x0, x1, x5, x6, x20 => if x20 = true then (some false) else ((spec_sbSep.f k x5).bind fun t160 => (if t160 = true then (some true) else ((spec_sbMute.f k x6).bind fun t161 => (if t161 = true then (some false) else (if 0 ≤ x1 then (if x1 ≤ (x0.length : Int) then ((spec_sbHeard.f k (x0.take (x1 : Int).toNat)).bind fun t163 => (if 0 ≤ (wrap64 ((t163.length : Int) - 1)) then (if (wrap64 ((t163.length : Int) - 1)) < (t163.length : Int) then (if (rd t163 (wrap64 ((t163.length : Int) - 1))) = 11 then (if x6 = 10 then (some false) else (if x6 = 8 then (if (t163.length : Int) > 1 then (if 0 ≤ (wrap64 ((t163.length : Int) - 2)) then (if (wrap64 ((t163.length : Int) - 2)) < (t163.length : Int) then ((spec_among.f k (rd t163 (wrap64 ((t163.length : Int) - 2))) (([8, 7] : List Int))).bind fun t171 => (if t171 = true then (some false) else (spec_SentenceBreak.j1 k x0 x1 x6 t163))) else (none)) else (none)) else (spec_SentenceBreak.j1 k x0 x1 x6 t163)) else (spec_SentenceBreak.j1 k x0 x1 x6 t163))) else (spec_SentenceBreak.j1 k x0 x1 x6 t163)) else (none)) else (none))) else (none)) else (none))))))
def spec_SentenceBreak.j1 : Nat → List Int → Int → Int → List Int → Option (Bool)
  | 0, _, _, _, _ => none
  | k + 1, x0, x1, x6, x7 => (spec_sbBehind.f k x7 true).bind fun t172 => (if t172 < 0 then (spec_SentenceBreak.j2 k x0 x1 x6 x7 t172 true) else (if 0 ≤ t172 then (if t172 < (x7.length : Int) then ((spec_sbTerm.f k (rd x7 t172)).bind fun t174 => (spec_SentenceBreak.j2 k x0 x1 x6 x7 t172 (!t174))) else (none)) else (none)))
def spec_SentenceBreak.j2 : Nat → List Int → Int → Int → List Int → Int → Bool → Option (Bool)
  | 0, _, _, _, _, _, _ => none
  | k + 1, x0, x1, x6, x7, x9, x73 => if x73 = true then (some false) else (if 0 ≤ x9 then (if x9 < (x7.length : Int) then (if (rd x7 x9) = 11 then (if 0 ≤ x1 then (if x1 ≤ (x0.length : Int) then ((spec_sbHeard.f k (x0.drop (x1 : Int).toNat)).bind fun t177 => ((spec_sbLower.f k t177).bind fun t180 => (spec_SentenceBreak.j3 k x6 x7 t180))) else (none)) else (none)) else (spec_SentenceBreak.j3 k x6 x7 false)) else (none)) else (none))
def spec_SentenceBreak.j3 : Nat → Int → List Int → Bool → Option (Bool)
  | 0, _, _, _ => none
  | k + 1, x6, x7, x85 => if x85 = true then (some false) else (if x6 = 14 then (spec_SentenceBreak.j4 k x6 x7 true) else ((spec_sbTerm.f k x6).bind fun t181 => (spec_SentenceBreak.j4 k x6 x7 t181)))
def spec_SentenceBreak.j4 : Nat → Int → List Int → Bool → Option (Bool)
  | 0, _, _, _ => none
  | k + 1, x6, x7, x91 => if x91 = true then (some false) else ((spec_sbBehind.f k x7 false).bind fun t182 => (if t182 ≥ 0 then (if 0 ≤ t182 then (if t182 < (x7.length : Int) then ((spec_sbTerm.f k (rd x7 t182)).bind fun t184 => (if t184 = true then ((spec_among.f k x6 (([13, 6] : List Int))).bind fun t188 => (if t188 = true then (some false) else ((spec_sbSep.f k x6).bind fun t189 => (if t189 = true then (some false) else (if x6 = 6 then (some false) else ((spec_sbSep.f k x6).bind fun t190 => (some (!t190)))))))) else (if x6 = 6 then (some false) else ((spec_sbSep.f k x6).bind fun t191 => (some (!t191)))))) else (none)) else (none)) else (if x6 = 6 then (some false) else ((spec_sbSep.f k x6).bind fun t192 => (some (!t192))))))
end
def spec_SentenceBreak.f (k : Nat) (l0 : List Int) (a1 : Int) : Option (Bool) := if 0 ≤ (wrap64 (a1 - 1)) then (if (wrap64 (a1 - 1)) < (l0.length : Int) then (if 0 ≤ a1 then (if a1 < (l0.length : Int) then (if (rd l0 (wrap64 (a1 - 1))) = 1 then (spec_SentenceBreak.j0 k l0 a1 (rd l0 (wrap64 (a1 - 1))) (rd l0 a1) ((rd l0 a1) == 2)) else (spec_SentenceBreak.j0 k l0 a1 (rd l0 (wrap64 (a1 - 1))) (rd l0 a1) false)) else (none)) else (none)) else (none)) else (none)
theorem spec_SentenceBreak.mono_l : ∀ k, (∀ y0 y1 y2 y3 y4, LeO (spec_SentenceBreak.j0 k y0 y1 y2 y3 y4) (spec_SentenceBreak.j0 (k + 1) y0 y1 y2 y3 y4)) ∧ (∀ y0 y1 y2 y3, LeO (spec_SentenceBreak.j1 k y0 y1 y2 y3) (spec_SentenceBreak.j1 (k + 1) y0 y1 y2 y3)) ∧ (∀ y0 y1 y2 y3 y4 y5, LeO (spec_SentenceBreak.j2 k y0 y1 y2 y3 y4 y5) (spec_SentenceBreak.j2 (k + 1) y0 y1 y2 y3 y4 y5)) ∧ (∀ y0 y1 y2, LeO (spec_SentenceBreak.j3 k y0 y1 y2) (spec_SentenceBreak.j3 (k + 1) y0 y1 y2)) ∧ (∀ y0 y1 y2, LeO (spec_SentenceBreak.j4 k y0 y1 y2) (spec_SentenceBreak.j4 (k + 1) y0 y1 y2))
  | 0 => ⟨fun _ _ _ _ _ r h => by simp [spec_SentenceBreak.j0] at h, fun _ _ _ _ r h => by simp [spec_SentenceBreak.j1] at h, fun _ _ _ _ _ _ r h => by simp [spec_SentenceBreak.j2] at h, fun _ _ _ r h => by simp [spec_SentenceBreak.j3] at h, fun _ _ _ r h => by simp [spec_SentenceBreak.j4] at h⟩
  | k + 1 => by
    obtain ⟨ih0, ih1, ih2, ih3, ih4⟩ := spec_SentenceBreak.mono_l k
    refine ⟨?_, ?_, ?_, ?_, ?_⟩
    · intro y0 y1 y2 y3 y4
      unfold spec_SentenceBreak.j0
      repeat' first
      | (with_reducible exact ih0 _ _ _ _ _)
      | (with_reducible exact ih1 _ _ _ _)
      | (with_reducible exact ih2 _ _ _ _ _ _)
      | (with_reducible exact ih3 _ _ _)
      | (with_reducible exact ih4 _ _ _)
      | (with_reducible exact spec_among.mono _ _ _)
      | (with_reducible exact spec_sbBehind.mono _ _ _)
      | (with_reducible exact spec_sbHeard.mono _ _)
      | (with_reducible exact spec_sbLower.mono _ _)
      | (with_reducible exact spec_sbMute.mono _ _)
      | (with_reducible exact spec_sbSep.mono _ _)
      | (with_reducible exact spec_sbTerm.mono _ _)
      | (with_reducible exact LeO.refl _)
      | (with_reducible exact LeO.none _)
      | (with_reducible refine LeO.ite ?_ ?_)
      | (with_reducible refine LeO.bind ?_ (fun _ => ?_))
      | exact ih0 _ _ _ _ _
      | exact ih1 _ _ _ _
      | exact ih2 _ _ _ _ _ _
      | exact ih3 _ _ _
      | exact ih4 _ _ _
      | exact spec_among.mono _ _ _
      | exact spec_sbBehind.mono _ _ _
      | exact spec_sbHeard.mono _ _
      | exact spec_sbLower.mono _ _
      | exact spec_sbMute.mono _ _
      | exact spec_sbSep.mono _ _
      | exact spec_sbTerm.mono _ _
      | exact LeO.none _
      | refine LeO.ite ?_ ?_
      | refine LeO.bind ?_ (fun _ => ?_)
    · intro y0 y1 y2 y3
      unfold spec_SentenceBreak.j1
      repeat' first
      | (with_reducible exact ih0 _ _ _ _ _)
      | (with_reducible exact ih1 _ _ _ _)
      | (with_reducible exact ih2 _ _ _ _ _ _)
      | (with_reducible exact ih3 _ _ _)
      | (with_reducible exact ih4 _ _ _)
      | (with_reducible exact spec_among.mono _ _ _)
      | (with_reducible exact spec_sbBehind.mono _ _ _)
      | (with_reducible exact spec_sbHeard.mono _ _)
      | (with_reducible exact spec_sbLower.mono _ _)
      | (with_reducible exact spec_sbMute.mono _ _)
      | (with_reducible exact spec_sbSep.mono _ _)
      | (with_reducible exact spec_sbTerm.mono _ _)
      | (with_reducible exact LeO.refl _)
      | (with_reducible exact LeO.none _)
      | (with_reducible refine LeO.ite ?_ ?_)
      | (with_reducible refine LeO.bind ?_ (fun _ => ?_))
      | exact ih0 _ _ _ _ _
      | exact ih1 _ _ _ _
      | exact ih2 _ _ _ _ _ _
      | exact ih3 _ _ _
      | exact ih4 _ _ _
      | exact spec_among.mono _ _ _
      | exact spec_sbBehind.mono _ _ _
      | exact spec_sbHeard.mono _ _
      | exact spec_sbLower.mono _ _
      | exact spec_sbMute.mono _ _
      | exact spec_sbSep.mono _ _
      | exact spec_sbTerm.mono _ _
      | exact LeO.none _
      | refine LeO.ite ?_ ?_
      | refine LeO.bind ?_ (fun _ => ?_)
    · intro y0 y1 y2 y3 y4 y5
      unfold spec_SentenceBreak.j2
      repeat' first
      | (with_reducible exact ih0 _ _ _ _ _)
      | (with_reducible exact ih1 _ _ _ _)
      | (with_reducible exact ih2 _ _ _ _ _ _)
      | (with_reducible exact ih3 _ _ _)
      | (with_reducible exact ih4 _ _ _)
      | (with_reducible exact spec_among.mono _ _ _)
      | (with_reducible exact spec_sbBehind.mono _ _ _)
      | (with_reducible exact spec_sbHeard.mono _ _)
      | (with_reducible exact spec_sbLower.mono _ _)
      | (with_reducible exact spec_sbMute.mono _ _)
      | (with_reducible exact spec_sbSep.mono _ _)
      | (with_reducible exact spec_sbTerm.mono _ _)
      | (with_reducible exact LeO.refl _)
      | (with_reducible exact LeO.none _)
      | (with_reducible refine LeO.ite ?_ ?_)
      | (with_reducible refine LeO.bind ?_ (fun _ => ?_))
      | exact ih0 _ _ _ _ _
      | exact ih1 _ _ _ _
      | exact ih2 _ _ _ _ _ _
      | exact ih3 _ _ _
      | exact ih4 _ _ _
      | exact spec_among.mono _ _ _
      | exact spec_sbBehind.mono _ _ _
      | exact spec_sbHeard.mono _ _
      | exact spec_sbLower.mono _ _
      | exact spec_sbMute.mono _ _
      | exact spec_sbSep.mono _ _
      | exact spec_sbTerm.mono _ _
      | exact LeO.none _
      | refine LeO.ite ?_ ?_
      | refine LeO.bind ?_ (fun _ => ?_)
    · intro y0 y1 y2
      unfold spec_SentenceBreak.j3
      repeat' first
      | (with_reducible exact ih0 _ _ _ _ _)
      | (with_reducible exact ih1 _ _ _ _)
      | (with_reducible exact ih2 _ _ _ _ _ _)
      | (with_reducible exact ih3 _ _ _)
      | (with_reducible exact ih4 _ _ _)
      | (with_reducible exact spec_among.mono _ _ _)
      | (with_reducible exact spec_sbBehind.mono _ _ _)
      | (with_reducible exact spec_sbHeard.mono _ _)
      | (with_reducible exact spec_sbLower.mono _ _)
      | (with_reducible exact spec_sbMute.mono _ _)
      | (with_reducible exact spec_sbSep.mono _ _)
      | (with_reducible exact spec_sbTerm.mono _ _)
      | (with_reducible exact LeO.refl _)
      | (with_reducible exact LeO.none _)
      | (with_reducible refine LeO.ite ?_ ?_)
      | (with_reducible refine LeO.bind ?_ (fun _ => ?_))
      | exact ih0 _ _ _ _ _
      | exact ih1 _ _ _ _
      | exact ih2 _ _ _ _ _ _
      | exact ih3 _ _ _
      | exact ih4 _ _ _
      | exact spec_among.mono _ _ _
      | exact spec_sbBehind.mono _ _ _
      | exact spec_sbHeard.mono _ _
      | exact spec_sbLower.mono _ _
      | exact spec_sbMute.mono _ _
      | exact spec_sbSep.mono _ _
      | exact spec_sbTerm.mono _ _
      | exact LeO.none _
      | refine LeO.ite ?_ ?_
      | refine LeO.bind ?_ (fun _ => ?_)
    · intro y0 y1 y2
      unfold spec_SentenceBreak.j4
      repeat' first
      | (with_reducible exact ih0 _ _ _ _ _)
      | (with_reducible exact ih1 _ _ _ _)
      | (with_reducible exact ih2 _ _ _ _ _ _)
      | (with_reducible exact ih3 _ _ _)
      | (with_reducible exact ih4 _ _ _)
      | (with_reducible exact spec_among.mono _ _ _)
      | (with_reducible exact spec_sbBehind.mono _ _ _)
      | (with_reducible exact spec_sbHeard.mono _ _)
      | (with_reducible exact spec_sbLower.mono _ _)
      | (with_reducible exact spec_sbMute.mono _ _)
      | (with_reducible exact spec_sbSep.mono _ _)
      | (with_reducible exact spec_sbTerm.mono _ _)
      | (with_reducible exact LeO.refl _)
      | (with_reducible exact LeO.none _)
      | (with_reducible refine LeO.ite ?_ ?_)
      | (with_reducible refine LeO.bind ?_ (fun _ => ?_))
      | exact ih0 _ _ _ _ _
      | exact ih1 _ _ _ _
      | exact ih2 _ _ _ _ _ _
      | exact ih3 _ _ _
      | exact ih4 _ _ _
      | exact spec_among.mono _ _ _
      | exact spec_sbBehind.mono _ _ _
      | exact spec_sbHeard.mono _ _
      | exact spec_sbLower.mono _ _
      | exact spec_sbMute.mono _ _
      | exact spec_sbSep.mono _ _
      | exact spec_sbTerm.mono _ _
      | exact LeO.none _
      | refine LeO.ite ?_ ?_
      | refine LeO.bind ?_ (fun _ => ?_)
theorem spec_SentenceBreak.mono : ∀ a0 a1 k, LeO (spec_SentenceBreak.f k a0 a1) (spec_SentenceBreak.f (k + 1) a0 a1) := by
  intro a0 a1 k
  obtain ⟨ih0, ih1, ih2, ih3, ih4⟩ := spec_SentenceBreak.mono_l k
  unfold spec_SentenceBreak.f
  repeat' first
      | (with_reducible exact ih0 _ _ _ _ _)
      | (with_reducible exact ih1 _ _ _ _)
      | (with_reducible exact ih2 _ _ _ _ _ _)
      | (with_reducible exact ih3 _ _ _)
      | (with_reducible exact ih4 _ _ _)
      | (with_reducible exact spec_among.mono _ _ _)
      | (with_reducible exact spec_sbBehind.mono _ _ _)
      | (with_reducible exact spec_sbHeard.mono _ _)
      | (with_reducible exact spec_sbLower.mono _ _)
      | (with_reducible exact spec_sbMute.mono _ _)
      | (with_reducible exact spec_sbSep.mono _ _)
      | (with_reducible exact spec_sbTerm.mono _ _)
      | (with_reducible exact LeO.refl _)
      | (with_reducible exact LeO.none _)
      | (with_reducible refine LeO.ite ?_ ?_)
      | (with_reducible refine LeO.bind ?_ (fun _ => ?_))
      | exact ih0 _ _ _ _ _
      | exact ih1 _ _ _ _
      | exact ih2 _ _ _ _ _ _
      | exact ih3 _ _ _
      | exact ih4 _ _ _
      | exact spec_among.mono _ _ _
      | exact spec_sbBehind.mono _ _ _
      | exact spec_sbHeard.mono _ _
      | exact spec_sbLower.mono _ _
      | exact spec_sbMute.mono _ _
      | exact spec_sbSep.mono _ _
      | exact spec_sbTerm.mono _ _
      | exact LeO.none _
      | refine LeO.ite ?_ ?_
      | refine LeO.bind ?_ (fun _ => ?_)
set_option maxHeartbeats 8000000 in
set_option maxRecDepth 100000 in
theorem spec_SentenceBreak.calls (k : Nat) (A0 : Option Addr) (c0 : Nat) (l0 : List Int) (a1 : Int) (r : Bool) (w : World) (hr0 : Kd.C (Kd.int .i64) w A0 l0.length l0) (hc0 : l0.length ≤ c0) (h : spec_SentenceBreak.f k l0 a1 = some r) :
    Calls Try.prog 16 #[.slice A0 l0.length c0, .int .i64 a1] w fun e w' => e = .returned (.bool r) ∧ Below w.heap.size w w' := by
  have HR0 := Aside0.mk hr0
  have HC0 := Aside0.mk hc0
  clear hr0 hc0
  have HB := Aside0.mk (Below.refl w.heap.size w)
  have H : (if 0 ≤ (wrap64 (a1 - 1)) then (if (wrap64 (a1 - 1)) < (l0.length : Int) then (if 0 ≤ a1 then (if a1 < (l0.length : Int) then (if (rd l0 (wrap64 (a1 - 1))) = 1 then (spec_SentenceBreak.j0 k l0 a1 (rd l0 (wrap64 (a1 - 1))) (rd l0 a1) ((rd l0 a1) == 2)) else (spec_SentenceBreak.j0 k l0 a1 (rd l0 (wrap64 (a1 - 1))) (rd l0 a1) false)) else (none)) else (none)) else (none)) else (none)) = some r := h
  clear h
  obtain ⟨ji3, hji3⟩ : ∃ j_ : Int, (wrap64 (a1 - 1)) = j_ := ⟨_, rfl⟩
  replace H : (if 0 ≤ (ji3) then (if (ji3) < (l0.length : Int) then (if 0 ≤ a1 then (if a1 < (l0.length : Int) then (if (rd l0 (ji3)) = 1 then (spec_SentenceBreak.j0 k l0 a1 (rd l0 (ji3)) (rd l0 a1) ((rd l0 a1) == 2)) else (spec_SentenceBreak.j0 k l0 a1 (rd l0 (ji3)) (rd l0 a1) false)) else (none)) else (none)) else (none)) else (none)) = some r := by first | (rw [hji3] at H; exact H) | (simp only [hji3] at H ⊢; exact H)
  have hji3w : (IntKind.i64.wrap (a1 - 1)) = ji3 := (i64_w _).trans hji3
  by_cases c4 : 0 ≤ (ji3)
  · rw [if_pos c4] at H
    have c4b0 : decide (0 ≤ (ji3)) = true := decide_eq_true c4
    clear c4
    by_cases c5 : (ji3) < (l0.length : Int)
    · rw [if_pos c5] at H
      have c5b0 : decide ((ji3) < (l0.length : Int)) = true := decide_eq_true c5
      clear c5
      by_cases c6 : 0 ≤ a1
      · rw [if_pos c6] at H
        have c6b0 : decide (0 ≤ a1) = true := decide_eq_true c6
        clear c6
        by_cases c7 : a1 < (l0.length : Int)
        · rw [if_pos c7] at H
          have c7b0 : decide (a1 < (l0.length : Int)) = true := decide_eq_true c7
          clear c7
          have HC8 := Aside0.mk H
          clear H
          have p158 : 0 ≤ ((ji3) : Int) := of_decide_eq_true (by first | (with_reducible assumption) | assumption)
          have q158 : (ji3) < (l0.length : Int) := of_decide_eq_true (by first | (with_reducible assumption) | assumption)
          obtain ⟨ad158, e158, hx158_0⟩ := Kd.at_int HR0.out (ji3) p158 q158
          cases e158
          replace p158 := eq_true p158
          replace q158 := eq_true q158
          have p159 : 0 ≤ (a1 : Int) := of_decide_eq_true (by first | (with_reducible assumption) | assumption)
          have q159 : a1 < (l0.length : Int) := of_decide_eq_true (by first | (with_reducible assumption) | assumption)
          obtain ⟨ad159, e159, hx159_0⟩ := Kd.at_int HR0.out a1 p159 q159
          obtain rfl : ad158 = ad159 := (by injection e159)
          replace p159 := eq_true p159
          replace q159 := eq_true q159
          go_enter Try.func16, Try.ntmps16
          go_upto_region 2 with (fail)
          repeat (go_quiet (fail); go_upto_region 2 with (fail))
          go_cut [20] (fun v20 wc => ∃ (kq : Nat) (x20_7 : Bool), v20 = .bool x20_7 ∧ Aside0 (spec_SentenceBreak.j0 kq l0 a1 (rd l0 (ji3)) (rd l0 a1) x20_7 = some r) ∧ Aside0 (kq ≤ k) ∧ Aside0 (Below w.heap.size w wc))
          case first =>
            have H := HC8.out
            clear HC8
            by_cases c9 : (rd l0 (ji3)) = 1
            · rw [if_pos c9] at H
              have c9b0 : ((rd l0 (ji3)) == 1) = true := beq_iff_eq.mpr c9
              have c9b1 : ((rd l0 (ji3)) != 1) = false := bne_eq_false_iff_eq.mpr c9
              clear c9
              (first | rw [c9b0] | (simp only [i64_w, i32_w]; rw [c9b0]) | skip)
              have H' := Aside0.mk H
              clear H
              go_wp2
              repeat (go_quiet (fail); try go_wp2)
              go_meet
              case rel => exact ⟨_, (((rd l0 a1) == 2)), (by first | rfl | (simp; done) | (simp [*]; done)), H', ⟨by first | omega | exact Nat.le_refl _⟩, ⟨by repeat (first | (with_reducible first | exact HB.out | apply below_alloc | apply pw_below_drewN | apply below_drew1) | exact HB.out)⟩⟩
            · rw [if_neg c9] at H
              have c9b0 : ((rd l0 (ji3)) == 1) = false := beq_eq_false_iff_ne.mpr c9
              have c9b1 : ((rd l0 (ji3)) != 1) = true := bne_iff_ne.mpr c9
              (first | rw [c9b0] | (simp only [i64_w, i32_w]; rw [c9b0]) | skip)
              have H' := Aside0.mk H
              clear H
              go_wp2
              repeat (go_quiet (fail); try go_wp2)
              go_meet
              case rel => exact ⟨_, (false), (by first | rfl | (simp; done) | (simp [*]; done)), H', ⟨by first | omega | exact Nat.le_refl _⟩, ⟨by repeat (first | (with_reducible first | exact HB.out | apply below_alloc | apply pw_below_drewN | apply below_drew1) | exact HB.out)⟩⟩
          case rest =>
            clear HC8
            try clear c1
            try clear p1
            try clear q1
            try clear hx1
            try clear p2
            try clear c4
            try clear c4b0
            try clear c5
            try clear c5b0
            try clear c6
            try clear c6b0
            try clear p6
            try clear c7
            try clear c7b0
            try clear c9
            try clear c9b0
            try clear c9b1
            try clear hx158_0
            try clear hx159_0
            try clear p158
            try clear p159
            try clear q158
            try clear q159
            obtain ⟨kq, x20_7, rfl, HA, HJ7, HB⟩ := hcut
            cases kq with
            | zero => exact absurd HA.out (by simp [spec_SentenceBreak.j0])
            | succ kj7 =>
              have H := HA.out
              clear HA
              simp only [spec_SentenceBreak.j0] at H
              by_cases c10 : x20_7 = true
              · subst c10
                have H1 : (some false) = some r := by rw [if_pos rfl] at H; exact H
                clear H
                have H := H1
                clear H1
                obtain rfl := Option.some.inj H
                go_wp2
                repeat (go_quiet (fail); try go_wp2)
                go_ret
                exact ⟨by first | rfl | (simp [errW_none, errW_some] <;> rfl) | (simp only [← hji3]; first | rfl | (simp [errW_none, errW_some] <;> rfl)) | (simp [*, errW_none, errW_some] <;> rfl), by repeat (first | (with_reducible first | exact HB.out | apply below_alloc | apply pw_below_drewN | apply below_drew1) | exact HB.out)⟩
              · replace c10 := Bool.eq_false_iff.mpr c10
                subst c10
                have H1 : ((spec_sbSep.f kj7 (rd l0 (ji3))).bind fun t160 => (if t160 = true then (some true) else ((spec_sbMute.f kj7 (rd l0 a1)).bind fun t161 => (if t161 = true then (some false) else (if 0 ≤ a1 then (if a1 ≤ (l0.length : Int) then ((spec_sbHeard.f kj7 (l0.take (a1 : Int).toNat)).bind fun t163 => (if 0 ≤ (wrap64 ((t163.length : Int) - 1)) then (if (wrap64 ((t163.length : Int) - 1)) < (t163.length : Int) then (if (rd t163 (wrap64 ((t163.length : Int) - 1))) = 11 then (if (rd l0 a1) = 10 then (some false) else (if (rd l0 a1) = 8 then (if (t163.length : Int) > 1 then (if 0 ≤ (wrap64 ((t163.length : Int) - 2)) then (if (wrap64 ((t163.length : Int) - 2)) < (t163.length : Int) then ((spec_among.f kj7 (rd t163 (wrap64 ((t163.length : Int) - 2))) (([8, 7] : List Int))).bind fun t171 => (if t171 = true then (some false) else (spec_SentenceBreak.j1 kj7 l0 a1 (rd l0 a1) t163))) else (none)) else (none)) else (spec_SentenceBreak.j1 kj7 l0 a1 (rd l0 a1) t163)) else (spec_SentenceBreak.j1 kj7 l0 a1 (rd l0 a1) t163))) else (spec_SentenceBreak.j1 kj7 l0 a1 (rd l0 a1) t163)) else (none)) else (none))) else (none)) else (none)))))) = some r := by rw [if_neg (show ¬ (false = true) by decide)] at H; exact H
                clear H
                have H := H1
                clear H1
                replace H := Option.bind_eq_some_iff.mp H
                obtain ⟨t160, A110, H⟩ := H
                replace H : (if t160 = true then (some true) else ((spec_sbMute.f kj7 (rd l0 a1)).bind fun t161 => (if t161 = true then (some false) else (if 0 ≤ a1 then (if a1 ≤ (l0.length : Int) then ((spec_sbHeard.f kj7 (l0.take (a1 : Int).toNat)).bind fun t163 => (if 0 ≤ (wrap64 ((t163.length : Int) - 1)) then (if (wrap64 ((t163.length : Int) - 1)) < (t163.length : Int) then (if (rd t163 (wrap64 ((t163.length : Int) - 1))) = 11 then (if (rd l0 a1) = 10 then (some false) else (if (rd l0 a1) = 8 then (if (t163.length : Int) > 1 then (if 0 ≤ (wrap64 ((t163.length : Int) - 2)) then (if (wrap64 ((t163.length : Int) - 2)) < (t163.length : Int) then ((spec_among.f kj7 (rd t163 (wrap64 ((t163.length : Int) - 2))) (([8, 7] : List Int))).bind fun t171 => (if t171 = true then (some false) else (spec_SentenceBreak.j1 kj7 l0 a1 (rd l0 a1) t163))) else (none)) else (none)) else (spec_SentenceBreak.j1 kj7 l0 a1 (rd l0 a1) t163)) else (spec_SentenceBreak.j1 kj7 l0 a1 (rd l0 a1) t163))) else (spec_SentenceBreak.j1 kj7 l0 a1 (rd l0 a1) t163)) else (none)) else (none))) else (none)) else (none))))) = some r := H
                have A11 := Aside0.mk A110
                clear A110
                by_cases c12 : t160 = true
                · subst c12
                  have H1 : (some true) = some r := by rw [if_pos rfl] at H; exact H
                  clear H
                  have H := H1
                  clear H1
                  obtain rfl := Option.some.inj H
                  go_wp2_with (first | (go_at_call 39; (with_reducible refine (spec_sbSep.calls kj7 (rd l0 (ji3)) true _ A11.out).mono ?_); rintro e w13 ⟨rfl, hb⟩; have n0_ := Aside0.mk (below_step (by repeat (first | (with_reducible first | exact HB.out | apply below_alloc | apply pw_below_drewN | apply below_drew1) | exact HB.out)) hb); clear HB; have HB := n0_; clear n0_; (try clear hb); (try clear hb2); (try clear hk); (try clear hi)))
                  repeat (go_quiet (first | (go_at_call 39; (with_reducible refine (spec_sbSep.calls kj7 (rd l0 (ji3)) true _ A11.out).mono ?_); rintro e w13 ⟨rfl, hb⟩; have n0_ := Aside0.mk (below_step (by repeat (first | (with_reducible first | exact HB.out | apply below_alloc | apply pw_below_drewN | apply below_drew1) | exact HB.out)) hb); clear HB; have HB := n0_; clear n0_; (try clear hb); (try clear hb2); (try clear hk); (try clear hi))); try go_wp2_with (first | (go_at_call 39; (with_reducible refine (spec_sbSep.calls kj7 (rd l0 (ji3)) true _ A11.out).mono ?_); rintro e w13 ⟨rfl, hb⟩; have n0_ := Aside0.mk (below_step (by repeat (first | (with_reducible first | exact HB.out | apply below_alloc | apply pw_below_drewN | apply below_drew1) | exact HB.out)) hb); clear HB; have HB := n0_; clear n0_; (try clear hb); (try clear hb2); (try clear hk); (try clear hi))))
                  go_ret
                  exact ⟨by first | rfl | (simp [errW_none, errW_some] <;> rfl) | (simp only [← hji3]; first | rfl | (simp [errW_none, errW_some] <;> rfl)) | (simp [*, errW_none, errW_some] <;> rfl), by repeat (first | (with_reducible first | exact HB.out | apply below_alloc | apply pw_below_drewN | apply below_drew1) | exact HB.out)⟩
                · replace c12 := Bool.eq_false_iff.mpr c12
                  subst c12
                  have H1 : ((spec_sbMute.f kj7 (rd l0 a1)).bind fun t161 => (if t161 = true then (some false) else (if 0 ≤ a1 then (if a1 ≤ (l0.length : Int) then ((spec_sbHeard.f kj7 (l0.take (a1 : Int).toNat)).bind fun t163 => (if 0 ≤ (wrap64 ((t163.length : Int) - 1)) then (if (wrap64 ((t163.length : Int) - 1)) < (t163.length : Int) then (if (rd t163 (wrap64 ((t163.length : Int) - 1))) = 11 then (if (rd l0 a1) = 10 then (some false) else (if (rd l0 a1) = 8 then (if (t163.length : Int) > 1 then (if 0 ≤ (wrap64 ((t163.length : Int) - 2)) then (if (wrap64 ((t163.length : Int) - 2)) < (t163.length : Int) then ((spec_among.f kj7 (rd t163 (wrap64 ((t163.length : Int) - 2))) (([8, 7] : List Int))).bind fun t171 => (if t171 = true then (some false) else (spec_SentenceBreak.j1 kj7 l0 a1 (rd l0 a1) t163))) else (none)) else (none)) else (spec_SentenceBreak.j1 kj7 l0 a1 (rd l0 a1) t163)) else (spec_SentenceBreak.j1 kj7 l0 a1 (rd l0 a1) t163))) else (spec_SentenceBreak.j1 kj7 l0 a1 (rd l0 a1) t163)) else (none)) else (none))) else (none)) else (none)))) = some r := by rw [if_neg (show ¬ (false = true) by decide)] at H; exact H
                  clear H
                  have H := H1
                  clear H1
                  replace H := Option.bind_eq_some_iff.mp H
                  obtain ⟨t161, A140, H⟩ := H
                  replace H : (if t161 = true then (some false) else (if 0 ≤ a1 then (if a1 ≤ (l0.length : Int) then ((spec_sbHeard.f kj7 (l0.take (a1 : Int).toNat)).bind fun t163 => (if 0 ≤ (wrap64 ((t163.length : Int) - 1)) then (if (wrap64 ((t163.length : Int) - 1)) < (t163.length : Int) then (if (rd t163 (wrap64 ((t163.length : Int) - 1))) = 11 then (if (rd l0 a1) = 10 then (some false) else (if (rd l0 a1) = 8 then (if (t163.length : Int) > 1 then (if 0 ≤ (wrap64 ((t163.length : Int) - 2)) then (if (wrap64 ((t163.length : Int) - 2)) < (t163.length : Int) then ((spec_among.f kj7 (rd t163 (wrap64 ((t163.length : Int) - 2))) (([8, 7] : List Int))).bind fun t171 => (if t171 = true then (some false) else (spec_SentenceBreak.j1 kj7 l0 a1 (rd l0 a1) t163))) else (none)) else (none)) else (spec_SentenceBreak.j1 kj7 l0 a1 (rd l0 a1) t163)) else (spec_SentenceBreak.j1 kj7 l0 a1 (rd l0 a1) t163))) else (spec_SentenceBreak.j1 kj7 l0 a1 (rd l0 a1) t163)) else (none)) else (none))) else (none)) else (none))) = some r := H
                  have A14 := Aside0.mk A140
                  clear A140
                  by_cases c15 : t161 = true
                  · subst c15
                    have H1 : (some false) = some r := by rw [if_pos rfl] at H; exact H
                    clear H
                    have H := H1
                    clear H1
                    obtain rfl := Option.some.inj H
                    go_wp2_with (first | (go_at_call 39; (with_reducible refine (spec_sbSep.calls kj7 (rd l0 (ji3)) false _ A11.out).mono ?_); rintro e w16 ⟨rfl, hb⟩; have n0_ := Aside0.mk (below_step (by repeat (first | (with_reducible first | exact HB.out | apply below_alloc | apply pw_below_drewN | apply below_drew1) | exact HB.out)) hb); clear HB; have HB := n0_; clear n0_; (try clear hb); (try clear hb2); (try clear hk); (try clear hi)) | (go_at_call 40; (with_reducible refine (spec_sbMute.calls kj7 (rd l0 a1) true _ A14.out).mono ?_); rintro e w17 ⟨rfl, hb⟩; have n0_ := Aside0.mk (below_step (by repeat (first | (with_reducible first | exact HB.out | apply below_alloc | apply pw_below_drewN | apply below_drew1) | exact HB.out)) hb); clear HB; have HB := n0_; clear n0_; (try clear hb); (try clear hb2); (try clear hk); (try clear hi)))
                    repeat (go_quiet (first | (go_at_call 39; (with_reducible refine (spec_sbSep.calls kj7 (rd l0 (ji3)) false _ A11.out).mono ?_); rintro e w16 ⟨rfl, hb⟩; have n0_ := Aside0.mk (below_step (by repeat (first | (with_reducible first | exact HB.out | apply below_alloc | apply pw_below_drewN | apply below_drew1) | exact HB.out)) hb); clear HB; have HB := n0_; clear n0_; (try clear hb); (try clear hb2); (try clear hk); (try clear hi)) | (go_at_call 40; (with_reducible refine (spec_sbMute.calls kj7 (rd l0 a1) true _ A14.out).mono ?_); rintro e w17 ⟨rfl, hb⟩; have n0_ := Aside0.mk (below_step (by repeat (first | (with_reducible first | exact HB.out | apply below_alloc | apply pw_below_drewN | apply below_drew1) | exact HB.out)) hb); clear HB; have HB := n0_; clear n0_; (try clear hb); (try clear hb2); (try clear hk); (try clear hi))); try go_wp2_with (first | (go_at_call 39; (with_reducible refine (spec_sbSep.calls kj7 (rd l0 (ji3)) false _ A11.out).mono ?_); rintro e w16 ⟨rfl, hb⟩; have n0_ := Aside0.mk (below_step (by repeat (first | (with_reducible first | exact HB.out | apply below_alloc | apply pw_below_drewN | apply below_drew1) | exact HB.out)) hb); clear HB; have HB := n0_; clear n0_; (try clear hb); (try clear hb2); (try clear hk); (try clear hi)) | (go_at_call 40; (with_reducible refine (spec_sbMute.calls kj7 (rd l0 a1) true _ A14.out).mono ?_); rintro e w17 ⟨rfl, hb⟩; have n0_ := Aside0.mk (below_step (by repeat (first | (with_reducible first | exact HB.out | apply below_alloc | apply pw_below_drewN | apply below_drew1) | exact HB.out)) hb); clear HB; have HB := n0_; clear n0_; (try clear hb); (try clear hb2); (try clear hk); (try clear hi))))
                    go_ret
                    exact ⟨by first | rfl | (simp [errW_none, errW_some] <;> rfl) | (simp only [← hji3]; first | rfl | (simp [errW_none, errW_some] <;> rfl)) | (simp [*, errW_none, errW_some] <;> rfl), by repeat (first | (with_reducible first | exact HB.out | apply below_alloc | apply pw_below_drewN | apply below_drew1) | exact HB.out)⟩
                  · replace c15 := Bool.eq_false_iff.mpr c15
                    subst c15
                    have H1 : (if 0 ≤ a1 then (if a1 ≤ (l0.length : Int) then ((spec_sbHeard.f kj7 (l0.take (a1 : Int).toNat)).bind fun t163 => (if 0 ≤ (wrap64 ((t163.length : Int) - 1)) then (if (wrap64 ((t163.length : Int) - 1)) < (t163.length : Int) then (if (rd t163 (wrap64 ((t163.length : Int) - 1))) = 11 then (if (rd l0 a1) = 10 then (some false) else (if (rd l0 a1) = 8 then (if (t163.length : Int) > 1 then (if 0 ≤ (wrap64 ((t163.length : Int) - 2)) then (if (wrap64 ((t163.length : Int) - 2)) < (t163.length : Int) then ((spec_among.f kj7 (rd t163 (wrap64 ((t163.length : Int) - 2))) (([8, 7] : List Int))).bind fun t171 => (if t171 = true then (some false) else (spec_SentenceBreak.j1 kj7 l0 a1 (rd l0 a1) t163))) else (none)) else (none)) else (spec_SentenceBreak.j1 kj7 l0 a1 (rd l0 a1) t163)) else (spec_SentenceBreak.j1 kj7 l0 a1 (rd l0 a1) t163))) else (spec_SentenceBreak.j1 kj7 l0 a1 (rd l0 a1) t163)) else (none)) else (none))) else (none)) else (none)) = some r := by rw [if_neg (show ¬ (false = true) by decide)] at H; exact H
                    clear H
                    have H := H1
                    clear H1
                    by_cases c18 : 0 ≤ a1
                    · rw [if_pos c18] at H
                      have c18b0 := eq_true c18
                      have c18b1 : decide (0 ≤ a1) = true := decide_eq_true c18
                      clear c18
                      by_cases c19 : a1 ≤ (l0.length : Int)
                      · rw [if_pos c19] at H
                        have c19b0 := eq_true c19
                        have c19b1 : decide (a1 ≤ (l0.length : Int)) = true := decide_eq_true c19
                        clear c19
                        replace H := Option.bind_eq_some_iff.mp H
                        obtain ⟨t163, A200, H⟩ := H
                        replace H : (if 0 ≤ (wrap64 ((t163.length : Int) - 1)) then (if (wrap64 ((t163.length : Int) - 1)) < (t163.length : Int) then (if (rd t163 (wrap64 ((t163.length : Int) - 1))) = 11 then (if (rd l0 a1) = 10 then (some false) else (if (rd l0 a1) = 8 then (if (t163.length : Int) > 1 then (if 0 ≤ (wrap64 ((t163.length : Int) - 2)) then (if (wrap64 ((t163.length : Int) - 2)) < (t163.length : Int) then ((spec_among.f kj7 (rd t163 (wrap64 ((t163.length : Int) - 2))) (([8, 7] : List Int))).bind fun t171 => (if t171 = true then (some false) else (spec_SentenceBreak.j1 kj7 l0 a1 (rd l0 a1) t163))) else (none)) else (none)) else (spec_SentenceBreak.j1 kj7 l0 a1 (rd l0 a1) t163)) else (spec_SentenceBreak.j1 kj7 l0 a1 (rd l0 a1) t163))) else (spec_SentenceBreak.j1 kj7 l0 a1 (rd l0 a1) t163)) else (none)) else (none)) = some r := H
                        have A20 := Aside0.mk A200
                        clear A200
                        obtain ⟨ji21, hji21⟩ : ∃ j_ : Int, (wrap64 ((t163.length : Int) - 1)) = j_ := ⟨_, rfl⟩
                        replace H : (if 0 ≤ (ji21) then (if (ji21) < (t163.length : Int) then (if (rd t163 (ji21)) = 11 then (if (rd l0 a1) = 10 then (some false) else (if (rd l0 a1) = 8 then (if (t163.length : Int) > 1 then (if 0 ≤ (wrap64 ((t163.length : Int) - 2)) then (if (wrap64 ((t163.length : Int) - 2)) < (t163.length : Int) then ((spec_among.f kj7 (rd t163 (wrap64 ((t163.length : Int) - 2))) (([8, 7] : List Int))).bind fun t171 => (if t171 = true then (some false) else (spec_SentenceBreak.j1 kj7 l0 a1 (rd l0 a1) t163))) else (none)) else (none)) else (spec_SentenceBreak.j1 kj7 l0 a1 (rd l0 a1) t163)) else (spec_SentenceBreak.j1 kj7 l0 a1 (rd l0 a1) t163))) else (spec_SentenceBreak.j1 kj7 l0 a1 (rd l0 a1) t163)) else (none)) else (none)) = some r := by first | (rw [hji21] at H; exact H) | (simp only [hji21] at H ⊢; exact H)
                        (try rw [hji21] at A11)
                        (try rw [hji21] at A14)
                        (try rw [hji21] at A20)
                        have hji21w : (IntKind.i64.wrap ((t163.length : Int) - 1)) = ji21 := (i64_w _).trans hji21
                        by_cases c22 : 0 ≤ (ji21)
                        · rw [if_pos c22] at H
                          have c22b0 : decide (0 ≤ (ji21)) = true := decide_eq_true c22
                          clear c22
                          by_cases c23 : (ji21) < (t163.length : Int)
                          · rw [if_pos c23] at H
                            have c23b0 : decide ((ji21) < (t163.length : Int)) = true := decide_eq_true c23
                            clear c23
                            have HC24 := Aside0.mk H
                            clear H
                            go_upto_if 44 with (first | (go_at_call 39; (with_reducible refine (spec_sbSep.calls kj7 (rd l0 (ji3)) false _ A11.out).mono ?_); rintro e w25 ⟨rfl, hb⟩; have n0_ := Aside0.mk (below_step (by repeat (first | (with_reducible first | exact HB.out | apply below_alloc | apply pw_below_drewN | apply below_drew1) | exact HB.out)) hb); clear HB; have HB := n0_; clear n0_; (try clear hb); (try clear hb2); (try clear hk); (try clear hi)) | (go_at_call 40; (with_reducible refine (spec_sbMute.calls kj7 (rd l0 a1) false _ A14.out).mono ?_); rintro e w26 ⟨rfl, hb⟩; have n0_ := Aside0.mk (below_step (by repeat (first | (with_reducible first | exact HB.out | apply below_alloc | apply pw_below_drewN | apply below_drew1) | exact HB.out)) hb); clear HB; have HB := n0_; clear n0_; (try clear hb); (try clear hb2); (try clear hk); (try clear hi); obtain ⟨i027, hi027, _, hsz27, _⟩ := info_parts info3; obtain ⟨hcut27, hA27, hC27⟩ := print_take_of (P := Try.prog) (Value.int .i64) 0 23 3 .i64 Try.underlying23 hi027 hsz27 (some ad158) c0 l0 a1 (of_decide_eq_true (by first | (with_reducible assumption) | assumption)) (of_decide_eq_true (by first | (with_reducible assumption) | assumption)) HC0.out; have HR162 := Aside0.mk (Kd.C_of_reads (h1 := fun _ => rfl) (hA27 _ (Kd.reads_of_C HR0.out))); have HC162 := Aside0.mk hC27; clear hA27 hC27 hi027 hsz27) | (go_at_call 41; (have hl_ : (l0.take (a1 : Int).toNat).length = (a1 : Int).toNat := by (have h1_ : 0 ≤ (a1 : Int) := of_decide_eq_true (by first | (with_reducible assumption) | assumption)); (have h2_ : (a1 : Int) ≤ (l0.length : Int) := of_decide_eq_true (by first | (with_reducible assumption) | assumption)); (rw [List.length_take]; omega)); rw [← hl_]; clear hl_; (with_reducible refine (spec_sbHeard.calls kj7 _ _ (l0.take (a1 : Int).toNat) t163 _ ?side1 ?side2 A20.out).mono ?_); (case side1 => repeat (first | exact (Kd.C_below HR162.out HB.out) | (with_reducible refine Kd.C_alloc ?_ _) | (with_reducible refine Kd.C_drewN ?_ _) | (with_reducible refine Kd.C_drew ?_))); (case side2 => exact HC162.out); rintro e w28 ⟨v164, rfl, ho0, hb⟩; have n0_ := Aside0.mk (Kd.R_lower ho0 (below_size (by repeat (first | (with_reducible first | exact HB.out | apply below_alloc | apply pw_below_drewN | apply below_drew1) | exact HB.out)))); have n1_ := Aside0.mk (below_step (by repeat (first | (with_reducible first | exact HB.out | apply below_alloc | apply pw_below_drewN | apply below_drew1) | exact HB.out)) hb); clear HB; have HO165 := n0_; have HB := n1_; clear n0_ n1_; (try clear hb); (try clear hb2); (try clear hk); (try clear hi); (try clear ho0); obtain ⟨Ao29, co29, eo29⟩ := Kd.R_slice HO165.out; subst eo29; have p166 : 0 ≤ ((ji21) : Int) := of_decide_eq_true (by first | (with_reducible assumption) | assumption); have q166 : (ji21) < (t163.length : Int) := of_decide_eq_true (by first | (with_reducible assumption) | assumption); obtain ⟨ad166, e166, hx166_0⟩ := Kd.at_int (Kd.R_reads' HO165.out).2.2 (ji21) p166 q166; cases e166; replace p166 := eq_true p166; replace q166 := eq_true q166))
                            repeat (go_quiet (first | (go_at_call 39; (with_reducible refine (spec_sbSep.calls kj7 (rd l0 (ji3)) false _ A11.out).mono ?_); rintro e w25 ⟨rfl, hb⟩; have n0_ := Aside0.mk (below_step (by repeat (first | (with_reducible first | exact HB.out | apply below_alloc | apply pw_below_drewN | apply below_drew1) | exact HB.out)) hb); clear HB; have HB := n0_; clear n0_; (try clear hb); (try clear hb2); (try clear hk); (try clear hi)) | (go_at_call 40; (with_reducible refine (spec_sbMute.calls kj7 (rd l0 a1) false _ A14.out).mono ?_); rintro e w26 ⟨rfl, hb⟩; have n0_ := Aside0.mk (below_step (by repeat (first | (with_reducible first | exact HB.out | apply below_alloc | apply pw_below_drewN | apply below_drew1) | exact HB.out)) hb); clear HB; have HB := n0_; clear n0_; (try clear hb); (try clear hb2); (try clear hk); (try clear hi); obtain ⟨i027, hi027, _, hsz27, _⟩ := info_parts info3; obtain ⟨hcut27, hA27, hC27⟩ := print_take_of (P := Try.prog) (Value.int .i64) 0 23 3 .i64 Try.underlying23 hi027 hsz27 (some ad158) c0 l0 a1 (of_decide_eq_true (by first | (with_reducible assumption) | assumption)) (of_decide_eq_true (by first | (with_reducible assumption) | assumption)) HC0.out; have HR162 := Aside0.mk (Kd.C_of_reads (h1 := fun _ => rfl) (hA27 _ (Kd.reads_of_C HR0.out))); have HC162 := Aside0.mk hC27; clear hA27 hC27 hi027 hsz27) | (go_at_call 41; (have hl_ : (l0.take (a1 : Int).toNat).length = (a1 : Int).toNat := by (have h1_ : 0 ≤ (a1 : Int) := of_decide_eq_true (by first | (with_reducible assumption) | assumption)); (have h2_ : (a1 : Int) ≤ (l0.length : Int) := of_decide_eq_true (by first | (with_reducible assumption) | assumption)); (rw [List.length_take]; omega)); rw [← hl_]; clear hl_; (with_reducible refine (spec_sbHeard.calls kj7 _ _ (l0.take (a1 : Int).toNat) t163 _ ?side1 ?side2 A20.out).mono ?_); (case side1 => repeat (first | exact (Kd.C_below HR162.out HB.out) | (with_reducible refine Kd.C_alloc ?_ _) | (with_reducible refine Kd.C_drewN ?_ _) | (with_reducible refine Kd.C_drew ?_))); (case side2 => exact HC162.out); rintro e w28 ⟨v164, rfl, ho0, hb⟩; have n0_ := Aside0.mk (Kd.R_lower ho0 (below_size (by repeat (first | (with_reducible first | exact HB.out | apply below_alloc | apply pw_below_drewN | apply below_drew1) | exact HB.out)))); have n1_ := Aside0.mk (below_step (by repeat (first | (with_reducible first | exact HB.out | apply below_alloc | apply pw_below_drewN | apply below_drew1) | exact HB.out)) hb); clear HB; have HO165 := n0_; have HB := n1_; clear n0_ n1_; (try clear hb); (try clear hb2); (try clear hk); (try clear hi); (try clear ho0); obtain ⟨Ao29, co29, eo29⟩ := Kd.R_slice HO165.out; subst eo29; have p166 : 0 ≤ ((ji21) : Int) := of_decide_eq_true (by first | (with_reducible assumption) | assumption); have q166 : (ji21) < (t163.length : Int) := of_decide_eq_true (by first | (with_reducible assumption) | assumption); obtain ⟨ad166, e166, hx166_0⟩ := Kd.at_int (Kd.R_reads' HO165.out).2.2 (ji21) p166 q166; cases e166; replace p166 := eq_true p166; replace q166 := eq_true q166)); go_upto_if 44 with (first | (go_at_call 39; (with_reducible refine (spec_sbSep.calls kj7 (rd l0 (ji3)) false _ A11.out).mono ?_); rintro e w25 ⟨rfl, hb⟩; have n0_ := Aside0.mk (below_step (by repeat (first | (with_reducible first | exact HB.out | apply below_alloc | apply pw_below_drewN | apply below_drew1) | exact HB.out)) hb); clear HB; have HB := n0_; clear n0_; (try clear hb); (try clear hb2); (try clear hk); (try clear hi)) | (go_at_call 40; (with_reducible refine (spec_sbMute.calls kj7 (rd l0 a1) false _ A14.out).mono ?_); rintro e w26 ⟨rfl, hb⟩; have n0_ := Aside0.mk (below_step (by repeat (first | (with_reducible first | exact HB.out | apply below_alloc | apply pw_below_drewN | apply below_drew1) | exact HB.out)) hb); clear HB; have HB := n0_; clear n0_; (try clear hb); (try clear hb2); (try clear hk); (try clear hi); obtain ⟨i027, hi027, _, hsz27, _⟩ := info_parts info3; obtain ⟨hcut27, hA27, hC27⟩ := print_take_of (P := Try.prog) (Value.int .i64) 0 23 3 .i64 Try.underlying23 hi027 hsz27 (some ad158) c0 l0 a1 (of_decide_eq_true (by first | (with_reducible assumption) | assumption)) (of_decide_eq_true (by first | (with_reducible assumption) | assumption)) HC0.out; have HR162 := Aside0.mk (Kd.C_of_reads (h1 := fun _ => rfl) (hA27 _ (Kd.reads_of_C HR0.out))); have HC162 := Aside0.mk hC27; clear hA27 hC27 hi027 hsz27) | (go_at_call 41; (have hl_ : (l0.take (a1 : Int).toNat).length = (a1 : Int).toNat := by (have h1_ : 0 ≤ (a1 : Int) := of_decide_eq_true (by first | (with_reducible assumption) | assumption)); (have h2_ : (a1 : Int) ≤ (l0.length : Int) := of_decide_eq_true (by first | (with_reducible assumption) | assumption)); (rw [List.length_take]; omega)); rw [← hl_]; clear hl_; (with_reducible refine (spec_sbHeard.calls kj7 _ _ (l0.take (a1 : Int).toNat) t163 _ ?side1 ?side2 A20.out).mono ?_); (case side1 => repeat (first | exact (Kd.C_below HR162.out HB.out) | (with_reducible refine Kd.C_alloc ?_ _) | (with_reducible refine Kd.C_drewN ?_ _) | (with_reducible refine Kd.C_drew ?_))); (case side2 => exact HC162.out); rintro e w28 ⟨v164, rfl, ho0, hb⟩; have n0_ := Aside0.mk (Kd.R_lower ho0 (below_size (by repeat (first | (with_reducible first | exact HB.out | apply below_alloc | apply pw_below_drewN | apply below_drew1) | exact HB.out)))); have n1_ := Aside0.mk (below_step (by repeat (first | (with_reducible first | exact HB.out | apply below_alloc | apply pw_below_drewN | apply below_drew1) | exact HB.out)) hb); clear HB; have HO165 := n0_; have HB := n1_; clear n0_ n1_; (try clear hb); (try clear hb2); (try clear hk); (try clear hi); (try clear ho0); obtain ⟨Ao29, co29, eo29⟩ := Kd.R_slice HO165.out; subst eo29; have p166 : 0 ≤ ((ji21) : Int) := of_decide_eq_true (by first | (with_reducible assumption) | assumption); have q166 : (ji21) < (t163.length : Int) := of_decide_eq_true (by first | (with_reducible assumption) | assumption); obtain ⟨ad166, e166, hx166_0⟩ := Kd.at_int (Kd.R_reads' HO165.out).2.2 (ji21) p166 q166; cases e166; replace p166 := eq_true p166; replace q166 := eq_true q166)))
                            (try simp only [Act.put, List.setIfInBounds_toArray, List.set_cons_zero, List.set_cons_succ])
                            go_cut [] (fun wc => ∃ (kq : Nat), Aside0 (spec_SentenceBreak.j1 kq l0 a1 (rd l0 a1) t163 = some r) ∧ Aside0 (kq ≤ kj7) ∧ Aside0 (Kd.R (Kd.int .i64) 3 wc w.heap.size (fun _ => True) (.slice (some ad166) t163.length co29) t163) ∧ Aside0 (Below w.heap.size w wc))
                            case first =>
                              have H := HC24.out
                              clear HC24
                              by_cases c30 : (rd t163 (ji21)) = 11
                              · rw [if_pos c30] at H
                                have c30b0 : ((rd t163 (ji21)) == 11) = true := beq_iff_eq.mpr c30
                                have c30b1 : ((rd t163 (ji21)) != 11) = false := bne_eq_false_iff_eq.mpr c30
                                clear c30
                                (first | rw [c30b0] | (simp only [i64_w, i32_w]; rw [c30b0]) | skip)
                                by_cases c31 : (rd l0 a1) = 10
                                · rw [if_pos c31] at H
                                  have c31b0 : ((rd l0 a1) == 10) = true := beq_iff_eq.mpr c31
                                  have c31b1 : ((rd l0 a1) != 10) = false := bne_eq_false_iff_eq.mpr c31
                                  clear c31
                                  obtain rfl := Option.some.inj H
                                  go_wp2
                                  repeat (go_quiet (fail); try go_wp2)
                                  go_ret
                                  exact ⟨by first | rfl | (simp [errW_none, errW_some] <;> rfl) | (simp only [← hji3, ← hji21]; first | rfl | (simp [errW_none, errW_some] <;> rfl)) | (simp [*, errW_none, errW_some] <;> rfl), by repeat (first | (with_reducible first | exact HB.out | apply below_alloc | apply pw_below_drewN | apply below_drew1) | exact HB.out)⟩
                                · rw [if_neg c31] at H
                                  have c31b0 : ((rd l0 a1) == 10) = false := beq_eq_false_iff_ne.mpr c31
                                  have c31b1 : ((rd l0 a1) != 10) = true := bne_iff_ne.mpr c31
                                  by_cases c32 : (rd l0 a1) = 8
                                  · rw [if_pos c32] at H
                                    have c32b0 : ((rd l0 a1) == 8) = true := beq_iff_eq.mpr c32
                                    have c32b1 : ((rd l0 a1) != 8) = false := bne_eq_false_iff_eq.mpr c32
                                    clear c32
                                    by_cases c33 : (t163.length : Int) > 1
                                    · rw [if_pos c33] at H
                                      have c33b0 : decide (1 < (t163.length : Int)) = true := decide_eq_true c33
                                      have c33b1 : decide (1 < t163.length) = true := decide_eq_true (by omega)
                                      clear c33
                                      obtain ⟨ji34, hji34⟩ : ∃ j_ : Int, (wrap64 ((t163.length : Int) - 2)) = j_ := ⟨_, rfl⟩
                                      replace H : (if 0 ≤ (ji34) then (if (ji34) < (t163.length : Int) then ((spec_among.f kj7 (rd t163 (ji34)) (([8, 7] : List Int))).bind fun t171 => (if t171 = true then (some false) else (spec_SentenceBreak.j1 kj7 l0 a1 (rd l0 a1) t163))) else (none)) else (none)) = some r := by first | (rw [hji34] at H; exact H) | (simp only [hji34] at H ⊢; exact H)
                                      have hji34w : (IntKind.i64.wrap ((t163.length : Int) - 2)) = ji34 := (i64_w _).trans hji34
                                      by_cases c35 : 0 ≤ (ji34)
                                      · rw [if_pos c35] at H
                                        have c35b0 : decide (0 ≤ (ji34)) = true := decide_eq_true c35
                                        clear c35
                                        by_cases c36 : (ji34) < (t163.length : Int)
                                        · rw [if_pos c36] at H
                                          have c36b0 : decide ((ji34) < (t163.length : Int)) = true := decide_eq_true c36
                                          clear c36
                                          obtain ⟨y168, hy168⟩ : ∃ y_ : List Int, y_ = (([8, 7] : List Int)) := ⟨_, rfl⟩
                                          replace H : ((spec_among.f kj7 (rd t163 (ji34)) y168).bind fun t171 => (if t171 = true then (some false) else (spec_SentenceBreak.j1 kj7 l0 a1 (rd l0 a1) t163))) = some r := by first | (rw [hy168]; with_reducible exact H) | (have H2_ := (Option.bind_some _ _).symm.trans H; rw [hy168]; with_reducible exact H2_) | (have H2_ := (Option.bind_some _ _).symm.trans H; with_reducible exact H2_) | with_reducible exact H | (rw [hy168]; exact H) | exact H
                                          have Ny168 := Aside0.mk hy168
                                          clear hy168
                                          replace H := Option.bind_eq_some_iff.mp H
                                          obtain ⟨t171, A370, H⟩ := H
                                          replace H : (if t171 = true then (some false) else (spec_SentenceBreak.j1 kj7 l0 a1 (rd l0 a1) t163)) = some r := H
                                          have A37 := Aside0.mk A370
                                          clear A370
                                          by_cases c38 : t171 = true
                                          · subst c38
                                            have H1 : (some false) = some r := by rw [if_pos rfl] at H; exact H
                                            clear H
                                            have H := H1
                                            clear H1
                                            obtain rfl := Option.some.inj H
                                            have p167 : 0 ≤ ((ji34) : Int) := of_decide_eq_true (by first | (with_reducible assumption) | assumption)
                                            have q167 : (ji34) < (t163.length : Int) := of_decide_eq_true (by first | (with_reducible assumption) | assumption)
                                            obtain ⟨ad167, e167, hx167_0⟩ := Kd.at_int (Kd.R_reads' HO165.out).2.2 (ji34) p167 q167
                                            obtain rfl : ad166 = ad167 := (by injection e167)
                                            replace p167 := eq_true p167
                                            replace q167 := eq_true q167
                                            go_wp2_with (first | ((with_reducible refine gate_dst (N := 59) rfl ?_); (try (refine gate_guard (by rfl) ?_; dsimp only)); refine Kd.R_lit (Kd.int .i64) _ 3 ?hg (N := 59) ?hd (xs := ([8, 7] : List Int)) (inner := [.int .i64 8, .int .i64 7]) (ok := fun _ => True) (okp := fun _ => True) ?hr ?hp (fun _ hk => hk) trivial (Below.refl _ _) (Nat.le_refl _) (by simp) ?_; (case hd => rfl); (case hg => rfl); (case hr => first | (go_simp; done) | (go_simp; rfl)); (case hp => exact (Reps.one (show Kd.M (Kd.int .i64) _ _ _ 8 [.int .i64 8] from rfl) (Reps.one (show Kd.M (Kd.int .i64) _ _ _ 7 [.int .i64 7] from rfl) (Reps.none _ _)))); intro v169 w39 ho40 hb hg_ hnew_; clear hg_ hnew_; (first | rw [← Ny168.out] at ho40 | (simp only [Int.reduceToNat] at ho40; rw [← Ny168.out] at ho40)); have n0_ := Aside0.mk (Kd.R_elder' (by (with_reducible repeat (first | apply Kd.R_alloc | apply Kd.R_drewN | apply Kd.R_drew)); exact HO165.out) (Kd.R_base ho40) hb); have n1_ := Aside0.mk (Kd.R_lower (Kd.R_new' ho40 (Kd.R_lt (by (with_reducible repeat (first | apply Kd.R_alloc | apply Kd.R_drewN | apply Kd.R_drew)); exact HO165.out))) (below_size (by repeat (first | (with_reducible first | exact HB.out | apply below_alloc | apply pw_below_drewN | apply below_drew1) | exact HB.out)))); have n2_ := Aside0.mk (below_step (by repeat (first | (with_reducible first | exact HB.out | apply below_alloc | apply pw_below_drewN | apply below_drew1) | exact HB.out)) hb); clear HO165; clear HB; have HO165 := n0_; have HO170 := n1_; have HB := n2_; clear n0_ n1_ n2_; clear hb ho40; obtain ⟨Ao41, co41, eo41⟩ := Kd.R_slice HO170.out; subst eo41) | (go_at_call 42; (with_reducible refine (spec_among.calls kj7 (rd t163 (ji34)) _ _ y168 true _ ?side1 ?side2 A37.out).mono ?_); (case side1 => repeat (first | exact (Kd.R_reads' HO170.out).2.2 | (with_reducible refine Kd.C_alloc ?_ _) | (with_reducible refine Kd.C_drewN ?_ _) | (with_reducible refine Kd.C_drew ?_))); (case side2 => exact (Kd.R_reads' HO170.out).2.1); rintro e w' ⟨rfl, ⟨nd, rfl⟩⟩; (try first | exact ⟨rfl, _, World.drewN_drewN _ _ _⟩ | exact ⟨rfl, _, Eq.trans (World.drewN_drewN _ _ _) (congrArg (World.drewN _) (Nat.add_assoc _ _ _))⟩)))
                                            repeat (go_quiet (first | ((with_reducible refine gate_dst (N := 59) rfl ?_); (try (refine gate_guard (by rfl) ?_; dsimp only)); refine Kd.R_lit (Kd.int .i64) _ 3 ?hg (N := 59) ?hd (xs := ([8, 7] : List Int)) (inner := [.int .i64 8, .int .i64 7]) (ok := fun _ => True) (okp := fun _ => True) ?hr ?hp (fun _ hk => hk) trivial (Below.refl _ _) (Nat.le_refl _) (by simp) ?_; (case hd => rfl); (case hg => rfl); (case hr => first | (go_simp; done) | (go_simp; rfl)); (case hp => exact (Reps.one (show Kd.M (Kd.int .i64) _ _ _ 8 [.int .i64 8] from rfl) (Reps.one (show Kd.M (Kd.int .i64) _ _ _ 7 [.int .i64 7] from rfl) (Reps.none _ _)))); intro v169 w39 ho40 hb hg_ hnew_; clear hg_ hnew_; (first | rw [← Ny168.out] at ho40 | (simp only [Int.reduceToNat] at ho40; rw [← Ny168.out] at ho40)); have n0_ := Aside0.mk (Kd.R_elder' (by (with_reducible repeat (first | apply Kd.R_alloc | apply Kd.R_drewN | apply Kd.R_drew)); exact HO165.out) (Kd.R_base ho40) hb); have n1_ := Aside0.mk (Kd.R_lower (Kd.R_new' ho40 (Kd.R_lt (by (with_reducible repeat (first | apply Kd.R_alloc | apply Kd.R_drewN | apply Kd.R_drew)); exact HO165.out))) (below_size (by repeat (first | (with_reducible first | exact HB.out | apply below_alloc | apply pw_below_drewN | apply below_drew1) | exact HB.out)))); have n2_ := Aside0.mk (below_step (by repeat (first | (with_reducible first | exact HB.out | apply below_alloc | apply pw_below_drewN | apply below_drew1) | exact HB.out)) hb); clear HO165; clear HB; have HO165 := n0_; have HO170 := n1_; have HB := n2_; clear n0_ n1_ n2_; clear hb ho40; obtain ⟨Ao41, co41, eo41⟩ := Kd.R_slice HO170.out; subst eo41) | (go_at_call 42; (with_reducible refine (spec_among.calls kj7 (rd t163 (ji34)) _ _ y168 true _ ?side1 ?side2 A37.out).mono ?_); (case side1 => repeat (first | exact (Kd.R_reads' HO170.out).2.2 | (with_reducible refine Kd.C_alloc ?_ _) | (with_reducible refine Kd.C_drewN ?_ _) | (with_reducible refine Kd.C_drew ?_))); (case side2 => exact (Kd.R_reads' HO170.out).2.1); rintro e w' ⟨rfl, ⟨nd, rfl⟩⟩; (try first | exact ⟨rfl, _, World.drewN_drewN _ _ _⟩ | exact ⟨rfl, _, Eq.trans (World.drewN_drewN _ _ _) (congrArg (World.drewN _) (Nat.add_assoc _ _ _))⟩))); try go_wp2_with (first | ((with_reducible refine gate_dst (N := 59) rfl ?_); (try (refine gate_guard (by rfl) ?_; dsimp only)); refine Kd.R_lit (Kd.int .i64) _ 3 ?hg (N := 59) ?hd (xs := ([8, 7] : List Int)) (inner := [.int .i64 8, .int .i64 7]) (ok := fun _ => True) (okp := fun _ => True) ?hr ?hp (fun _ hk => hk) trivial (Below.refl _ _) (Nat.le_refl _) (by simp) ?_; (case hd => rfl); (case hg => rfl); (case hr => first | (go_simp; done) | (go_simp; rfl)); (case hp => exact (Reps.one (show Kd.M (Kd.int .i64) _ _ _ 8 [.int .i64 8] from rfl) (Reps.one (show Kd.M (Kd.int .i64) _ _ _ 7 [.int .i64 7] from rfl) (Reps.none _ _)))); intro v169 w39 ho40 hb hg_ hnew_; clear hg_ hnew_; (first | rw [← Ny168.out] at ho40 | (simp only [Int.reduceToNat] at ho40; rw [← Ny168.out] at ho40)); have n0_ := Aside0.mk (Kd.R_elder' (by (with_reducible repeat (first | apply Kd.R_alloc | apply Kd.R_drewN | apply Kd.R_drew)); exact HO165.out) (Kd.R_base ho40) hb); have n1_ := Aside0.mk (Kd.R_lower (Kd.R_new' ho40 (Kd.R_lt (by (with_reducible repeat (first | apply Kd.R_alloc | apply Kd.R_drewN | apply Kd.R_drew)); exact HO165.out))) (below_size (by repeat (first | (with_reducible first | exact HB.out | apply below_alloc | apply pw_below_drewN | apply below_drew1) | exact HB.out)))); have n2_ := Aside0.mk (below_step (by repeat (first | (with_reducible first | exact HB.out | apply below_alloc | apply pw_below_drewN | apply below_drew1) | exact HB.out)) hb); clear HO165; clear HB; have HO165 := n0_; have HO170 := n1_; have HB := n2_; clear n0_ n1_ n2_; clear hb ho40; obtain ⟨Ao41, co41, eo41⟩ := Kd.R_slice HO170.out; subst eo41) | (go_at_call 42; (with_reducible refine (spec_among.calls kj7 (rd t163 (ji34)) _ _ y168 true _ ?side1 ?side2 A37.out).mono ?_); (case side1 => repeat (first | exact (Kd.R_reads' HO170.out).2.2 | (with_reducible refine Kd.C_alloc ?_ _) | (with_reducible refine Kd.C_drewN ?_ _) | (with_reducible refine Kd.C_drew ?_))); (case side2 => exact (Kd.R_reads' HO170.out).2.1); rintro e w' ⟨rfl, ⟨nd, rfl⟩⟩; (try first | exact ⟨rfl, _, World.drewN_drewN _ _ _⟩ | exact ⟨rfl, _, Eq.trans (World.drewN_drewN _ _ _) (congrArg (World.drewN _) (Nat.add_assoc _ _ _))⟩))))
                                            go_ret
                                            exact ⟨by first | rfl | (simp [errW_none, errW_some] <;> rfl) | (simp only [← hji3, ← hji21, ← hji34]; first | rfl | (simp [errW_none, errW_some] <;> rfl)) | (simp [*, errW_none, errW_some] <;> rfl), by repeat (first | (with_reducible first | exact HB.out | apply below_alloc | apply pw_below_drewN | apply below_drew1) | exact HB.out)⟩
                                          · replace c38 := Bool.eq_false_iff.mpr c38
                                            subst c38
                                            have H1 : (spec_SentenceBreak.j1 kj7 l0 a1 (rd l0 a1) t163) = some r := by rw [if_neg (show ¬ (false = true) by decide)] at H; exact H
                                            clear H
                                            have H := H1
                                            clear H1
                                            have H' := Aside0.mk H
                                            clear H
                                            have p167 : 0 ≤ ((ji34) : Int) := of_decide_eq_true (by first | (with_reducible assumption) | assumption)
                                            have q167 : (ji34) < (t163.length : Int) := of_decide_eq_true (by first | (with_reducible assumption) | assumption)
                                            obtain ⟨ad167, e167, hx167_0⟩ := Kd.at_int (Kd.R_reads' HO165.out).2.2 (ji34) p167 q167
                                            obtain rfl : ad166 = ad167 := (by injection e167)
                                            replace p167 := eq_true p167
                                            replace q167 := eq_true q167
                                            go_wp2_with (first | ((with_reducible refine gate_dst (N := 59) rfl ?_); (try (refine gate_guard (by rfl) ?_; dsimp only)); refine Kd.R_lit (Kd.int .i64) _ 3 ?hg (N := 59) ?hd (xs := ([8, 7] : List Int)) (inner := [.int .i64 8, .int .i64 7]) (ok := fun _ => True) (okp := fun _ => True) ?hr ?hp (fun _ hk => hk) trivial (Below.refl _ _) (Nat.le_refl _) (by simp) ?_; (case hd => rfl); (case hg => rfl); (case hr => first | (go_simp; done) | (go_simp; rfl)); (case hp => exact (Reps.one (show Kd.M (Kd.int .i64) _ _ _ 8 [.int .i64 8] from rfl) (Reps.one (show Kd.M (Kd.int .i64) _ _ _ 7 [.int .i64 7] from rfl) (Reps.none _ _)))); intro v169 w42 ho43 hb hg_ hnew_; clear hg_ hnew_; (first | rw [← Ny168.out] at ho43 | (simp only [Int.reduceToNat] at ho43; rw [← Ny168.out] at ho43)); have n0_ := Aside0.mk (Kd.R_elder' (by (with_reducible repeat (first | apply Kd.R_alloc | apply Kd.R_drewN | apply Kd.R_drew)); exact HO165.out) (Kd.R_base ho43) hb); have n1_ := Aside0.mk (Kd.R_lower (Kd.R_new' ho43 (Kd.R_lt (by (with_reducible repeat (first | apply Kd.R_alloc | apply Kd.R_drewN | apply Kd.R_drew)); exact HO165.out))) (below_size (by repeat (first | (with_reducible first | exact HB.out | apply below_alloc | apply pw_below_drewN | apply below_drew1) | exact HB.out)))); have n2_ := Aside0.mk (below_step (by repeat (first | (with_reducible first | exact HB.out | apply below_alloc | apply pw_below_drewN | apply below_drew1) | exact HB.out)) hb); clear HO165; clear HB; have HO165 := n0_; have HO170 := n1_; have HB := n2_; clear n0_ n1_ n2_; clear hb ho43; obtain ⟨Ao44, co44, eo44⟩ := Kd.R_slice HO170.out; subst eo44) | (go_at_call 42; (with_reducible refine (spec_among.calls kj7 (rd t163 (ji34)) _ _ y168 false _ ?side1 ?side2 A37.out).mono ?_); (case side1 => repeat (first | exact (Kd.R_reads' HO170.out).2.2 | (with_reducible refine Kd.C_alloc ?_ _) | (with_reducible refine Kd.C_drewN ?_ _) | (with_reducible refine Kd.C_drew ?_))); (case side2 => exact (Kd.R_reads' HO170.out).2.1); rintro e w' ⟨rfl, ⟨nd, rfl⟩⟩; (try first | exact ⟨rfl, _, World.drewN_drewN _ _ _⟩ | exact ⟨rfl, _, Eq.trans (World.drewN_drewN _ _ _) (congrArg (World.drewN _) (Nat.add_assoc _ _ _))⟩)))
                                            repeat (go_quiet (first | ((with_reducible refine gate_dst (N := 59) rfl ?_); (try (refine gate_guard (by rfl) ?_; dsimp only)); refine Kd.R_lit (Kd.int .i64) _ 3 ?hg (N := 59) ?hd (xs := ([8, 7] : List Int)) (inner := [.int .i64 8, .int .i64 7]) (ok := fun _ => True) (okp := fun _ => True) ?hr ?hp (fun _ hk => hk) trivial (Below.refl _ _) (Nat.le_refl _) (by simp) ?_; (case hd => rfl); (case hg => rfl); (case hr => first | (go_simp; done) | (go_simp; rfl)); (case hp => exact (Reps.one (show Kd.M (Kd.int .i64) _ _ _ 8 [.int .i64 8] from rfl) (Reps.one (show Kd.M (Kd.int .i64) _ _ _ 7 [.int .i64 7] from rfl) (Reps.none _ _)))); intro v169 w42 ho43 hb hg_ hnew_; clear hg_ hnew_; (first | rw [← Ny168.out] at ho43 | (simp only [Int.reduceToNat] at ho43; rw [← Ny168.out] at ho43)); have n0_ := Aside0.mk (Kd.R_elder' (by (with_reducible repeat (first | apply Kd.R_alloc | apply Kd.R_drewN | apply Kd.R_drew)); exact HO165.out) (Kd.R_base ho43) hb); have n1_ := Aside0.mk (Kd.R_lower (Kd.R_new' ho43 (Kd.R_lt (by (with_reducible repeat (first | apply Kd.R_alloc | apply Kd.R_drewN | apply Kd.R_drew)); exact HO165.out))) (below_size (by repeat (first | (with_reducible first | exact HB.out | apply below_alloc | apply pw_below_drewN | apply below_drew1) | exact HB.out)))); have n2_ := Aside0.mk (below_step (by repeat (first | (with_reducible first | exact HB.out | apply below_alloc | apply pw_below_drewN | apply below_drew1) | exact HB.out)) hb); clear HO165; clear HB; have HO165 := n0_; have HO170 := n1_; have HB := n2_; clear n0_ n1_ n2_; clear hb ho43; obtain ⟨Ao44, co44, eo44⟩ := Kd.R_slice HO170.out; subst eo44) | (go_at_call 42; (with_reducible refine (spec_among.calls kj7 (rd t163 (ji34)) _ _ y168 false _ ?side1 ?side2 A37.out).mono ?_); (case side1 => repeat (first | exact (Kd.R_reads' HO170.out).2.2 | (with_reducible refine Kd.C_alloc ?_ _) | (with_reducible refine Kd.C_drewN ?_ _) | (with_reducible refine Kd.C_drew ?_))); (case side2 => exact (Kd.R_reads' HO170.out).2.1); rintro e w' ⟨rfl, ⟨nd, rfl⟩⟩; (try first | exact ⟨rfl, _, World.drewN_drewN _ _ _⟩ | exact ⟨rfl, _, Eq.trans (World.drewN_drewN _ _ _) (congrArg (World.drewN _) (Nat.add_assoc _ _ _))⟩))); try go_wp2_with (first | ((with_reducible refine gate_dst (N := 59) rfl ?_); (try (refine gate_guard (by rfl) ?_; dsimp only)); refine Kd.R_lit (Kd.int .i64) _ 3 ?hg (N := 59) ?hd (xs := ([8, 7] : List Int)) (inner := [.int .i64 8, .int .i64 7]) (ok := fun _ => True) (okp := fun _ => True) ?hr ?hp (fun _ hk => hk) trivial (Below.refl _ _) (Nat.le_refl _) (by simp) ?_; (case hd => rfl); (case hg => rfl); (case hr => first | (go_simp; done) | (go_simp; rfl)); (case hp => exact (Reps.one (show Kd.M (Kd.int .i64) _ _ _ 8 [.int .i64 8] from rfl) (Reps.one (show Kd.M (Kd.int .i64) _ _ _ 7 [.int .i64 7] from rfl) (Reps.none _ _)))); intro v169 w42 ho43 hb hg_ hnew_; clear hg_ hnew_; (first | rw [← Ny168.out] at ho43 | (simp only [Int.reduceToNat] at ho43; rw [← Ny168.out] at ho43)); have n0_ := Aside0.mk (Kd.R_elder' (by (with_reducible repeat (first | apply Kd.R_alloc | apply Kd.R_drewN | apply Kd.R_drew)); exact HO165.out) (Kd.R_base ho43) hb); have n1_ := Aside0.mk (Kd.R_lower (Kd.R_new' ho43 (Kd.R_lt (by (with_reducible repeat (first | apply Kd.R_alloc | apply Kd.R_drewN | apply Kd.R_drew)); exact HO165.out))) (below_size (by repeat (first | (with_reducible first | exact HB.out | apply below_alloc | apply pw_below_drewN | apply below_drew1) | exact HB.out)))); have n2_ := Aside0.mk (below_step (by repeat (first | (with_reducible first | exact HB.out | apply below_alloc | apply pw_below_drewN | apply below_drew1) | exact HB.out)) hb); clear HO165; clear HB; have HO165 := n0_; have HO170 := n1_; have HB := n2_; clear n0_ n1_ n2_; clear hb ho43; obtain ⟨Ao44, co44, eo44⟩ := Kd.R_slice HO170.out; subst eo44) | (go_at_call 42; (with_reducible refine (spec_among.calls kj7 (rd t163 (ji34)) _ _ y168 false _ ?side1 ?side2 A37.out).mono ?_); (case side1 => repeat (first | exact (Kd.R_reads' HO170.out).2.2 | (with_reducible refine Kd.C_alloc ?_ _) | (with_reducible refine Kd.C_drewN ?_ _) | (with_reducible refine Kd.C_drew ?_))); (case side2 => exact (Kd.R_reads' HO170.out).2.1); rintro e w' ⟨rfl, ⟨nd, rfl⟩⟩; (try first | exact ⟨rfl, _, World.drewN_drewN _ _ _⟩ | exact ⟨rfl, _, Eq.trans (World.drewN_drewN _ _ _) (congrArg (World.drewN _) (Nat.add_assoc _ _ _))⟩))))
                                            go_meet
                                            case rel => exact ⟨_, H', ⟨by have := HJ7.out; first | omega | exact Nat.le_refl _⟩, ⟨by (with_reducible repeat (first | apply Kd.R_alloc | apply Kd.R_drewN | apply Kd.R_drew)); exact Kd.R_mono HO165.out (fun _ hk => trivial)⟩, ⟨by repeat (first | (with_reducible first | exact HB.out | apply below_alloc | apply pw_below_drewN | apply below_drew1) | exact HB.out)⟩⟩
                                        · rw [if_neg c36] at H
                                          exact absurd H (by simp)
                                      · rw [if_neg c35] at H
                                        exact absurd H (by simp)
                                    · rw [if_neg c33] at H
                                      have c33b0 : decide (1 < (t163.length : Int)) = false := decide_eq_false c33
                                      have c33b1 : decide (1 < t163.length) = false := decide_eq_false (by omega)
                                      clear c33
                                      have H' := Aside0.mk H
                                      clear H
                                      go_wp2
                                      repeat (go_quiet (fail); try go_wp2)
                                      go_meet
                                      case rel => exact ⟨_, H', ⟨by have := HJ7.out; first | omega | exact Nat.le_refl _⟩, ⟨by (with_reducible repeat (first | apply Kd.R_alloc | apply Kd.R_drewN | apply Kd.R_drew)); exact HO165.out⟩, ⟨by repeat (first | (with_reducible first | exact HB.out | apply below_alloc | apply pw_below_drewN | apply below_drew1) | exact HB.out)⟩⟩
                                  · rw [if_neg c32] at H
                                    have c32b0 : ((rd l0 a1) == 8) = false := beq_eq_false_iff_ne.mpr c32
                                    have c32b1 : ((rd l0 a1) != 8) = true := bne_iff_ne.mpr c32
                                    have H' := Aside0.mk H
                                    clear H
                                    go_wp2
                                    repeat (go_quiet (fail); try go_wp2)
                                    go_meet
                                    case rel => exact ⟨_, H', ⟨by have := HJ7.out; first | omega | exact Nat.le_refl _⟩, ⟨by (with_reducible repeat (first | apply Kd.R_alloc | apply Kd.R_drewN | apply Kd.R_drew)); exact HO165.out⟩, ⟨by repeat (first | (with_reducible first | exact HB.out | apply below_alloc | apply pw_below_drewN | apply below_drew1) | exact HB.out)⟩⟩
                              · rw [if_neg c30] at H
                                have c30b0 : ((rd t163 (ji21)) == 11) = false := beq_eq_false_iff_ne.mpr c30
                                have c30b1 : ((rd t163 (ji21)) != 11) = true := bne_iff_ne.mpr c30
                                (first | rw [c30b0] | (simp only [i64_w, i32_w]; rw [c30b0]) | skip)
                                have H' := Aside0.mk H
                                clear H
                                go_wp2
                                repeat (go_quiet (fail); try go_wp2)
                                go_meet
                                case rel => exact ⟨_, H', ⟨by have := HJ7.out; first | omega | exact Nat.le_refl _⟩, ⟨by (with_reducible repeat (first | apply Kd.R_alloc | apply Kd.R_drewN | apply Kd.R_drew)); exact HO165.out⟩, ⟨by repeat (first | (with_reducible first | exact HB.out | apply below_alloc | apply pw_below_drewN | apply below_drew1) | exact HB.out)⟩⟩
                            case rest =>
                              clear HC24
                              try clear c1
                              try clear p1
                              try clear q1
                              try clear hx1
                              try clear c2
                              try clear p2
                              try clear c3
                              try clear c4
                              try clear c4b0
                              try clear c5
                              try clear c5b0
                              try clear c6
                              try clear c6b0
                              try clear p6
                              try clear c7
                              try clear c7b0
                              try clear c9
                              try clear c9b0
                              try clear c9b1
                              try clear c10
                              try clear c12
                              try clear c15
                              try clear p15
                              try clear q15
                              try clear hx15
                              try clear c16
                              try clear p16
                              try clear q16
                              try clear hx16
                              try clear c18
                              try clear c18b0
                              try clear c18b1
                              try clear c19
                              try clear c19b0
                              try clear c19b1
                              try clear c22
                              try clear c22b0
                              try clear c23
                              try clear c23b0
                              try clear c30
                              try clear c30b0
                              try clear c30b1
                              try clear c31
                              try clear c31b0
                              try clear c31b1
                              try clear c32
                              try clear c32b0
                              try clear c32b1
                              try clear c33
                              try clear c33b0
                              try clear c33b1
                              try clear c35
                              try clear c35b0
                              try clear c36
                              try clear c36b0
                              try clear c38
                              try clear hx158_0
                              try clear hx159_0
                              try clear hx166_0
                              try clear hx167_0
                              try clear p1
                              try clear p158
                              try clear p159
                              try clear p166
                              try clear p167
                              try clear p2
                              try clear p6
                              try clear q1
                              try clear q158
                              try clear q159
                              try clear q166
                              try clear q167
                              obtain ⟨kq, HA, HJ23, HO_7, HB⟩ := hcut
                              cases kq with
                              | zero => exact absurd HA.out (by simp [spec_SentenceBreak.j1])
                              | succ kj23 =>
                                have H := HA.out
                                clear HA
                                simp only [spec_SentenceBreak.j1] at H
                                replace H := Option.bind_eq_some_iff.mp H
                                obtain ⟨t172, A450, H⟩ := H
                                replace H : (if t172 < 0 then (spec_SentenceBreak.j2 kj23 l0 a1 (rd l0 a1) t163 t172 true) else (if 0 ≤ t172 then (if t172 < (t163.length : Int) then ((spec_sbTerm.f kj23 (rd t163 t172)).bind fun t174 => (spec_SentenceBreak.j2 kj23 l0 a1 (rd l0 a1) t163 t172 (!t174))) else (none)) else (none))) = some r := H
                                have A45 := Aside0.mk A450
                                clear A450
                                have HC46 := Aside0.mk H
                                clear H
                                go_upto_region 16 with (first | (go_at_call 43; (with_reducible refine (spec_sbBehind.calls kj23 _ _ t163 true t172 _ ?side1 ?side2 A45.out).mono ?_); (case side1 => repeat (first | exact (Kd.R_reads' HO_7.out).2.2 | (with_reducible refine Kd.C_alloc ?_ _) | (with_reducible refine Kd.C_drewN ?_ _) | (with_reducible refine Kd.C_drew ?_))); (case side2 => exact (Kd.R_reads' HO_7.out).2.1); rintro e w47 ⟨rfl, hb⟩; have n0_ := Aside0.mk (Kd.R_below (by (with_reducible repeat (first | apply Kd.R_alloc | apply Kd.R_drewN | apply Kd.R_drew)); exact HO_7.out) hb); have n1_ := Aside0.mk (below_step (by repeat (first | (with_reducible first | exact HB.out | apply below_alloc | apply pw_below_drewN | apply below_drew1) | exact HB.out)) hb); clear HO_7; clear HB; have HO_7 := n0_; have HB := n1_; clear n0_ n1_; (try clear hb); (try clear hb2); (try clear hk); (try clear hi)))
                                repeat (go_quiet (first | (go_at_call 43; (with_reducible refine (spec_sbBehind.calls kj23 _ _ t163 true t172 _ ?side1 ?side2 A45.out).mono ?_); (case side1 => repeat (first | exact (Kd.R_reads' HO_7.out).2.2 | (with_reducible refine Kd.C_alloc ?_ _) | (with_reducible refine Kd.C_drewN ?_ _) | (with_reducible refine Kd.C_drew ?_))); (case side2 => exact (Kd.R_reads' HO_7.out).2.1); rintro e w47 ⟨rfl, hb⟩; have n0_ := Aside0.mk (Kd.R_below (by (with_reducible repeat (first | apply Kd.R_alloc | apply Kd.R_drewN | apply Kd.R_drew)); exact HO_7.out) hb); have n1_ := Aside0.mk (below_step (by repeat (first | (with_reducible first | exact HB.out | apply below_alloc | apply pw_below_drewN | apply below_drew1) | exact HB.out)) hb); clear HO_7; clear HB; have HO_7 := n0_; have HB := n1_; clear n0_ n1_; (try clear hb); (try clear hb2); (try clear hk); (try clear hi))); go_upto_region 16 with (first | (go_at_call 43; (with_reducible refine (spec_sbBehind.calls kj23 _ _ t163 true t172 _ ?side1 ?side2 A45.out).mono ?_); (case side1 => repeat (first | exact (Kd.R_reads' HO_7.out).2.2 | (with_reducible refine Kd.C_alloc ?_ _) | (with_reducible refine Kd.C_drewN ?_ _) | (with_reducible refine Kd.C_drew ?_))); (case side2 => exact (Kd.R_reads' HO_7.out).2.1); rintro e w47 ⟨rfl, hb⟩; have n0_ := Aside0.mk (Kd.R_below (by (with_reducible repeat (first | apply Kd.R_alloc | apply Kd.R_drewN | apply Kd.R_drew)); exact HO_7.out) hb); have n1_ := Aside0.mk (below_step (by repeat (first | (with_reducible first | exact HB.out | apply below_alloc | apply pw_below_drewN | apply below_drew1) | exact HB.out)) hb); clear HO_7; clear HB; have HO_7 := n0_; have HB := n1_; clear n0_ n1_; (try clear hb); (try clear hb2); (try clear hk); (try clear hi))))
                                (try simp only [Act.put, List.setIfInBounds_toArray, List.set_cons_zero, List.set_cons_succ])
                                go_cut [73] (fun v73 wc => ∃ (kq : Nat) (x73_45 : Bool), v73 = .bool x73_45 ∧ Aside0 (spec_SentenceBreak.j2 kq l0 a1 (rd l0 a1) t163 t172 x73_45 = some r) ∧ Aside0 (kq ≤ kj23) ∧ Aside0 (Kd.R (Kd.int .i64) 3 wc w.heap.size (fun _ => True) (.slice (some ad166) t163.length co29) t163) ∧ Aside0 (Below w.heap.size w wc))
                                case first =>
                                  have H := HC46.out
                                  clear HC46
                                  by_cases c48 : t172 < 0
                                  · rw [if_pos c48] at H
                                    have c48b0 : decide (t172 < 0) = true := decide_eq_true c48
                                    clear c48
                                    (first | rw [c48b0] | (simp only [i64_w, i32_w]; rw [c48b0]) | skip)
                                    have H' := Aside0.mk H
                                    clear H
                                    go_wp2
                                    repeat (go_quiet (fail); try go_wp2)
                                    go_meet
                                    case rel => exact ⟨_, (true), (by first | rfl | (simp; done) | (simp [*]; done)), H', ⟨by have := HJ7.out; have := HJ23.out; first | omega | exact Nat.le_refl _⟩, ⟨by (with_reducible repeat (first | apply Kd.R_alloc | apply Kd.R_drewN | apply Kd.R_drew)); exact HO_7.out⟩, ⟨by repeat (first | (with_reducible first | exact HB.out | apply below_alloc | apply pw_below_drewN | apply below_drew1) | exact HB.out)⟩⟩
                                  · rw [if_neg c48] at H
                                    have c48b0 : decide (t172 < 0) = false := decide_eq_false c48
                                    clear c48
                                    (first | rw [c48b0] | (simp only [i64_w, i32_w]; rw [c48b0]) | skip)
                                    by_cases c49 : 0 ≤ t172
                                    · rw [if_pos c49] at H
                                      have c49b0 : decide (0 ≤ t172) = true := decide_eq_true c49
                                      clear c49
                                      by_cases c50 : t172 < (t163.length : Int)
                                      · rw [if_pos c50] at H
                                        have c50b0 : decide (t172 < (t163.length : Int)) = true := decide_eq_true c50
                                        clear c50
                                        replace H := Option.bind_eq_some_iff.mp H
                                        obtain ⟨t174, A510, H⟩ := H
                                        replace H : (spec_SentenceBreak.j2 kj23 l0 a1 (rd l0 a1) t163 t172 (!t174)) = some r := H
                                        have A51 := Aside0.mk A510
                                        clear A510
                                        have H' := Aside0.mk H
                                        clear H
                                        have p173 : 0 ≤ (t172 : Int) := of_decide_eq_true (by first | (with_reducible assumption) | assumption)
                                        have q173 : t172 < (t163.length : Int) := of_decide_eq_true (by first | (with_reducible assumption) | assumption)
                                        obtain ⟨ad173, e173, hx173_0⟩ := Kd.at_int (Kd.R_reads' HO_7.out).2.2 t172 p173 q173
                                        obtain rfl : ad166 = ad173 := (by injection e173)
                                        replace p173 := eq_true p173
                                        replace q173 := eq_true q173
                                        go_wp2_with (first | (go_at_call 44; (with_reducible refine (spec_sbTerm.calls kj23 (rd t163 t172) t174 _ A51.out).mono ?_); rintro e w52 ⟨rfl, hb⟩; have n0_ := Aside0.mk (Kd.R_below (by (with_reducible repeat (first | apply Kd.R_alloc | apply Kd.R_drewN | apply Kd.R_drew)); exact HO_7.out) hb); have n1_ := Aside0.mk (below_step (by repeat (first | (with_reducible first | exact HB.out | apply below_alloc | apply pw_below_drewN | apply below_drew1) | exact HB.out)) hb); clear HO_7; clear HB; have HO_7 := n0_; have HB := n1_; clear n0_ n1_; (try clear hb); (try clear hb2); (try clear hk); (try clear hi)))
                                        repeat (go_quiet (first | (go_at_call 44; (with_reducible refine (spec_sbTerm.calls kj23 (rd t163 t172) t174 _ A51.out).mono ?_); rintro e w52 ⟨rfl, hb⟩; have n0_ := Aside0.mk (Kd.R_below (by (with_reducible repeat (first | apply Kd.R_alloc | apply Kd.R_drewN | apply Kd.R_drew)); exact HO_7.out) hb); have n1_ := Aside0.mk (below_step (by repeat (first | (with_reducible first | exact HB.out | apply below_alloc | apply pw_below_drewN | apply below_drew1) | exact HB.out)) hb); clear HO_7; clear HB; have HO_7 := n0_; have HB := n1_; clear n0_ n1_; (try clear hb); (try clear hb2); (try clear hk); (try clear hi))); try go_wp2_with (first | (go_at_call 44; (with_reducible refine (spec_sbTerm.calls kj23 (rd t163 t172) t174 _ A51.out).mono ?_); rintro e w52 ⟨rfl, hb⟩; have n0_ := Aside0.mk (Kd.R_below (by (with_reducible repeat (first | apply Kd.R_alloc | apply Kd.R_drewN | apply Kd.R_drew)); exact HO_7.out) hb); have n1_ := Aside0.mk (below_step (by repeat (first | (with_reducible first | exact HB.out | apply below_alloc | apply pw_below_drewN | apply below_drew1) | exact HB.out)) hb); clear HO_7; clear HB; have HO_7 := n0_; have HB := n1_; clear n0_ n1_; (try clear hb); (try clear hb2); (try clear hk); (try clear hi))))
                                        go_meet
                                        case rel => exact ⟨_, (!t174), (by first | rfl | (simp; done) | (simp [*]; done)), H', ⟨by have := HJ7.out; have := HJ23.out; first | omega | exact Nat.le_refl _⟩, ⟨by (with_reducible repeat (first | apply Kd.R_alloc | apply Kd.R_drewN | apply Kd.R_drew)); exact HO_7.out⟩, ⟨by repeat (first | (with_reducible first | exact HB.out | apply below_alloc | apply pw_below_drewN | apply below_drew1) | exact HB.out)⟩⟩
                                      · rw [if_neg c50] at H
                                        exact absurd H (by simp)
                                    · rw [if_neg c49] at H
                                      exact absurd H (by simp)
                                case rest =>
                                  clear HC46
                                  try clear c1
                                  try clear p1
                                  try clear q1
                                  try clear hx1
                                  try clear c2
                                  try clear p2
                                  try clear c3
                                  try clear c4
                                  try clear c4b0
                                  try clear c5
                                  try clear c5b0
                                  try clear c6
                                  try clear c6b0
                                  try clear p6
                                  try clear c7
                                  try clear c7b0
                                  try clear c9
                                  try clear c9b0
                                  try clear c9b1
                                  try clear c10
                                  try clear c12
                                  try clear c15
                                  try clear p15
                                  try clear q15
                                  try clear hx15
                                  try clear c16
                                  try clear p16
                                  try clear q16
                                  try clear hx16
                                  try clear p17
                                  try clear q17
                                  try clear hx17
                                  try clear c18
                                  try clear c18b0
                                  try clear c18b1
                                  try clear c19
                                  try clear c19b0
                                  try clear c19b1
                                  try clear c22
                                  try clear c22b0
                                  try clear c23
                                  try clear c23b0
                                  try clear c30
                                  try clear c30b0
                                  try clear c30b1
                                  try clear c31
                                  try clear c31b0
                                  try clear c31b1
                                  try clear c32
                                  try clear c32b0
                                  try clear c32b1
                                  try clear c33
                                  try clear c33b0
                                  try clear c33b1
                                  try clear c35
                                  try clear c35b0
                                  try clear c36
                                  try clear c36b0
                                  try clear c38
                                  try clear c48
                                  try clear c48b0
                                  try clear c49
                                  try clear c49b0
                                  try clear c50
                                  try clear c50b0
                                  try clear hx158_0
                                  try clear hx159_0
                                  try clear hx166_0
                                  try clear hx167_0
                                  try clear hx173_0
                                  try clear p1
                                  try clear p15
                                  try clear p158
                                  try clear p159
                                  try clear p16
                                  try clear p166
                                  try clear p167
                                  try clear p173
                                  try clear p2
                                  try clear p6
                                  try clear q1
                                  try clear q15
                                  try clear q158
                                  try clear q159
                                  try clear q16
                                  try clear q166
                                  try clear q167
                                  try clear q173
                                  obtain ⟨kq, x73_45, rfl, HA, HJ45, HO_7, HB⟩ := hcut
                                  cases kq with
                                  | zero => exact absurd HA.out (by simp [spec_SentenceBreak.j2])
                                  | succ kj45 =>
                                    have H := HA.out
                                    clear HA
                                    simp only [spec_SentenceBreak.j2] at H
                                    by_cases c53 : x73_45 = true
                                    · subst c53
                                      have H1 : (some false) = some r := by rw [if_pos rfl] at H; exact H
                                      clear H
                                      have H := H1
                                      clear H1
                                      obtain rfl := Option.some.inj H
                                      go_wp2
                                      repeat (go_quiet (fail); try go_wp2)
                                      go_ret
                                      exact ⟨by first | rfl | (simp [errW_none, errW_some] <;> rfl) | (simp only [← hji3, ← hji21]; first | rfl | (simp [errW_none, errW_some] <;> rfl)) | (simp [*, errW_none, errW_some] <;> rfl), by repeat (first | (with_reducible first | exact HB.out | apply below_alloc | apply pw_below_drewN | apply below_drew1) | exact HB.out)⟩
                                    · replace c53 := Bool.eq_false_iff.mpr c53
                                      subst c53
                                      have H1 : (if 0 ≤ t172 then (if t172 < (t163.length : Int) then (if (rd t163 t172) = 11 then (if 0 ≤ a1 then (if a1 ≤ (l0.length : Int) then ((spec_sbHeard.f kj45 (l0.drop (a1 : Int).toNat)).bind fun t177 => ((spec_sbLower.f kj45 t177).bind fun t180 => (spec_SentenceBreak.j3 kj45 (rd l0 a1) t163 t180))) else (none)) else (none)) else (spec_SentenceBreak.j3 kj45 (rd l0 a1) t163 false)) else (none)) else (none)) = some r := by rw [if_neg (show ¬ (false = true) by decide)] at H; exact H
                                      clear H
                                      have H := H1
                                      clear H1
                                      have HC54 := Aside0.mk H
                                      clear H
                                      go_upto_region 18 with (fail)
                                      repeat (go_quiet (fail); go_upto_region 18 with (fail))
                                      go_cut [85] (fun v85 wc => ∃ (kq : Nat) (x85_53 : Bool), v85 = .bool x85_53 ∧ Aside0 (spec_SentenceBreak.j3 kq (rd l0 a1) t163 x85_53 = some r) ∧ Aside0 (kq ≤ kj45) ∧ Aside0 (Kd.R (Kd.int .i64) 3 wc w.heap.size (fun _ => True) (.slice (some ad166) t163.length co29) t163) ∧ Aside0 (Below w.heap.size w wc))
                                      case first =>
                                        have H := HC54.out
                                        clear HC54
                                        by_cases c55 : 0 ≤ t172
                                        · rw [if_pos c55] at H
                                          have c55b0 : decide (0 ≤ t172) = true := decide_eq_true c55
                                          clear c55
                                          (first | rw [c55b0] | (simp only [i64_w, i32_w]; rw [c55b0]) | skip)
                                          by_cases c56 : t172 < (t163.length : Int)
                                          · rw [if_pos c56] at H
                                            have c56b0 : decide (t172 < (t163.length : Int)) = true := decide_eq_true c56
                                            clear c56
                                            by_cases c57 : (rd t163 t172) = 11
                                            · rw [if_pos c57] at H
                                              have c57b0 : ((rd t163 t172) == 11) = true := beq_iff_eq.mpr c57
                                              have c57b1 : ((rd t163 t172) != 11) = false := bne_eq_false_iff_eq.mpr c57
                                              clear c57
                                              by_cases c58 : 0 ≤ a1
                                              · rw [if_pos c58] at H
                                                have c58b0 := eq_true c58
                                                have c58b1 : decide (0 ≤ a1) = true := decide_eq_true c58
                                                clear c58
                                                by_cases c59 : a1 ≤ (l0.length : Int)
                                                · rw [if_pos c59] at H
                                                  have c59b0 := eq_true c59
                                                  have c59b1 : decide (a1 ≤ (l0.length : Int)) = true := decide_eq_true c59
                                                  clear c59
                                                  replace H := Option.bind_eq_some_iff.mp H
                                                  obtain ⟨t177, A600, H⟩ := H
                                                  replace H : ((spec_sbLower.f kj45 t177).bind fun t180 => (spec_SentenceBreak.j3 kj45 (rd l0 a1) t163 t180)) = some r := H
                                                  have A60 := Aside0.mk A600
                                                  clear A600
                                                  replace H := Option.bind_eq_some_iff.mp H
                                                  obtain ⟨t180, A610, H⟩ := H
                                                  replace H : (spec_SentenceBreak.j3 kj45 (rd l0 a1) t163 t180) = some r := H
                                                  have A61 := Aside0.mk A610
                                                  clear A610
                                                  have H' := Aside0.mk H
                                                  clear H
                                                  have p175 : 0 ≤ (t172 : Int) := of_decide_eq_true (by first | (with_reducible assumption) | assumption)
                                                  have q175 : t172 < (t163.length : Int) := of_decide_eq_true (by first | (with_reducible assumption) | assumption)
                                                  obtain ⟨ad175, e175, hx175_0⟩ := Kd.at_int (Kd.R_reads' HO_7.out).2.2 t172 p175 q175
                                                  obtain rfl : ad166 = ad175 := (by injection e175)
                                                  replace p175 := eq_true p175
                                                  replace q175 := eq_true q175
                                                  obtain ⟨i062, hi062, _, hsz62, _⟩ := info_parts info3
                                                  obtain ⟨A62, hcut62, hA62, hC62⟩ := print_drop_of (P := Try.prog) (Value.int .i64) 0 23 3 .i64 Try.underlying23 hi062 hsz62 (some ad158) c0 l0 a1 (of_decide_eq_true (by first | (with_reducible assumption) | assumption)) (of_decide_eq_true (by first | (with_reducible assumption) | assumption)) HC0.out
                                                  have HR176 := Aside0.mk (Kd.C_of_reads (h1 := fun _ => rfl) (hA62 _ (Kd.reads_of_C HR0.out)))
                                                  have HC176 := Aside0.mk hC62
                                                  clear hA62 hC62 hi062 hsz62
                                                  go_wp2_with (first | (go_at_call 41; rw [show l0.length - (a1 : Int).toNat = (l0.drop (a1 : Int).toNat).length from List.length_drop.symm]; (with_reducible refine (spec_sbHeard.calls kj45 _ _ (l0.drop (a1 : Int).toNat) t177 _ ?side1 ?side2 A60.out).mono ?_); (case side1 => repeat (first | exact (Kd.C_below HR176.out HB.out) | (with_reducible refine Kd.C_alloc ?_ _) | (with_reducible refine Kd.C_drewN ?_ _) | (with_reducible refine Kd.C_drew ?_))); (case side2 => exact HC176.out); rintro e w63 ⟨v178, rfl, ho0, hb⟩; have n0_ := Aside0.mk (Kd.R_elder' (by (with_reducible repeat (first | apply Kd.R_alloc | apply Kd.R_drewN | apply Kd.R_drew)); exact HO_7.out) (Kd.R_base ho0) hb); have n1_ := Aside0.mk (Kd.R_lower (Kd.R_new' ho0 (Kd.R_lt (by (with_reducible repeat (first | apply Kd.R_alloc | apply Kd.R_drewN | apply Kd.R_drew)); exact HO_7.out))) (below_size (by repeat (first | (with_reducible first | exact HB.out | apply below_alloc | apply pw_below_drewN | apply below_drew1) | exact HB.out)))); have n2_ := Aside0.mk (below_step (by repeat (first | (with_reducible first | exact HB.out | apply below_alloc | apply pw_below_drewN | apply below_drew1) | exact HB.out)) hb); clear HO_7; clear HB; have HO_7 := n0_; have HO179 := n1_; have HB := n2_; clear n0_ n1_ n2_; (try clear hb); (try clear hb2); (try clear hk); (try clear hi); (try clear ho0); obtain ⟨Ao64, co64, eo64⟩ := Kd.R_slice HO179.out; subst eo64) | (go_at_call 45; (with_reducible refine (spec_sbLower.calls kj45 _ _ t177 t180 _ ?side1 ?side2 A61.out).mono ?_); (case side1 => repeat (first | exact (Kd.R_reads' HO179.out).2.2 | (with_reducible refine Kd.C_alloc ?_ _) | (with_reducible refine Kd.C_drewN ?_ _) | (with_reducible refine Kd.C_drew ?_))); (case side2 => exact (Kd.R_reads' HO179.out).2.1); rintro e w65 ⟨rfl, hb⟩; have n0_ := Aside0.mk (Kd.R_below (by (with_reducible repeat (first | apply Kd.R_alloc | apply Kd.R_drewN | apply Kd.R_drew)); exact HO_7.out) hb); have n1_ := Aside0.mk (Kd.R_below (by (with_reducible repeat (first | apply Kd.R_alloc | apply Kd.R_drewN | apply Kd.R_drew)); exact HO179.out) hb); have n2_ := Aside0.mk (below_step (by repeat (first | (with_reducible first | exact HB.out | apply below_alloc | apply pw_below_drewN | apply below_drew1) | exact HB.out)) hb); clear HO_7; clear HO179; clear HB; have HO_7 := n0_; have HO179 := n1_; have HB := n2_; clear n0_ n1_ n2_; (try clear hb); (try clear hb2); (try clear hk); (try clear hi)))
                                                  repeat (go_quiet (first | (go_at_call 41; rw [show l0.length - (a1 : Int).toNat = (l0.drop (a1 : Int).toNat).length from List.length_drop.symm]; (with_reducible refine (spec_sbHeard.calls kj45 _ _ (l0.drop (a1 : Int).toNat) t177 _ ?side1 ?side2 A60.out).mono ?_); (case side1 => repeat (first | exact (Kd.C_below HR176.out HB.out) | (with_reducible refine Kd.C_alloc ?_ _) | (with_reducible refine Kd.C_drewN ?_ _) | (with_reducible refine Kd.C_drew ?_))); (case side2 => exact HC176.out); rintro e w63 ⟨v178, rfl, ho0, hb⟩; have n0_ := Aside0.mk (Kd.R_elder' (by (with_reducible repeat (first | apply Kd.R_alloc | apply Kd.R_drewN | apply Kd.R_drew)); exact HO_7.out) (Kd.R_base ho0) hb); have n1_ := Aside0.mk (Kd.R_lower (Kd.R_new' ho0 (Kd.R_lt (by (with_reducible repeat (first | apply Kd.R_alloc | apply Kd.R_drewN | apply Kd.R_drew)); exact HO_7.out))) (below_size (by repeat (first | (with_reducible first | exact HB.out | apply below_alloc | apply pw_below_drewN | apply below_drew1) | exact HB.out)))); have n2_ := Aside0.mk (below_step (by repeat (first | (with_reducible first | exact HB.out | apply below_alloc | apply pw_below_drewN | apply below_drew1) | exact HB.out)) hb); clear HO_7; clear HB; have HO_7 := n0_; have HO179 := n1_; have HB := n2_; clear n0_ n1_ n2_; (try clear hb); (try clear hb2); (try clear hk); (try clear hi); (try clear ho0); obtain ⟨Ao64, co64, eo64⟩ := Kd.R_slice HO179.out; subst eo64) | (go_at_call 45; (with_reducible refine (spec_sbLower.calls kj45 _ _ t177 t180 _ ?side1 ?side2 A61.out).mono ?_); (case side1 => repeat (first | exact (Kd.R_reads' HO179.out).2.2 | (with_reducible refine Kd.C_alloc ?_ _) | (with_reducible refine Kd.C_drewN ?_ _) | (with_reducible refine Kd.C_drew ?_))); (case side2 => exact (Kd.R_reads' HO179.out).2.1); rintro e w65 ⟨rfl, hb⟩; have n0_ := Aside0.mk (Kd.R_below (by (with_reducible repeat (first | apply Kd.R_alloc | apply Kd.R_drewN | apply Kd.R_drew)); exact HO_7.out) hb); have n1_ := Aside0.mk (Kd.R_below (by (with_reducible repeat (first | apply Kd.R_alloc | apply Kd.R_drewN | apply Kd.R_drew)); exact HO179.out) hb); have n2_ := Aside0.mk (below_step (by repeat (first | (with_reducible first | exact HB.out | apply below_alloc | apply pw_below_drewN | apply below_drew1) | exact HB.out)) hb); clear HO_7; clear HO179; clear HB; have HO_7 := n0_; have HO179 := n1_; have HB := n2_; clear n0_ n1_ n2_; (try clear hb); (try clear hb2); (try clear hk); (try clear hi))); try go_wp2_with (first | (go_at_call 41; rw [show l0.length - (a1 : Int).toNat = (l0.drop (a1 : Int).toNat).length from List.length_drop.symm]; (with_reducible refine (spec_sbHeard.calls kj45 _ _ (l0.drop (a1 : Int).toNat) t177 _ ?side1 ?side2 A60.out).mono ?_); (case side1 => repeat (first | exact (Kd.C_below HR176.out HB.out) | (with_reducible refine Kd.C_alloc ?_ _) | (with_reducible refine Kd.C_drewN ?_ _) | (with_reducible refine Kd.C_drew ?_))); (case side2 => exact HC176.out); rintro e w63 ⟨v178, rfl, ho0, hb⟩; have n0_ := Aside0.mk (Kd.R_elder' (by (with_reducible repeat (first | apply Kd.R_alloc | apply Kd.R_drewN | apply Kd.R_drew)); exact HO_7.out) (Kd.R_base ho0) hb); have n1_ := Aside0.mk (Kd.R_lower (Kd.R_new' ho0 (Kd.R_lt (by (with_reducible repeat (first | apply Kd.R_alloc | apply Kd.R_drewN | apply Kd.R_drew)); exact HO_7.out))) (below_size (by repeat (first | (with_reducible first | exact HB.out | apply below_alloc | apply pw_below_drewN | apply below_drew1) | exact HB.out)))); have n2_ := Aside0.mk (below_step (by repeat (first | (with_reducible first | exact HB.out | apply below_alloc | apply pw_below_drewN | apply below_drew1) | exact HB.out)) hb); clear HO_7; clear HB; have HO_7 := n0_; have HO179 := n1_; have HB := n2_; clear n0_ n1_ n2_; (try clear hb); (try clear hb2); (try clear hk); (try clear hi); (try clear ho0); obtain ⟨Ao64, co64, eo64⟩ := Kd.R_slice HO179.out; subst eo64) | (go_at_call 45; (with_reducible refine (spec_sbLower.calls kj45 _ _ t177 t180 _ ?side1 ?side2 A61.out).mono ?_); (case side1 => repeat (first | exact (Kd.R_reads' HO179.out).2.2 | (with_reducible refine Kd.C_alloc ?_ _) | (with_reducible refine Kd.C_drewN ?_ _) | (with_reducible refine Kd.C_drew ?_))); (case side2 => exact (Kd.R_reads' HO179.out).2.1); rintro e w65 ⟨rfl, hb⟩; have n0_ := Aside0.mk (Kd.R_below (by (with_reducible repeat (first | apply Kd.R_alloc | apply Kd.R_drewN | apply Kd.R_drew)); exact HO_7.out) hb); have n1_ := Aside0.mk (Kd.R_below (by (with_reducible repeat (first | apply Kd.R_alloc | apply Kd.R_drewN | apply Kd.R_drew)); exact HO179.out) hb); have n2_ := Aside0.mk (below_step (by repeat (first | (with_reducible first | exact HB.out | apply below_alloc | apply pw_below_drewN | apply below_drew1) | exact HB.out)) hb); clear HO_7; clear HO179; clear HB; have HO_7 := n0_; have HO179 := n1_; have HB := n2_; clear n0_ n1_ n2_; (try clear hb); (try clear hb2); (try clear hk); (try clear hi))))
                                                  go_meet
                                                  case rel => exact ⟨_, (t180), (by first | rfl | (simp; done) | (simp [*]; done)), H', ⟨by have := HJ7.out; have := HJ23.out; have := HJ45.out; first | omega | exact Nat.le_refl _⟩, ⟨by (with_reducible repeat (first | apply Kd.R_alloc | apply Kd.R_drewN | apply Kd.R_drew)); exact Kd.R_mono HO_7.out (fun _ hk => trivial)⟩, ⟨by repeat (first | (with_reducible first | exact HB.out | apply below_alloc | apply pw_below_drewN | apply below_drew1) | exact HB.out)⟩⟩
                                                · rw [if_neg c59] at H
                                                  exact absurd H (by simp)
                                              · rw [if_neg c58] at H
                                                exact absurd H (by simp)
                                            · rw [if_neg c57] at H
                                              have c57b0 : ((rd t163 t172) == 11) = false := beq_eq_false_iff_ne.mpr c57
                                              have c57b1 : ((rd t163 t172) != 11) = true := bne_iff_ne.mpr c57
                                              have H' := Aside0.mk H
                                              clear H
                                              have p175 : 0 ≤ (t172 : Int) := of_decide_eq_true (by first | (with_reducible assumption) | assumption)
                                              have q175 : t172 < (t163.length : Int) := of_decide_eq_true (by first | (with_reducible assumption) | assumption)
                                              obtain ⟨ad175, e175, hx175_0⟩ := Kd.at_int (Kd.R_reads' HO_7.out).2.2 t172 p175 q175
                                              obtain rfl : ad166 = ad175 := (by injection e175)
                                              replace p175 := eq_true p175
                                              replace q175 := eq_true q175
                                              go_wp2
                                              repeat (go_quiet (fail); try go_wp2)
                                              go_meet
                                              case rel => exact ⟨_, (false), (by first | rfl | (simp; done) | (simp [*]; done)), H', ⟨by have := HJ7.out; have := HJ23.out; have := HJ45.out; first | omega | exact Nat.le_refl _⟩, ⟨by (with_reducible repeat (first | apply Kd.R_alloc | apply Kd.R_drewN | apply Kd.R_drew)); exact HO_7.out⟩, ⟨by repeat (first | (with_reducible first | exact HB.out | apply below_alloc | apply pw_below_drewN | apply below_drew1) | exact HB.out)⟩⟩
                                          · rw [if_neg c56] at H
                                            exact absurd H (by simp)
                                        · rw [if_neg c55] at H
                                          exact absurd H (by simp)
                                      case rest =>
                                        clear HC54
                                        try clear c1
                                        try clear p1
                                        try clear q1
                                        try clear hx1
                                        try clear c2
                                        try clear p2
                                        try clear c3
                                        try clear c4
                                        try clear c4b0
                                        try clear c5
                                        try clear c5b0
                                        try clear c6
                                        try clear c6b0
                                        try clear p6
                                        try clear c7
                                        try clear c7b0
                                        try clear c9
                                        try clear c9b0
                                        try clear c9b1
                                        try clear c10
                                        try clear c12
                                        try clear c15
                                        try clear p15
                                        try clear q15
                                        try clear hx15
                                        try clear c16
                                        try clear p16
                                        try clear q16
                                        try clear hx16
                                        try clear p17
                                        try clear q17
                                        try clear hx17
                                        try clear c18
                                        try clear c18b0
                                        try clear c18b1
                                        try clear c19
                                        try clear c19b0
                                        try clear c19b1
                                        try clear c22
                                        try clear c22b0
                                        try clear c23
                                        try clear c23b0
                                        try clear c30
                                        try clear c30b0
                                        try clear c30b1
                                        try clear c31
                                        try clear c31b0
                                        try clear c31b1
                                        try clear c32
                                        try clear c32b0
                                        try clear c32b1
                                        try clear c33
                                        try clear c33b0
                                        try clear c33b1
                                        try clear c35
                                        try clear c35b0
                                        try clear c36
                                        try clear c36b0
                                        try clear c38
                                        try clear c48
                                        try clear c48b0
                                        try clear c49
                                        try clear c49b0
                                        try clear c50
                                        try clear c50b0
                                        try clear c53
                                        try clear c55
                                        try clear c55b0
                                        try clear c56
                                        try clear c56b0
                                        try clear c57
                                        try clear c57b0
                                        try clear c57b1
                                        try clear c58
                                        try clear c58b0
                                        try clear c58b1
                                        try clear c59
                                        try clear c59b0
                                        try clear c59b1
                                        try clear p64
                                        try clear hx158_0
                                        try clear hx159_0
                                        try clear hx166_0
                                        try clear hx167_0
                                        try clear hx173_0
                                        try clear hx175_0
                                        try clear p1
                                        try clear p15
                                        try clear p158
                                        try clear p159
                                        try clear p16
                                        try clear p166
                                        try clear p167
                                        try clear p17
                                        try clear p173
                                        try clear p175
                                        try clear p2
                                        try clear p6
                                        try clear q1
                                        try clear q15
                                        try clear q158
                                        try clear q159
                                        try clear q16
                                        try clear q166
                                        try clear q167
                                        try clear q17
                                        try clear q173
                                        try clear q175
                                        obtain ⟨kq, x85_53, rfl, HA, HJ53, HO_7, HB⟩ := hcut
                                        cases kq with
                                        | zero => exact absurd HA.out (by simp [spec_SentenceBreak.j3])
                                        | succ kj53 =>
                                          have H := HA.out
                                          clear HA
                                          simp only [spec_SentenceBreak.j3] at H
                                          by_cases c66 : x85_53 = true
                                          · subst c66
                                            have H1 : (some false) = some r := by rw [if_pos rfl] at H; exact H
                                            clear H
                                            have H := H1
                                            clear H1
                                            obtain rfl := Option.some.inj H
                                            go_wp2
                                            repeat (go_quiet (fail); try go_wp2)
                                            go_ret
                                            exact ⟨by first | rfl | (simp [errW_none, errW_some] <;> rfl) | (simp only [← hji3, ← hji21]; first | rfl | (simp [errW_none, errW_some] <;> rfl)) | (simp [*, errW_none, errW_some] <;> rfl), by repeat (first | (with_reducible first | exact HB.out | apply below_alloc | apply pw_below_drewN | apply below_drew1) | exact HB.out)⟩
                                          · replace c66 := Bool.eq_false_iff.mpr c66
                                            subst c66
                                            have H1 : (if (rd l0 a1) = 14 then (spec_SentenceBreak.j4 kj53 (rd l0 a1) t163 true) else ((spec_sbTerm.f kj53 (rd l0 a1)).bind fun t181 => (spec_SentenceBreak.j4 kj53 (rd l0 a1) t163 t181))) = some r := by rw [if_neg (show ¬ (false = true) by decide)] at H; exact H
                                            clear H
                                            have H := H1
                                            clear H1
                                            have HC67 := Aside0.mk H
                                            clear H
                                            go_upto_region 20 with (fail)
                                            repeat (go_quiet (fail); go_upto_region 20 with (fail))
                                            go_cut [91] (fun v91 wc => ∃ (kq : Nat) (x91_66 : Bool), v91 = .bool x91_66 ∧ Aside0 (spec_SentenceBreak.j4 kq (rd l0 a1) t163 x91_66 = some r) ∧ Aside0 (kq ≤ kj53) ∧ Aside0 (Kd.R (Kd.int .i64) 3 wc w.heap.size (fun _ => True) (.slice (some ad166) t163.length co29) t163) ∧ Aside0 (Below w.heap.size w wc))
                                            case first =>
                                              have H := HC67.out
                                              clear HC67
                                              by_cases c68 : (rd l0 a1) = 14
                                              · rw [if_pos c68] at H
                                                have c68b0 : ((rd l0 a1) == 14) = true := beq_iff_eq.mpr c68
                                                have c68b1 : ((rd l0 a1) != 14) = false := bne_eq_false_iff_eq.mpr c68
                                                clear c68
                                                (first | rw [c68b0] | (simp only [i64_w, i32_w]; rw [c68b0]) | skip)
                                                have H' := Aside0.mk H
                                                clear H
                                                go_wp2
                                                repeat (go_quiet (fail); try go_wp2)
                                                go_meet
                                                case rel => exact ⟨_, (true), (by first | rfl | (simp; done) | (simp [*]; done)), H', ⟨by have := HJ7.out; have := HJ23.out; have := HJ45.out; have := HJ53.out; first | omega | exact Nat.le_refl _⟩, ⟨by (with_reducible repeat (first | apply Kd.R_alloc | apply Kd.R_drewN | apply Kd.R_drew)); exact HO_7.out⟩, ⟨by repeat (first | (with_reducible first | exact HB.out | apply below_alloc | apply pw_below_drewN | apply below_drew1) | exact HB.out)⟩⟩
                                              · rw [if_neg c68] at H
                                                have c68b0 : ((rd l0 a1) == 14) = false := beq_eq_false_iff_ne.mpr c68
                                                have c68b1 : ((rd l0 a1) != 14) = true := bne_iff_ne.mpr c68
                                                (first | rw [c68b0] | (simp only [i64_w, i32_w]; rw [c68b0]) | skip)
                                                replace H := Option.bind_eq_some_iff.mp H
                                                obtain ⟨t181, A690, H⟩ := H
                                                replace H : (spec_SentenceBreak.j4 kj53 (rd l0 a1) t163 t181) = some r := H
                                                have A69 := Aside0.mk A690
                                                clear A690
                                                have H' := Aside0.mk H
                                                clear H
                                                go_wp2_with (first | (go_at_call 44; (with_reducible refine (spec_sbTerm.calls kj53 (rd l0 a1) t181 _ A69.out).mono ?_); rintro e w70 ⟨rfl, hb⟩; have n0_ := Aside0.mk (Kd.R_below (by (with_reducible repeat (first | apply Kd.R_alloc | apply Kd.R_drewN | apply Kd.R_drew)); exact HO_7.out) hb); have n1_ := Aside0.mk (below_step (by repeat (first | (with_reducible first | exact HB.out | apply below_alloc | apply pw_below_drewN | apply below_drew1) | exact HB.out)) hb); clear HO_7; clear HB; have HO_7 := n0_; have HB := n1_; clear n0_ n1_; (try clear hb); (try clear hb2); (try clear hk); (try clear hi)))
                                                repeat (go_quiet (first | (go_at_call 44; (with_reducible refine (spec_sbTerm.calls kj53 (rd l0 a1) t181 _ A69.out).mono ?_); rintro e w70 ⟨rfl, hb⟩; have n0_ := Aside0.mk (Kd.R_below (by (with_reducible repeat (first | apply Kd.R_alloc | apply Kd.R_drewN | apply Kd.R_drew)); exact HO_7.out) hb); have n1_ := Aside0.mk (below_step (by repeat (first | (with_reducible first | exact HB.out | apply below_alloc | apply pw_below_drewN | apply below_drew1) | exact HB.out)) hb); clear HO_7; clear HB; have HO_7 := n0_; have HB := n1_; clear n0_ n1_; (try clear hb); (try clear hb2); (try clear hk); (try clear hi))); try go_wp2_with (first | (go_at_call 44; (with_reducible refine (spec_sbTerm.calls kj53 (rd l0 a1) t181 _ A69.out).mono ?_); rintro e w70 ⟨rfl, hb⟩; have n0_ := Aside0.mk (Kd.R_below (by (with_reducible repeat (first | apply Kd.R_alloc | apply Kd.R_drewN | apply Kd.R_drew)); exact HO_7.out) hb); have n1_ := Aside0.mk (below_step (by repeat (first | (with_reducible first | exact HB.out | apply below_alloc | apply pw_below_drewN | apply below_drew1) | exact HB.out)) hb); clear HO_7; clear HB; have HO_7 := n0_; have HB := n1_; clear n0_ n1_; (try clear hb); (try clear hb2); (try clear hk); (try clear hi))))
                                                go_meet
                                                case rel => exact ⟨_, (t181), (by first | rfl | (simp; done) | (simp [*]; done)), H', ⟨by have := HJ7.out; have := HJ23.out; have := HJ45.out; have := HJ53.out; first | omega | exact Nat.le_refl _⟩, ⟨by (with_reducible repeat (first | apply Kd.R_alloc | apply Kd.R_drewN | apply Kd.R_drew)); exact HO_7.out⟩, ⟨by repeat (first | (with_reducible first | exact HB.out | apply below_alloc | apply pw_below_drewN | apply below_drew1) | exact HB.out)⟩⟩
                                            case rest =>
                                              clear HC67
                                              try clear c1
                                              try clear p1
                                              try clear q1
                                              try clear hx1
                                              try clear c2
                                              try clear p2
                                              try clear c3
                                              try clear c4
                                              try clear c4b0
                                              try clear c5
                                              try clear c5b0
                                              try clear c6
                                              try clear c6b0
                                              try clear p6
                                              try clear c7
                                              try clear c7b0
                                              try clear c9
                                              try clear c9b0
                                              try clear c9b1
                                              try clear c10
                                              try clear c12
                                              try clear c15
                                              try clear p15
                                              try clear q15
                                              try clear hx15
                                              try clear c16
                                              try clear p16
                                              try clear q16
                                              try clear hx16
                                              try clear p17
                                              try clear q17
                                              try clear hx17
                                              try clear c18
                                              try clear c18b0
                                              try clear c18b1
                                              try clear c19
                                              try clear c19b0
                                              try clear c19b1
                                              try clear c22
                                              try clear c22b0
                                              try clear c23
                                              try clear c23b0
                                              try clear c30
                                              try clear c30b0
                                              try clear c30b1
                                              try clear c31
                                              try clear c31b0
                                              try clear c31b1
                                              try clear c32
                                              try clear c32b0
                                              try clear c32b1
                                              try clear c33
                                              try clear c33b0
                                              try clear c33b1
                                              try clear c35
                                              try clear c35b0
                                              try clear c36
                                              try clear c36b0
                                              try clear c38
                                              try clear c48
                                              try clear c48b0
                                              try clear c49
                                              try clear c49b0
                                              try clear c50
                                              try clear c50b0
                                              try clear c53
                                              try clear c55
                                              try clear c55b0
                                              try clear c56
                                              try clear c56b0
                                              try clear c57
                                              try clear c57b0
                                              try clear c57b1
                                              try clear c58
                                              try clear c58b0
                                              try clear c58b1
                                              try clear c59
                                              try clear c59b0
                                              try clear c59b1
                                              try clear p64
                                              try clear c66
                                              try clear c68
                                              try clear c68b0
                                              try clear c68b1
                                              try clear hx158_0
                                              try clear hx159_0
                                              try clear hx166_0
                                              try clear hx167_0
                                              try clear hx173_0
                                              try clear hx175_0
                                              try clear p1
                                              try clear p15
                                              try clear p158
                                              try clear p159
                                              try clear p16
                                              try clear p166
                                              try clear p167
                                              try clear p17
                                              try clear p173
                                              try clear p175
                                              try clear p2
                                              try clear p6
                                              try clear p64
                                              try clear q1
                                              try clear q15
                                              try clear q158
                                              try clear q159
                                              try clear q16
                                              try clear q166
                                              try clear q167
                                              try clear q17
                                              try clear q173
                                              try clear q175
                                              obtain ⟨kq, x91_66, rfl, HA, HJ66, HO_7, HB⟩ := hcut
                                              cases kq with
                                              | zero => exact absurd HA.out (by simp [spec_SentenceBreak.j4])
                                              | succ kj66 =>
                                                have H := HA.out
                                                clear HA
                                                simp only [spec_SentenceBreak.j4] at H
                                                by_cases c71 : x91_66 = true
                                                · subst c71
                                                  have H1 : (some false) = some r := by rw [if_pos rfl] at H; exact H
                                                  clear H
                                                  have H := H1
                                                  clear H1
                                                  obtain rfl := Option.some.inj H
                                                  go_wp2
                                                  repeat (go_quiet (fail); try go_wp2)
                                                  go_ret
                                                  exact ⟨by first | rfl | (simp [errW_none, errW_some] <;> rfl) | (simp only [← hji3, ← hji21]; first | rfl | (simp [errW_none, errW_some] <;> rfl)) | (simp [*, errW_none, errW_some] <;> rfl), by repeat (first | (with_reducible first | exact HB.out | apply below_alloc | apply pw_below_drewN | apply below_drew1) | exact HB.out)⟩
                                                · replace c71 := Bool.eq_false_iff.mpr c71
                                                  subst c71
                                                  have H1 : ((spec_sbBehind.f kj66 t163 false).bind fun t182 => (if t182 ≥ 0 then (if 0 ≤ t182 then (if t182 < (t163.length : Int) then ((spec_sbTerm.f kj66 (rd t163 t182)).bind fun t184 => (if t184 = true then ((spec_among.f kj66 (rd l0 a1) (([13, 6] : List Int))).bind fun t188 => (if t188 = true then (some false) else ((spec_sbSep.f kj66 (rd l0 a1)).bind fun t189 => (if t189 = true then (some false) else (if (rd l0 a1) = 6 then (some false) else ((spec_sbSep.f kj66 (rd l0 a1)).bind fun t190 => (some (!t190)))))))) else (if (rd l0 a1) = 6 then (some false) else ((spec_sbSep.f kj66 (rd l0 a1)).bind fun t191 => (some (!t191)))))) else (none)) else (none)) else (if (rd l0 a1) = 6 then (some false) else ((spec_sbSep.f kj66 (rd l0 a1)).bind fun t192 => (some (!t192)))))) = some r := by rw [if_neg (show ¬ (false = true) by decide)] at H; exact H
                                                  clear H
                                                  have H := H1
                                                  clear H1
                                                  replace H := Option.bind_eq_some_iff.mp H
                                                  obtain ⟨t182, A720, H⟩ := H
                                                  replace H : (if t182 ≥ 0 then (if 0 ≤ t182 then (if t182 < (t163.length : Int) then ((spec_sbTerm.f kj66 (rd t163 t182)).bind fun t184 => (if t184 = true then ((spec_among.f kj66 (rd l0 a1) (([13, 6] : List Int))).bind fun t188 => (if t188 = true then (some false) else ((spec_sbSep.f kj66 (rd l0 a1)).bind fun t189 => (if t189 = true then (some false) else (if (rd l0 a1) = 6 then (some false) else ((spec_sbSep.f kj66 (rd l0 a1)).bind fun t190 => (some (!t190)))))))) else (if (rd l0 a1) = 6 then (some false) else ((spec_sbSep.f kj66 (rd l0 a1)).bind fun t191 => (some (!t191)))))) else (none)) else (none)) else (if (rd l0 a1) = 6 then (some false) else ((spec_sbSep.f kj66 (rd l0 a1)).bind fun t192 => (some (!t192))))) = some r := H
                                                  have A72 := Aside0.mk A720
                                                  clear A720
                                                  by_cases c73 : t182 ≥ 0
                                                  · rw [if_pos c73] at H
                                                    have c73b0 : decide (0 ≤ t182) = true := decide_eq_true c73
                                                    clear c73
                                                    by_cases c74 : 0 ≤ t182
                                                    · rw [if_pos c74] at H
                                                      have c74b0 : decide (0 ≤ t182) = true := decide_eq_true c74
                                                      clear c74
                                                      by_cases c75 : t182 < (t163.length : Int)
                                                      · rw [if_pos c75] at H
                                                        have c75b0 : decide (t182 < (t163.length : Int)) = true := decide_eq_true c75
                                                        clear c75
                                                        replace H := Option.bind_eq_some_iff.mp H
                                                        obtain ⟨t184, A760, H⟩ := H
                                                        replace H : (if t184 = true then ((spec_among.f kj66 (rd l0 a1) (([13, 6] : List Int))).bind fun t188 => (if t188 = true then (some false) else ((spec_sbSep.f kj66 (rd l0 a1)).bind fun t189 => (if t189 = true then (some false) else (if (rd l0 a1) = 6 then (some false) else ((spec_sbSep.f kj66 (rd l0 a1)).bind fun t190 => (some (!t190)))))))) else (if (rd l0 a1) = 6 then (some false) else ((spec_sbSep.f kj66 (rd l0 a1)).bind fun t191 => (some (!t191))))) = some r := H
                                                        have A76 := Aside0.mk A760
                                                        clear A760
                                                        by_cases c77 : t184 = true
                                                        · subst c77
                                                          have H1 : ((spec_among.f kj66 (rd l0 a1) (([13, 6] : List Int))).bind fun t188 => (if t188 = true then (some false) else ((spec_sbSep.f kj66 (rd l0 a1)).bind fun t189 => (if t189 = true then (some false) else (if (rd l0 a1) = 6 then (some false) else ((spec_sbSep.f kj66 (rd l0 a1)).bind fun t190 => (some (!t190)))))))) = some r := by rw [if_pos rfl] at H; exact H
                                                          clear H
                                                          have H := H1
                                                          clear H1
                                                          obtain ⟨y185, hy185⟩ : ∃ y_ : List Int, y_ = (([13, 6] : List Int)) := ⟨_, rfl⟩
                                                          replace H : ((spec_among.f kj66 (rd l0 a1) y185).bind fun t188 => (if t188 = true then (some false) else ((spec_sbSep.f kj66 (rd l0 a1)).bind fun t189 => (if t189 = true then (some false) else (if (rd l0 a1) = 6 then (some false) else ((spec_sbSep.f kj66 (rd l0 a1)).bind fun t190 => (some (!t190)))))))) = some r := by first | (rw [hy185]; with_reducible exact H) | (have H2_ := (Option.bind_some _ _).symm.trans H; rw [hy185]; with_reducible exact H2_) | (have H2_ := (Option.bind_some _ _).symm.trans H; with_reducible exact H2_) | with_reducible exact H | (rw [hy185]; exact H) | exact H
                                                          have Ny185 := Aside0.mk hy185
                                                          clear hy185
                                                          replace H := Option.bind_eq_some_iff.mp H
                                                          obtain ⟨t188, A780, H⟩ := H
                                                          replace H : (if t188 = true then (some false) else ((spec_sbSep.f kj66 (rd l0 a1)).bind fun t189 => (if t189 = true then (some false) else (if (rd l0 a1) = 6 then (some false) else ((spec_sbSep.f kj66 (rd l0 a1)).bind fun t190 => (some (!t190))))))) = some r := H
                                                          have A78 := Aside0.mk A780
                                                          clear A780
                                                          by_cases c79 : t188 = true
                                                          · subst c79
                                                            have H1 : (some false) = some r := by rw [if_pos rfl] at H; exact H
                                                            clear H
                                                            have H := H1
                                                            clear H1
                                                            obtain rfl := Option.some.inj H
                                                            go_wp2_with (first | (go_at_call 43; (with_reducible refine (spec_sbBehind.calls kj66 _ _ t163 false t182 _ ?side1 ?side2 A72.out).mono ?_); (case side1 => repeat (first | exact (Kd.R_reads' HO_7.out).2.2 | (with_reducible refine Kd.C_alloc ?_ _) | (with_reducible refine Kd.C_drewN ?_ _) | (with_reducible refine Kd.C_drew ?_))); (case side2 => exact (Kd.R_reads' HO_7.out).2.1); rintro e w80 ⟨rfl, hb⟩; have n0_ := Aside0.mk (Kd.R_below (by (with_reducible repeat (first | apply Kd.R_alloc | apply Kd.R_drewN | apply Kd.R_drew)); exact HO_7.out) hb); have n1_ := Aside0.mk (below_step (by repeat (first | (with_reducible first | exact HB.out | apply below_alloc | apply pw_below_drewN | apply below_drew1) | exact HB.out)) hb); clear HO_7; clear HB; have HO_7 := n0_; have HB := n1_; clear n0_ n1_; (try clear hb); (try clear hb2); (try clear hk); (try clear hi); have p183 : 0 ≤ (t182 : Int) := of_decide_eq_true (by first | (with_reducible assumption) | assumption); have q183 : t182 < (t163.length : Int) := of_decide_eq_true (by first | (with_reducible assumption) | assumption); obtain ⟨ad183, e183, hx183_0⟩ := Kd.at_int (Kd.R_reads' HO_7.out).2.2 t182 p183 q183; obtain rfl : ad166 = ad183 := (by injection e183); replace p183 := eq_true p183; replace q183 := eq_true q183) | (go_at_call 44; (with_reducible refine (spec_sbTerm.calls kj66 (rd t163 t182) true _ A76.out).mono ?_); rintro e w81 ⟨rfl, hb⟩; have n0_ := Aside0.mk (Kd.R_below (by (with_reducible repeat (first | apply Kd.R_alloc | apply Kd.R_drewN | apply Kd.R_drew)); exact HO_7.out) hb); have n1_ := Aside0.mk (below_step (by repeat (first | (with_reducible first | exact HB.out | apply below_alloc | apply pw_below_drewN | apply below_drew1) | exact HB.out)) hb); clear HO_7; clear HB; have HO_7 := n0_; have HB := n1_; clear n0_ n1_; (try clear hb); (try clear hb2); (try clear hk); (try clear hi)) | ((with_reducible refine gate_dst (N := 105) rfl ?_); (try (refine gate_guard (by rfl) ?_; dsimp only)); refine Kd.R_lit (Kd.int .i64) _ 3 ?hg (N := 105) ?hd (xs := ([13, 6] : List Int)) (inner := [.int .i64 13, .int .i64 6]) (ok := fun _ => True) (okp := fun _ => True) ?hr ?hp (fun _ hk => hk) trivial (Below.refl _ _) (Nat.le_refl _) (by simp) ?_; (case hd => rfl); (case hg => rfl); (case hr => first | (go_simp; done) | (go_simp; rfl)); (case hp => exact (Reps.one (show Kd.M (Kd.int .i64) _ _ _ 13 [.int .i64 13] from rfl) (Reps.one (show Kd.M (Kd.int .i64) _ _ _ 6 [.int .i64 6] from rfl) (Reps.none _ _)))); intro v186 w82 ho83 hb hg_ hnew_; clear hg_ hnew_; (first | rw [← Ny185.out] at ho83 | (simp only [Int.reduceToNat] at ho83; rw [← Ny185.out] at ho83)); have n0_ := Aside0.mk (Kd.R_elder' (by (with_reducible repeat (first | apply Kd.R_alloc | apply Kd.R_drewN | apply Kd.R_drew)); exact HO_7.out) (Kd.R_base ho83) hb); have n1_ := Aside0.mk (Kd.R_lower (Kd.R_new' ho83 (Kd.R_lt (by (with_reducible repeat (first | apply Kd.R_alloc | apply Kd.R_drewN | apply Kd.R_drew)); exact HO_7.out))) (below_size (by repeat (first | (with_reducible first | exact HB.out | apply below_alloc | apply pw_below_drewN | apply below_drew1) | exact HB.out)))); have n2_ := Aside0.mk (below_step (by repeat (first | (with_reducible first | exact HB.out | apply below_alloc | apply pw_below_drewN | apply below_drew1) | exact HB.out)) hb); clear HO_7; clear HB; have HO_7 := n0_; have HO187 := n1_; have HB := n2_; clear n0_ n1_ n2_; clear hb ho83; obtain ⟨Ao84, co84, eo84⟩ := Kd.R_slice HO187.out; subst eo84) | (go_at_call 42; (with_reducible refine (spec_among.calls kj66 (rd l0 a1) _ _ y185 true _ ?side1 ?side2 A78.out).mono ?_); (case side1 => repeat (first | exact (Kd.R_reads' HO187.out).2.2 | (with_reducible refine Kd.C_alloc ?_ _) | (with_reducible refine Kd.C_drewN ?_ _) | (with_reducible refine Kd.C_drew ?_))); (case side2 => exact (Kd.R_reads' HO187.out).2.1); rintro e w' ⟨rfl, ⟨nd, rfl⟩⟩; (try first | exact ⟨rfl, _, World.drewN_drewN _ _ _⟩ | exact ⟨rfl, _, Eq.trans (World.drewN_drewN _ _ _) (congrArg (World.drewN _) (Nat.add_assoc _ _ _))⟩)))
                                                            repeat (go_quiet (first | (go_at_call 43; (with_reducible refine (spec_sbBehind.calls kj66 _ _ t163 false t182 _ ?side1 ?side2 A72.out).mono ?_); (case side1 => repeat (first | exact (Kd.R_reads' HO_7.out).2.2 | (with_reducible refine Kd.C_alloc ?_ _) | (with_reducible refine Kd.C_drewN ?_ _) | (with_reducible refine Kd.C_drew ?_))); (case side2 => exact (Kd.R_reads' HO_7.out).2.1); rintro e w80 ⟨rfl, hb⟩; have n0_ := Aside0.mk (Kd.R_below (by (with_reducible repeat (first | apply Kd.R_alloc | apply Kd.R_drewN | apply Kd.R_drew)); exact HO_7.out) hb); have n1_ := Aside0.mk (below_step (by repeat (first | (with_reducible first | exact HB.out | apply below_alloc | apply pw_below_drewN | apply below_drew1) | exact HB.out)) hb); clear HO_7; clear HB; have HO_7 := n0_; have HB := n1_; clear n0_ n1_; (try clear hb); (try clear hb2); (try clear hk); (try clear hi); have p183 : 0 ≤ (t182 : Int) := of_decide_eq_true (by first | (with_reducible assumption) | assumption); have q183 : t182 < (t163.length : Int) := of_decide_eq_true (by first | (with_reducible assumption) | assumption); obtain ⟨ad183, e183, hx183_0⟩ := Kd.at_int (Kd.R_reads' HO_7.out).2.2 t182 p183 q183; obtain rfl : ad166 = ad183 := (by injection e183); replace p183 := eq_true p183; replace q183 := eq_true q183) | (go_at_call 44; (with_reducible refine (spec_sbTerm.calls kj66 (rd t163 t182) true _ A76.out).mono ?_); rintro e w81 ⟨rfl, hb⟩; have n0_ := Aside0.mk (Kd.R_below (by (with_reducible repeat (first | apply Kd.R_alloc | apply Kd.R_drewN | apply Kd.R_drew)); exact HO_7.out) hb); have n1_ := Aside0.mk (below_step (by repeat (first | (with_reducible first | exact HB.out | apply below_alloc | apply pw_below_drewN | apply below_drew1) | exact HB.out)) hb); clear HO_7; clear HB; have HO_7 := n0_; have HB := n1_; clear n0_ n1_; (try clear hb); (try clear hb2); (try clear hk); (try clear hi)) | ((with_reducible refine gate_dst (N := 105) rfl ?_); (try (refine gate_guard (by rfl) ?_; dsimp only)); refine Kd.R_lit (Kd.int .i64) _ 3 ?hg (N := 105) ?hd (xs := ([13, 6] : List Int)) (inner := [.int .i64 13, .int .i64 6]) (ok := fun _ => True) (okp := fun _ => True) ?hr ?hp (fun _ hk => hk) trivial (Below.refl _ _) (Nat.le_refl _) (by simp) ?_; (case hd => rfl); (case hg => rfl); (case hr => first | (go_simp; done) | (go_simp; rfl)); (case hp => exact (Reps.one (show Kd.M (Kd.int .i64) _ _ _ 13 [.int .i64 13] from rfl) (Reps.one (show Kd.M (Kd.int .i64) _ _ _ 6 [.int .i64 6] from rfl) (Reps.none _ _)))); intro v186 w82 ho83 hb hg_ hnew_; clear hg_ hnew_; (first | rw [← Ny185.out] at ho83 | (simp only [Int.reduceToNat] at ho83; rw [← Ny185.out] at ho83)); have n0_ := Aside0.mk (Kd.R_elder' (by (with_reducible repeat (first | apply Kd.R_alloc | apply Kd.R_drewN | apply Kd.R_drew)); exact HO_7.out) (Kd.R_base ho83) hb); have n1_ := Aside0.mk (Kd.R_lower (Kd.R_new' ho83 (Kd.R_lt (by (with_reducible repeat (first | apply Kd.R_alloc | apply Kd.R_drewN | apply Kd.R_drew)); exact HO_7.out))) (below_size (by repeat (first | (with_reducible first | exact HB.out | apply below_alloc | apply pw_below_drewN | apply below_drew1) | exact HB.out)))); have n2_ := Aside0.mk (below_step (by repeat (first | (with_reducible first | exact HB.out | apply below_alloc | apply pw_below_drewN | apply below_drew1) | exact HB.out)) hb); clear HO_7; clear HB; have HO_7 := n0_; have HO187 := n1_; have HB := n2_; clear n0_ n1_ n2_; clear hb ho83; obtain ⟨Ao84, co84, eo84⟩ := Kd.R_slice HO187.out; subst eo84) | (go_at_call 42; (with_reducible refine (spec_among.calls kj66 (rd l0 a1) _ _ y185 true _ ?side1 ?side2 A78.out).mono ?_); (case side1 => repeat (first | exact (Kd.R_reads' HO187.out).2.2 | (with_reducible refine Kd.C_alloc ?_ _) | (with_reducible refine Kd.C_drewN ?_ _) | (with_reducible refine Kd.C_drew ?_))); (case side2 => exact (Kd.R_reads' HO187.out).2.1); rintro e w' ⟨rfl, ⟨nd, rfl⟩⟩; (try first | exact ⟨rfl, _, World.drewN_drewN _ _ _⟩ | exact ⟨rfl, _, Eq.trans (World.drewN_drewN _ _ _) (congrArg (World.drewN _) (Nat.add_assoc _ _ _))⟩))); try go_wp2_with (first | (go_at_call 43; (with_reducible refine (spec_sbBehind.calls kj66 _ _ t163 false t182 _ ?side1 ?side2 A72.out).mono ?_); (case side1 => repeat (first | exact (Kd.R_reads' HO_7.out).2.2 | (with_reducible refine Kd.C_alloc ?_ _) | (with_reducible refine Kd.C_drewN ?_ _) | (with_reducible refine Kd.C_drew ?_))); (case side2 => exact (Kd.R_reads' HO_7.out).2.1); rintro e w80 ⟨rfl, hb⟩; have n0_ := Aside0.mk (Kd.R_below (by (with_reducible repeat (first | apply Kd.R_alloc | apply Kd.R_drewN | apply Kd.R_drew)); exact HO_7.out) hb); have n1_ := Aside0.mk (below_step (by repeat (first | (with_reducible first | exact HB.out | apply below_alloc | apply pw_below_drewN | apply below_drew1) | exact HB.out)) hb); clear HO_7; clear HB; have HO_7 := n0_; have HB := n1_; clear n0_ n1_; (try clear hb); (try clear hb2); (try clear hk); (try clear hi); have p183 : 0 ≤ (t182 : Int) := of_decide_eq_true (by first | (with_reducible assumption) | assumption); have q183 : t182 < (t163.length : Int) := of_decide_eq_true (by first | (with_reducible assumption) | assumption); obtain ⟨ad183, e183, hx183_0⟩ := Kd.at_int (Kd.R_reads' HO_7.out).2.2 t182 p183 q183; obtain rfl : ad166 = ad183 := (by injection e183); replace p183 := eq_true p183; replace q183 := eq_true q183) | (go_at_call 44; (with_reducible refine (spec_sbTerm.calls kj66 (rd t163 t182) true _ A76.out).mono ?_); rintro e w81 ⟨rfl, hb⟩; have n0_ := Aside0.mk (Kd.R_below (by (with_reducible repeat (first | apply Kd.R_alloc | apply Kd.R_drewN | apply Kd.R_drew)); exact HO_7.out) hb); have n1_ := Aside0.mk (below_step (by repeat (first | (with_reducible first | exact HB.out | apply below_alloc | apply pw_below_drewN | apply below_drew1) | exact HB.out)) hb); clear HO_7; clear HB; have HO_7 := n0_; have HB := n1_; clear n0_ n1_; (try clear hb); (try clear hb2); (try clear hk); (try clear hi)) | ((with_reducible refine gate_dst (N := 105) rfl ?_); (try (refine gate_guard (by rfl) ?_; dsimp only)); refine Kd.R_lit (Kd.int .i64) _ 3 ?hg (N := 105) ?hd (xs := ([13, 6] : List Int)) (inner := [.int .i64 13, .int .i64 6]) (ok := fun _ => True) (okp := fun _ => True) ?hr ?hp (fun _ hk => hk) trivial (Below.refl _ _) (Nat.le_refl _) (by simp) ?_; (case hd => rfl); (case hg => rfl); (case hr => first | (go_simp; done) | (go_simp; rfl)); (case hp => exact (Reps.one (show Kd.M (Kd.int .i64) _ _ _ 13 [.int .i64 13] from rfl) (Reps.one (show Kd.M (Kd.int .i64) _ _ _ 6 [.int .i64 6] from rfl) (Reps.none _ _)))); intro v186 w82 ho83 hb hg_ hnew_; clear hg_ hnew_; (first | rw [← Ny185.out] at ho83 | (simp only [Int.reduceToNat] at ho83; rw [← Ny185.out] at ho83)); have n0_ := Aside0.mk (Kd.R_elder' (by (with_reducible repeat (first | apply Kd.R_alloc | apply Kd.R_drewN | apply Kd.R_drew)); exact HO_7.out) (Kd.R_base ho83) hb); have n1_ := Aside0.mk (Kd.R_lower (Kd.R_new' ho83 (Kd.R_lt (by (with_reducible repeat (first | apply Kd.R_alloc | apply Kd.R_drewN | apply Kd.R_drew)); exact HO_7.out))) (below_size (by repeat (first | (with_reducible first | exact HB.out | apply below_alloc | apply pw_below_drewN | apply below_drew1) | exact HB.out)))); have n2_ := Aside0.mk (below_step (by repeat (first | (with_reducible first | exact HB.out | apply below_alloc | apply pw_below_drewN | apply below_drew1) | exact HB.out)) hb); clear HO_7; clear HB; have HO_7 := n0_; have HO187 := n1_; have HB := n2_; clear n0_ n1_ n2_; clear hb ho83; obtain ⟨Ao84, co84, eo84⟩ := Kd.R_slice HO187.out; subst eo84) | (go_at_call 42; (with_reducible refine (spec_among.calls kj66 (rd l0 a1) _ _ y185 true _ ?side1 ?side2 A78.out).mono ?_); (case side1 => repeat (first | exact (Kd.R_reads' HO187.out).2.2 | (with_reducible refine Kd.C_alloc ?_ _) | (with_reducible refine Kd.C_drewN ?_ _) | (with_reducible refine Kd.C_drew ?_))); (case side2 => exact (Kd.R_reads' HO187.out).2.1); rintro e w' ⟨rfl, ⟨nd, rfl⟩⟩; (try first | exact ⟨rfl, _, World.drewN_drewN _ _ _⟩ | exact ⟨rfl, _, Eq.trans (World.drewN_drewN _ _ _) (congrArg (World.drewN _) (Nat.add_assoc _ _ _))⟩))))
                                                            go_ret
                                                            exact ⟨by first | rfl | (simp [errW_none, errW_some] <;> rfl) | (simp only [← hji3, ← hji21]; first | rfl | (simp [errW_none, errW_some] <;> rfl)) | (simp [*, errW_none, errW_some] <;> rfl), by repeat (first | (with_reducible first | exact HB.out | apply below_alloc | apply pw_below_drewN | apply below_drew1) | exact HB.out)⟩
                                                          · replace c79 := Bool.eq_false_iff.mpr c79
                                                            subst c79
                                                            have H1 : ((spec_sbSep.f kj66 (rd l0 a1)).bind fun t189 => (if t189 = true then (some false) else (if (rd l0 a1) = 6 then (some false) else ((spec_sbSep.f kj66 (rd l0 a1)).bind fun t190 => (some (!t190)))))) = some r := by rw [if_neg (show ¬ (false = true) by decide)] at H; exact H
                                                            clear H
                                                            have H := H1
                                                            clear H1
                                                            replace H := Option.bind_eq_some_iff.mp H
                                                            obtain ⟨t189, A850, H⟩ := H
                                                            replace H : (if t189 = true then (some false) else (if (rd l0 a1) = 6 then (some false) else ((spec_sbSep.f kj66 (rd l0 a1)).bind fun t190 => (some (!t190))))) = some r := H
                                                            have A85 := Aside0.mk A850
                                                            clear A850
                                                            by_cases c86 : t189 = true
                                                            · subst c86
                                                              have H1 : (some false) = some r := by rw [if_pos rfl] at H; exact H
                                                              clear H
                                                              have H := H1
                                                              clear H1
                                                              obtain rfl := Option.some.inj H
                                                              go_wp2_with (first | (go_at_call 43; (with_reducible refine (spec_sbBehind.calls kj66 _ _ t163 false t182 _ ?side1 ?side2 A72.out).mono ?_); (case side1 => repeat (first | exact (Kd.R_reads' HO_7.out).2.2 | (with_reducible refine Kd.C_alloc ?_ _) | (with_reducible refine Kd.C_drewN ?_ _) | (with_reducible refine Kd.C_drew ?_))); (case side2 => exact (Kd.R_reads' HO_7.out).2.1); rintro e w87 ⟨rfl, hb⟩; have n0_ := Aside0.mk (Kd.R_below (by (with_reducible repeat (first | apply Kd.R_alloc | apply Kd.R_drewN | apply Kd.R_drew)); exact HO_7.out) hb); have n1_ := Aside0.mk (below_step (by repeat (first | (with_reducible first | exact HB.out | apply below_alloc | apply pw_below_drewN | apply below_drew1) | exact HB.out)) hb); clear HO_7; clear HB; have HO_7 := n0_; have HB := n1_; clear n0_ n1_; (try clear hb); (try clear hb2); (try clear hk); (try clear hi); have p183 : 0 ≤ (t182 : Int) := of_decide_eq_true (by first | (with_reducible assumption) | assumption); have q183 : t182 < (t163.length : Int) := of_decide_eq_true (by first | (with_reducible assumption) | assumption); obtain ⟨ad183, e183, hx183_0⟩ := Kd.at_int (Kd.R_reads' HO_7.out).2.2 t182 p183 q183; obtain rfl : ad166 = ad183 := (by injection e183); replace p183 := eq_true p183; replace q183 := eq_true q183) | (go_at_call 44; (with_reducible refine (spec_sbTerm.calls kj66 (rd t163 t182) true _ A76.out).mono ?_); rintro e w88 ⟨rfl, hb⟩; have n0_ := Aside0.mk (Kd.R_below (by (with_reducible repeat (first | apply Kd.R_alloc | apply Kd.R_drewN | apply Kd.R_drew)); exact HO_7.out) hb); have n1_ := Aside0.mk (below_step (by repeat (first | (with_reducible first | exact HB.out | apply below_alloc | apply pw_below_drewN | apply below_drew1) | exact HB.out)) hb); clear HO_7; clear HB; have HO_7 := n0_; have HB := n1_; clear n0_ n1_; (try clear hb); (try clear hb2); (try clear hk); (try clear hi)) | ((with_reducible refine gate_dst (N := 105) rfl ?_); (try (refine gate_guard (by rfl) ?_; dsimp only)); refine Kd.R_lit (Kd.int .i64) _ 3 ?hg (N := 105) ?hd (xs := ([13, 6] : List Int)) (inner := [.int .i64 13, .int .i64 6]) (ok := fun _ => True) (okp := fun _ => True) ?hr ?hp (fun _ hk => hk) trivial (Below.refl _ _) (Nat.le_refl _) (by simp) ?_; (case hd => rfl); (case hg => rfl); (case hr => first | (go_simp; done) | (go_simp; rfl)); (case hp => exact (Reps.one (show Kd.M (Kd.int .i64) _ _ _ 13 [.int .i64 13] from rfl) (Reps.one (show Kd.M (Kd.int .i64) _ _ _ 6 [.int .i64 6] from rfl) (Reps.none _ _)))); intro v186 w89 ho90 hb hg_ hnew_; clear hg_ hnew_; (first | rw [← Ny185.out] at ho90 | (simp only [Int.reduceToNat] at ho90; rw [← Ny185.out] at ho90)); have n0_ := Aside0.mk (Kd.R_elder' (by (with_reducible repeat (first | apply Kd.R_alloc | apply Kd.R_drewN | apply Kd.R_drew)); exact HO_7.out) (Kd.R_base ho90) hb); have n1_ := Aside0.mk (Kd.R_lower (Kd.R_new' ho90 (Kd.R_lt (by (with_reducible repeat (first | apply Kd.R_alloc | apply Kd.R_drewN | apply Kd.R_drew)); exact HO_7.out))) (below_size (by repeat (first | (with_reducible first | exact HB.out | apply below_alloc | apply pw_below_drewN | apply below_drew1) | exact HB.out)))); have n2_ := Aside0.mk (below_step (by repeat (first | (with_reducible first | exact HB.out | apply below_alloc | apply pw_below_drewN | apply below_drew1) | exact HB.out)) hb); clear HO_7; clear HB; have HO_7 := n0_; have HO187 := n1_; have HB := n2_; clear n0_ n1_ n2_; clear hb ho90; obtain ⟨Ao91, co91, eo91⟩ := Kd.R_slice HO187.out; subst eo91) | (go_at_call 42; (with_reducible refine (spec_among.calls kj66 (rd l0 a1) _ _ y185 false _ ?side1 ?side2 A78.out).mono ?_); (case side1 => repeat (first | exact (Kd.R_reads' HO187.out).2.2 | (with_reducible refine Kd.C_alloc ?_ _) | (with_reducible refine Kd.C_drewN ?_ _) | (with_reducible refine Kd.C_drew ?_))); (case side2 => exact (Kd.R_reads' HO187.out).2.1); rintro e w' ⟨rfl, ⟨nd, rfl⟩⟩; (try first | exact ⟨rfl, _, World.drewN_drewN _ _ _⟩ | exact ⟨rfl, _, Eq.trans (World.drewN_drewN _ _ _) (congrArg (World.drewN _) (Nat.add_assoc _ _ _))⟩)) | (go_at_call 39; (with_reducible refine (spec_sbSep.calls kj66 (rd l0 a1) true _ A85.out).mono ?_); rintro e w92 ⟨rfl, hb⟩; have n0_ := Aside0.mk (Kd.R_below (by (with_reducible repeat (first | apply Kd.R_alloc | apply Kd.R_drewN | apply Kd.R_drew)); exact HO_7.out) hb); have n1_ := Aside0.mk (Kd.R_below (by (with_reducible repeat (first | apply Kd.R_alloc | apply Kd.R_drewN | apply Kd.R_drew)); exact HO187.out) hb); have n2_ := Aside0.mk (below_step (by repeat (first | (with_reducible first | exact HB.out | apply below_alloc | apply pw_below_drewN | apply below_drew1) | exact HB.out)) hb); clear HO_7; clear HO187; clear HB; have HO_7 := n0_; have HO187 := n1_; have HB := n2_; clear n0_ n1_ n2_; (try clear hb); (try clear hb2); (try clear hk); (try clear hi)))
                                                              repeat (go_quiet (first | (go_at_call 43; (with_reducible refine (spec_sbBehind.calls kj66 _ _ t163 false t182 _ ?side1 ?side2 A72.out).mono ?_); (case side1 => repeat (first | exact (Kd.R_reads' HO_7.out).2.2 | (with_reducible refine Kd.C_alloc ?_ _) | (with_reducible refine Kd.C_drewN ?_ _) | (with_reducible refine Kd.C_drew ?_))); (case side2 => exact (Kd.R_reads' HO_7.out).2.1); rintro e w87 ⟨rfl, hb⟩; have n0_ := Aside0.mk (Kd.R_below (by (with_reducible repeat (first | apply Kd.R_alloc | apply Kd.R_drewN | apply Kd.R_drew)); exact HO_7.out) hb); have n1_ := Aside0.mk (below_step (by repeat (first | (with_reducible first | exact HB.out | apply below_alloc | apply pw_below_drewN | apply below_drew1) | exact HB.out)) hb); clear HO_7; clear HB; have HO_7 := n0_; have HB := n1_; clear n0_ n1_; (try clear hb); (try clear hb2); (try clear hk); (try clear hi); have p183 : 0 ≤ (t182 : Int) := of_decide_eq_true (by first | (with_reducible assumption) | assumption); have q183 : t182 < (t163.length : Int) := of_decide_eq_true (by first | (with_reducible assumption) | assumption); obtain ⟨ad183, e183, hx183_0⟩ := Kd.at_int (Kd.R_reads' HO_7.out).2.2 t182 p183 q183; obtain rfl : ad166 = ad183 := (by injection e183); replace p183 := eq_true p183; replace q183 := eq_true q183) | (go_at_call 44; (with_reducible refine (spec_sbTerm.calls kj66 (rd t163 t182) true _ A76.out).mono ?_); rintro e w88 ⟨rfl, hb⟩; have n0_ := Aside0.mk (Kd.R_below (by (with_reducible repeat (first | apply Kd.R_alloc | apply Kd.R_drewN | apply Kd.R_drew)); exact HO_7.out) hb); have n1_ := Aside0.mk (below_step (by repeat (first | (with_reducible first | exact HB.out | apply below_alloc | apply pw_below_drewN | apply below_drew1) | exact HB.out)) hb); clear HO_7; clear HB; have HO_7 := n0_; have HB := n1_; clear n0_ n1_; (try clear hb); (try clear hb2); (try clear hk); (try clear hi)) | ((with_reducible refine gate_dst (N := 105) rfl ?_); (try (refine gate_guard (by rfl) ?_; dsimp only)); refine Kd.R_lit (Kd.int .i64) _ 3 ?hg (N := 105) ?hd (xs := ([13, 6] : List Int)) (inner := [.int .i64 13, .int .i64 6]) (ok := fun _ => True) (okp := fun _ => True) ?hr ?hp (fun _ hk => hk) trivial (Below.refl _ _) (Nat.le_refl _) (by simp) ?_; (case hd => rfl); (case hg => rfl); (case hr => first | (go_simp; done) | (go_simp; rfl)); (case hp => exact (Reps.one (show Kd.M (Kd.int .i64) _ _ _ 13 [.int .i64 13] from rfl) (Reps.one (show Kd.M (Kd.int .i64) _ _ _ 6 [.int .i64 6] from rfl) (Reps.none _ _)))); intro v186 w89 ho90 hb hg_ hnew_; clear hg_ hnew_; (first | rw [← Ny185.out] at ho90 | (simp only [Int.reduceToNat] at ho90; rw [← Ny185.out] at ho90)); have n0_ := Aside0.mk (Kd.R_elder' (by (with_reducible repeat (first | apply Kd.R_alloc | apply Kd.R_drewN | apply Kd.R_drew)); exact HO_7.out) (Kd.R_base ho90) hb); have n1_ := Aside0.mk (Kd.R_lower (Kd.R_new' ho90 (Kd.R_lt (by (with_reducible repeat (first | apply Kd.R_alloc | apply Kd.R_drewN | apply Kd.R_drew)); exact HO_7.out))) (below_size (by repeat (first | (with_reducible first | exact HB.out | apply below_alloc | apply pw_below_drewN | apply below_drew1) | exact HB.out)))); have n2_ := Aside0.mk (below_step (by repeat (first | (with_reducible first | exact HB.out | apply below_alloc | apply pw_below_drewN | apply below_drew1) | exact HB.out)) hb); clear HO_7; clear HB; have HO_7 := n0_; have HO187 := n1_; have HB := n2_; clear n0_ n1_ n2_; clear hb ho90; obtain ⟨Ao91, co91, eo91⟩ := Kd.R_slice HO187.out; subst eo91) | (go_at_call 42; (with_reducible refine (spec_among.calls kj66 (rd l0 a1) _ _ y185 false _ ?side1 ?side2 A78.out).mono ?_); (case side1 => repeat (first | exact (Kd.R_reads' HO187.out).2.2 | (with_reducible refine Kd.C_alloc ?_ _) | (with_reducible refine Kd.C_drewN ?_ _) | (with_reducible refine Kd.C_drew ?_))); (case side2 => exact (Kd.R_reads' HO187.out).2.1); rintro e w' ⟨rfl, ⟨nd, rfl⟩⟩; (try first | exact ⟨rfl, _, World.drewN_drewN _ _ _⟩ | exact ⟨rfl, _, Eq.trans (World.drewN_drewN _ _ _) (congrArg (World.drewN _) (Nat.add_assoc _ _ _))⟩)) | (go_at_call 39; (with_reducible refine (spec_sbSep.calls kj66 (rd l0 a1) true _ A85.out).mono ?_); rintro e w92 ⟨rfl, hb⟩; have n0_ := Aside0.mk (Kd.R_below (by (with_reducible repeat (first | apply Kd.R_alloc | apply Kd.R_drewN | apply Kd.R_drew)); exact HO_7.out) hb); have n1_ := Aside0.mk (Kd.R_below (by (with_reducible repeat (first | apply Kd.R_alloc | apply Kd.R_drewN | apply Kd.R_drew)); exact HO187.out) hb); have n2_ := Aside0.mk (below_step (by repeat (first | (with_reducible first | exact HB.out | apply below_alloc | apply pw_below_drewN | apply below_drew1) | exact HB.out)) hb); clear HO_7; clear HO187; clear HB; have HO_7 := n0_; have HO187 := n1_; have HB := n2_; clear n0_ n1_ n2_; (try clear hb); (try clear hb2); (try clear hk); (try clear hi))); try go_wp2_with (first | (go_at_call 43; (with_reducible refine (spec_sbBehind.calls kj66 _ _ t163 false t182 _ ?side1 ?side2 A72.out).mono ?_); (case side1 => repeat (first | exact (Kd.R_reads' HO_7.out).2.2 | (with_reducible refine Kd.C_alloc ?_ _) | (with_reducible refine Kd.C_drewN ?_ _) | (with_reducible refine Kd.C_drew ?_))); (case side2 => exact (Kd.R_reads' HO_7.out).2.1); rintro e w87 ⟨rfl, hb⟩; have n0_ := Aside0.mk (Kd.R_below (by (with_reducible repeat (first | apply Kd.R_alloc | apply Kd.R_drewN | apply Kd.R_drew)); exact HO_7.out) hb); have n1_ := Aside0.mk (below_step (by repeat (first | (with_reducible first | exact HB.out | apply below_alloc | apply pw_below_drewN | apply below_drew1) | exact HB.out)) hb); clear HO_7; clear HB; have HO_7 := n0_; have HB := n1_; clear n0_ n1_; (try clear hb); (try clear hb2); (try clear hk); (try clear hi); have p183 : 0 ≤ (t182 : Int) := of_decide_eq_true (by first | (with_reducible assumption) | assumption); have q183 : t182 < (t163.length : Int) := of_decide_eq_true (by first | (with_reducible assumption) | assumption); obtain ⟨ad183, e183, hx183_0⟩ := Kd.at_int (Kd.R_reads' HO_7.out).2.2 t182 p183 q183; obtain rfl : ad166 = ad183 := (by injection e183); replace p183 := eq_true p183; replace q183 := eq_true q183) | (go_at_call 44; (with_reducible refine (spec_sbTerm.calls kj66 (rd t163 t182) true _ A76.out).mono ?_); rintro e w88 ⟨rfl, hb⟩; have n0_ := Aside0.mk (Kd.R_below (by (with_reducible repeat (first | apply Kd.R_alloc | apply Kd.R_drewN | apply Kd.R_drew)); exact HO_7.out) hb); have n1_ := Aside0.mk (below_step (by repeat (first | (with_reducible first | exact HB.out | apply below_alloc | apply pw_below_drewN | apply below_drew1) | exact HB.out)) hb); clear HO_7; clear HB; have HO_7 := n0_; have HB := n1_; clear n0_ n1_; (try clear hb); (try clear hb2); (try clear hk); (try clear hi)) | ((with_reducible refine gate_dst (N := 105) rfl ?_); (try (refine gate_guard (by rfl) ?_; dsimp only)); refine Kd.R_lit (Kd.int .i64) _ 3 ?hg (N := 105) ?hd (xs := ([13, 6] : List Int)) (inner := [.int .i64 13, .int .i64 6]) (ok := fun _ => True) (okp := fun _ => True) ?hr ?hp (fun _ hk => hk) trivial (Below.refl _ _) (Nat.le_refl _) (by simp) ?_; (case hd => rfl); (case hg => rfl); (case hr => first | (go_simp; done) | (go_simp; rfl)); (case hp => exact (Reps.one (show Kd.M (Kd.int .i64) _ _ _ 13 [.int .i64 13] from rfl) (Reps.one (show Kd.M (Kd.int .i64) _ _ _ 6 [.int .i64 6] from rfl) (Reps.none _ _)))); intro v186 w89 ho90 hb hg_ hnew_; clear hg_ hnew_; (first | rw [← Ny185.out] at ho90 | (simp only [Int.reduceToNat] at ho90; rw [← Ny185.out] at ho90)); have n0_ := Aside0.mk (Kd.R_elder' (by (with_reducible repeat (first | apply Kd.R_alloc | apply Kd.R_drewN | apply Kd.R_drew)); exact HO_7.out) (Kd.R_base ho90) hb); have n1_ := Aside0.mk (Kd.R_lower (Kd.R_new' ho90 (Kd.R_lt (by (with_reducible repeat (first | apply Kd.R_alloc | apply Kd.R_drewN | apply Kd.R_drew)); exact HO_7.out))) (below_size (by repeat (first | (with_reducible first | exact HB.out | apply below_alloc | apply pw_below_drewN | apply below_drew1) | exact HB.out)))); have n2_ := Aside0.mk (below_step (by repeat (first | (with_reducible first | exact HB.out | apply below_alloc | apply pw_below_drewN | apply below_drew1) | exact HB.out)) hb); clear HO_7; clear HB; have HO_7 := n0_; have HO187 := n1_; have HB := n2_; clear n0_ n1_ n2_; clear hb ho90; obtain ⟨Ao91, co91, eo91⟩ := Kd.R_slice HO187.out; subst eo91) | (go_at_call 42; (with_reducible refine (spec_among.calls kj66 (rd l0 a1) _ _ y185 false _ ?side1 ?side2 A78.out).mono ?_); (case side1 => repeat (first | exact (Kd.R_reads' HO187.out).2.2 | (with_reducible refine Kd.C_alloc ?_ _) | (with_reducible refine Kd.C_drewN ?_ _) | (with_reducible refine Kd.C_drew ?_))); (case side2 => exact (Kd.R_reads' HO187.out).2.1); rintro e w' ⟨rfl, ⟨nd, rfl⟩⟩; (try first | exact ⟨rfl, _, World.drewN_drewN _ _ _⟩ | exact ⟨rfl, _, Eq.trans (World.drewN_drewN _ _ _) (congrArg (World.drewN _) (Nat.add_assoc _ _ _))⟩)) | (go_at_call 39; (with_reducible refine (spec_sbSep.calls kj66 (rd l0 a1) true _ A85.out).mono ?_); rintro e w92 ⟨rfl, hb⟩; have n0_ := Aside0.mk (Kd.R_below (by (with_reducible repeat (first | apply Kd.R_alloc | apply Kd.R_drewN | apply Kd.R_drew)); exact HO_7.out) hb); have n1_ := Aside0.mk (Kd.R_below (by (with_reducible repeat (first | apply Kd.R_alloc | apply Kd.R_drewN | apply Kd.R_drew)); exact HO187.out) hb); have n2_ := Aside0.mk (below_step (by repeat (first | (with_reducible first | exact HB.out | apply below_alloc | apply pw_below_drewN | apply below_drew1) | exact HB.out)) hb); clear HO_7; clear HO187; clear HB; have HO_7 := n0_; have HO187 := n1_; have HB := n2_; clear n0_ n1_ n2_; (try clear hb); (try clear hb2); (try clear hk); (try clear hi))))
                                                              go_ret
                                                              exact ⟨by first | rfl | (simp [errW_none, errW_some] <;> rfl) | (simp only [← hji3, ← hji21]; first | rfl | (simp [errW_none, errW_some] <;> rfl)) | (simp [*, errW_none, errW_some] <;> rfl), by repeat (first | (with_reducible first | exact HB.out | apply below_alloc | apply pw_below_drewN | apply below_drew1) | exact HB.out)⟩
                                                            · replace c86 := Bool.eq_false_iff.mpr c86
                                                              subst c86
                                                              have H1 : (if (rd l0 a1) = 6 then (some false) else ((spec_sbSep.f kj66 (rd l0 a1)).bind fun t190 => (some (!t190)))) = some r := by rw [if_neg (show ¬ (false = true) by decide)] at H; exact H
                                                              clear H
                                                              have H := H1
                                                              clear H1
                                                              by_cases c93 : (rd l0 a1) = 6
                                                              · rw [if_pos c93] at H
                                                                have c93b0 : ((rd l0 a1) == 6) = true := beq_iff_eq.mpr c93
                                                                have c93b1 : ((rd l0 a1) != 6) = false := bne_eq_false_iff_eq.mpr c93
                                                                clear c93
                                                                obtain rfl := Option.some.inj H
                                                                go_wp2_with (first | (go_at_call 43; (with_reducible refine (spec_sbBehind.calls kj66 _ _ t163 false t182 _ ?side1 ?side2 A72.out).mono ?_); (case side1 => repeat (first | exact (Kd.R_reads' HO_7.out).2.2 | (with_reducible refine Kd.C_alloc ?_ _) | (with_reducible refine Kd.C_drewN ?_ _) | (with_reducible refine Kd.C_drew ?_))); (case side2 => exact (Kd.R_reads' HO_7.out).2.1); rintro e w94 ⟨rfl, hb⟩; have n0_ := Aside0.mk (Kd.R_below (by (with_reducible repeat (first | apply Kd.R_alloc | apply Kd.R_drewN | apply Kd.R_drew)); exact HO_7.out) hb); have n1_ := Aside0.mk (below_step (by repeat (first | (with_reducible first | exact HB.out | apply below_alloc | apply pw_below_drewN | apply below_drew1) | exact HB.out)) hb); clear HO_7; clear HB; have HO_7 := n0_; have HB := n1_; clear n0_ n1_; (try clear hb); (try clear hb2); (try clear hk); (try clear hi); have p183 : 0 ≤ (t182 : Int) := of_decide_eq_true (by first | (with_reducible assumption) | assumption); have q183 : t182 < (t163.length : Int) := of_decide_eq_true (by first | (with_reducible assumption) | assumption); obtain ⟨ad183, e183, hx183_0⟩ := Kd.at_int (Kd.R_reads' HO_7.out).2.2 t182 p183 q183; obtain rfl : ad166 = ad183 := (by injection e183); replace p183 := eq_true p183; replace q183 := eq_true q183) | (go_at_call 44; (with_reducible refine (spec_sbTerm.calls kj66 (rd t163 t182) true _ A76.out).mono ?_); rintro e w95 ⟨rfl, hb⟩; have n0_ := Aside0.mk (Kd.R_below (by (with_reducible repeat (first | apply Kd.R_alloc | apply Kd.R_drewN | apply Kd.R_drew)); exact HO_7.out) hb); have n1_ := Aside0.mk (below_step (by repeat (first | (with_reducible first | exact HB.out | apply below_alloc | apply pw_below_drewN | apply below_drew1) | exact HB.out)) hb); clear HO_7; clear HB; have HO_7 := n0_; have HB := n1_; clear n0_ n1_; (try clear hb); (try clear hb2); (try clear hk); (try clear hi)) | ((with_reducible refine gate_dst (N := 105) rfl ?_); (try (refine gate_guard (by rfl) ?_; dsimp only)); refine Kd.R_lit (Kd.int .i64) _ 3 ?hg (N := 105) ?hd (xs := ([13, 6] : List Int)) (inner := [.int .i64 13, .int .i64 6]) (ok := fun _ => True) (okp := fun _ => True) ?hr ?hp (fun _ hk => hk) trivial (Below.refl _ _) (Nat.le_refl _) (by simp) ?_; (case hd => rfl); (case hg => rfl); (case hr => first | (go_simp; done) | (go_simp; rfl)); (case hp => exact (Reps.one (show Kd.M (Kd.int .i64) _ _ _ 13 [.int .i64 13] from rfl) (Reps.one (show Kd.M (Kd.int .i64) _ _ _ 6 [.int .i64 6] from rfl) (Reps.none _ _)))); intro v186 w96 ho97 hb hg_ hnew_; clear hg_ hnew_; (first | rw [← Ny185.out] at ho97 | (simp only [Int.reduceToNat] at ho97; rw [← Ny185.out] at ho97)); have n0_ := Aside0.mk (Kd.R_elder' (by (with_reducible repeat (first | apply Kd.R_alloc | apply Kd.R_drewN | apply Kd.R_drew)); exact HO_7.out) (Kd.R_base ho97) hb); have n1_ := Aside0.mk (Kd.R_lower (Kd.R_new' ho97 (Kd.R_lt (by (with_reducible repeat (first | apply Kd.R_alloc | apply Kd.R_drewN | apply Kd.R_drew)); exact HO_7.out))) (below_size (by repeat (first | (with_reducible first | exact HB.out | apply below_alloc | apply pw_below_drewN | apply below_drew1) | exact HB.out)))); have n2_ := Aside0.mk (below_step (by repeat (first | (with_reducible first | exact HB.out | apply below_alloc | apply pw_below_drewN | apply below_drew1) | exact HB.out)) hb); clear HO_7; clear HB; have HO_7 := n0_; have HO187 := n1_; have HB := n2_; clear n0_ n1_ n2_; clear hb ho97; obtain ⟨Ao98, co98, eo98⟩ := Kd.R_slice HO187.out; subst eo98) | (go_at_call 42; (with_reducible refine (spec_among.calls kj66 (rd l0 a1) _ _ y185 false _ ?side1 ?side2 A78.out).mono ?_); (case side1 => repeat (first | exact (Kd.R_reads' HO187.out).2.2 | (with_reducible refine Kd.C_alloc ?_ _) | (with_reducible refine Kd.C_drewN ?_ _) | (with_reducible refine Kd.C_drew ?_))); (case side2 => exact (Kd.R_reads' HO187.out).2.1); rintro e w' ⟨rfl, ⟨nd, rfl⟩⟩; (try first | exact ⟨rfl, _, World.drewN_drewN _ _ _⟩ | exact ⟨rfl, _, Eq.trans (World.drewN_drewN _ _ _) (congrArg (World.drewN _) (Nat.add_assoc _ _ _))⟩)) | (go_at_call 39; (with_reducible refine (spec_sbSep.calls kj66 (rd l0 a1) false _ A85.out).mono ?_); rintro e w99 ⟨rfl, hb⟩; have n0_ := Aside0.mk (Kd.R_below (by (with_reducible repeat (first | apply Kd.R_alloc | apply Kd.R_drewN | apply Kd.R_drew)); exact HO_7.out) hb); have n1_ := Aside0.mk (Kd.R_below (by (with_reducible repeat (first | apply Kd.R_alloc | apply Kd.R_drewN | apply Kd.R_drew)); exact HO187.out) hb); have n2_ := Aside0.mk (below_step (by repeat (first | (with_reducible first | exact HB.out | apply below_alloc | apply pw_below_drewN | apply below_drew1) | exact HB.out)) hb); clear HO_7; clear HO187; clear HB; have HO_7 := n0_; have HO187 := n1_; have HB := n2_; clear n0_ n1_ n2_; (try clear hb); (try clear hb2); (try clear hk); (try clear hi)))
                                                                repeat (go_quiet (first | (go_at_call 43; (with_reducible refine (spec_sbBehind.calls kj66 _ _ t163 false t182 _ ?side1 ?side2 A72.out).mono ?_); (case side1 => repeat (first | exact (Kd.R_reads' HO_7.out).2.2 | (with_reducible refine Kd.C_alloc ?_ _) | (with_reducible refine Kd.C_drewN ?_ _) | (with_reducible refine Kd.C_drew ?_))); (case side2 => exact (Kd.R_reads' HO_7.out).2.1); rintro e w94 ⟨rfl, hb⟩; have n0_ := Aside0.mk (Kd.R_below (by (with_reducible repeat (first | apply Kd.R_alloc | apply Kd.R_drewN | apply Kd.R_drew)); exact HO_7.out) hb); have n1_ := Aside0.mk (below_step (by repeat (first | (with_reducible first | exact HB.out | apply below_alloc | apply pw_below_drewN | apply below_drew1) | exact HB.out)) hb); clear HO_7; clear HB; have HO_7 := n0_; have HB := n1_; clear n0_ n1_; (try clear hb); (try clear hb2); (try clear hk); (try clear hi); have p183 : 0 ≤ (t182 : Int) := of_decide_eq_true (by first | (with_reducible assumption) | assumption); have q183 : t182 < (t163.length : Int) := of_decide_eq_true (by first | (with_reducible assumption) | assumption); obtain ⟨ad183, e183, hx183_0⟩ := Kd.at_int (Kd.R_reads' HO_7.out).2.2 t182 p183 q183; obtain rfl : ad166 = ad183 := (by injection e183); replace p183 := eq_true p183; replace q183 := eq_true q183) | (go_at_call 44; (with_reducible refine (spec_sbTerm.calls kj66 (rd t163 t182) true _ A76.out).mono ?_); rintro e w95 ⟨rfl, hb⟩; have n0_ := Aside0.mk (Kd.R_below (by (with_reducible repeat (first | apply Kd.R_alloc | apply Kd.R_drewN | apply Kd.R_drew)); exact HO_7.out) hb); have n1_ := Aside0.mk (below_step (by repeat (first | (with_reducible first | exact HB.out | apply below_alloc | apply pw_below_drewN | apply below_drew1) | exact HB.out)) hb); clear HO_7; clear HB; have HO_7 := n0_; have HB := n1_; clear n0_ n1_; (try clear hb); (try clear hb2); (try clear hk); (try clear hi)) | ((with_reducible refine gate_dst (N := 105) rfl ?_); (try (refine gate_guard (by rfl) ?_; dsimp only)); refine Kd.R_lit (Kd.int .i64) _ 3 ?hg (N := 105) ?hd (xs := ([13, 6] : List Int)) (inner := [.int .i64 13, .int .i64 6]) (ok := fun _ => True) (okp := fun _ => True) ?hr ?hp (fun _ hk => hk) trivial (Below.refl _ _) (Nat.le_refl _) (by simp) ?_; (case hd => rfl); (case hg => rfl); (case hr => first | (go_simp; done) | (go_simp; rfl)); (case hp => exact (Reps.one (show Kd.M (Kd.int .i64) _ _ _ 13 [.int .i64 13] from rfl) (Reps.one (show Kd.M (Kd.int .i64) _ _ _ 6 [.int .i64 6] from rfl) (Reps.none _ _)))); intro v186 w96 ho97 hb hg_ hnew_; clear hg_ hnew_; (first | rw [← Ny185.out] at ho97 | (simp only [Int.reduceToNat] at ho97; rw [← Ny185.out] at ho97)); have n0_ := Aside0.mk (Kd.R_elder' (by (with_reducible repeat (first | apply Kd.R_alloc | apply Kd.R_drewN | apply Kd.R_drew)); exact HO_7.out) (Kd.R_base ho97) hb); have n1_ := Aside0.mk (Kd.R_lower (Kd.R_new' ho97 (Kd.R_lt (by (with_reducible repeat (first | apply Kd.R_alloc | apply Kd.R_drewN | apply Kd.R_drew)); exact HO_7.out))) (below_size (by repeat (first | (with_reducible first | exact HB.out | apply below_alloc | apply pw_below_drewN | apply below_drew1) | exact HB.out)))); have n2_ := Aside0.mk (below_step (by repeat (first | (with_reducible first | exact HB.out | apply below_alloc | apply pw_below_drewN | apply below_drew1) | exact HB.out)) hb); clear HO_7; clear HB; have HO_7 := n0_; have HO187 := n1_; have HB := n2_; clear n0_ n1_ n2_; clear hb ho97; obtain ⟨Ao98, co98, eo98⟩ := Kd.R_slice HO187.out; subst eo98) | (go_at_call 42; (with_reducible refine (spec_among.calls kj66 (rd l0 a1) _ _ y185 false _ ?side1 ?side2 A78.out).mono ?_); (case side1 => repeat (first | exact (Kd.R_reads' HO187.out).2.2 | (with_reducible refine Kd.C_alloc ?_ _) | (with_reducible refine Kd.C_drewN ?_ _) | (with_reducible refine Kd.C_drew ?_))); (case side2 => exact (Kd.R_reads' HO187.out).2.1); rintro e w' ⟨rfl, ⟨nd, rfl⟩⟩; (try first | exact ⟨rfl, _, World.drewN_drewN _ _ _⟩ | exact ⟨rfl, _, Eq.trans (World.drewN_drewN _ _ _) (congrArg (World.drewN _) (Nat.add_assoc _ _ _))⟩)) | (go_at_call 39; (with_reducible refine (spec_sbSep.calls kj66 (rd l0 a1) false _ A85.out).mono ?_); rintro e w99 ⟨rfl, hb⟩; have n0_ := Aside0.mk (Kd.R_below (by (with_reducible repeat (first | apply Kd.R_alloc | apply Kd.R_drewN | apply Kd.R_drew)); exact HO_7.out) hb); have n1_ := Aside0.mk (Kd.R_below (by (with_reducible repeat (first | apply Kd.R_alloc | apply Kd.R_drewN | apply Kd.R_drew)); exact HO187.out) hb); have n2_ := Aside0.mk (below_step (by repeat (first | (with_reducible first | exact HB.out | apply below_alloc | apply pw_below_drewN | apply below_drew1) | exact HB.out)) hb); clear HO_7; clear HO187; clear HB; have HO_7 := n0_; have HO187 := n1_; have HB := n2_; clear n0_ n1_ n2_; (try clear hb); (try clear hb2); (try clear hk); (try clear hi))); try go_wp2_with (first | (go_at_call 43; (with_reducible refine (spec_sbBehind.calls kj66 _ _ t163 false t182 _ ?side1 ?side2 A72.out).mono ?_); (case side1 => repeat (first | exact (Kd.R_reads' HO_7.out).2.2 | (with_reducible refine Kd.C_alloc ?_ _) | (with_reducible refine Kd.C_drewN ?_ _) | (with_reducible refine Kd.C_drew ?_))); (case side2 => exact (Kd.R_reads' HO_7.out).2.1); rintro e w94 ⟨rfl, hb⟩; have n0_ := Aside0.mk (Kd.R_below (by (with_reducible repeat (first | apply Kd.R_alloc | apply Kd.R_drewN | apply Kd.R_drew)); exact HO_7.out) hb); have n1_ := Aside0.mk (below_step (by repeat (first | (with_reducible first | exact HB.out | apply below_alloc | apply pw_below_drewN | apply below_drew1) | exact HB.out)) hb); clear HO_7; clear HB; have HO_7 := n0_; have HB := n1_; clear n0_ n1_; (try clear hb); (try clear hb2); (try clear hk); (try clear hi); have p183 : 0 ≤ (t182 : Int) := of_decide_eq_true (by first | (with_reducible assumption) | assumption); have q183 : t182 < (t163.length : Int) := of_decide_eq_true (by first | (with_reducible assumption) | assumption); obtain ⟨ad183, e183, hx183_0⟩ := Kd.at_int (Kd.R_reads' HO_7.out).2.2 t182 p183 q183; obtain rfl : ad166 = ad183 := (by injection e183); replace p183 := eq_true p183; replace q183 := eq_true q183) | (go_at_call 44; (with_reducible refine (spec_sbTerm.calls kj66 (rd t163 t182) true _ A76.out).mono ?_); rintro e w95 ⟨rfl, hb⟩; have n0_ := Aside0.mk (Kd.R_below (by (with_reducible repeat (first | apply Kd.R_alloc | apply Kd.R_drewN | apply Kd.R_drew)); exact HO_7.out) hb); have n1_ := Aside0.mk (below_step (by repeat (first | (with_reducible first | exact HB.out | apply below_alloc | apply pw_below_drewN | apply below_drew1) | exact HB.out)) hb); clear HO_7; clear HB; have HO_7 := n0_; have HB := n1_; clear n0_ n1_; (try clear hb); (try clear hb2); (try clear hk); (try clear hi)) | ((with_reducible refine gate_dst (N := 105) rfl ?_); (try (refine gate_guard (by rfl) ?_; dsimp only)); refine Kd.R_lit (Kd.int .i64) _ 3 ?hg (N := 105) ?hd (xs := ([13, 6] : List Int)) (inner := [.int .i64 13, .int .i64 6]) (ok := fun _ => True) (okp := fun _ => True) ?hr ?hp (fun _ hk => hk) trivial (Below.refl _ _) (Nat.le_refl _) (by simp) ?_; (case hd => rfl); (case hg => rfl); (case hr => first | (go_simp; done) | (go_simp; rfl)); (case hp => exact (Reps.one (show Kd.M (Kd.int .i64) _ _ _ 13 [.int .i64 13] from rfl) (Reps.one (show Kd.M (Kd.int .i64) _ _ _ 6 [.int .i64 6] from rfl) (Reps.none _ _)))); intro v186 w96 ho97 hb hg_ hnew_; clear hg_ hnew_; (first | rw [← Ny185.out] at ho97 | (simp only [Int.reduceToNat] at ho97; rw [← Ny185.out] at ho97)); have n0_ := Aside0.mk (Kd.R_elder' (by (with_reducible repeat (first | apply Kd.R_alloc | apply Kd.R_drewN | apply Kd.R_drew)); exact HO_7.out) (Kd.R_base ho97) hb); have n1_ := Aside0.mk (Kd.R_lower (Kd.R_new' ho97 (Kd.R_lt (by (with_reducible repeat (first | apply Kd.R_alloc | apply Kd.R_drewN | apply Kd.R_drew)); exact HO_7.out))) (below_size (by repeat (first | (with_reducible first | exact HB.out | apply below_alloc | apply pw_below_drewN | apply below_drew1) | exact HB.out)))); have n2_ := Aside0.mk (below_step (by repeat (first | (with_reducible first | exact HB.out | apply below_alloc | apply pw_below_drewN | apply below_drew1) | exact HB.out)) hb); clear HO_7; clear HB; have HO_7 := n0_; have HO187 := n1_; have HB := n2_; clear n0_ n1_ n2_; clear hb ho97; obtain ⟨Ao98, co98, eo98⟩ := Kd.R_slice HO187.out; subst eo98) | (go_at_call 42; (with_reducible refine (spec_among.calls kj66 (rd l0 a1) _ _ y185 false _ ?side1 ?side2 A78.out).mono ?_); (case side1 => repeat (first | exact (Kd.R_reads' HO187.out).2.2 | (with_reducible refine Kd.C_alloc ?_ _) | (with_reducible refine Kd.C_drewN ?_ _) | (with_reducible refine Kd.C_drew ?_))); (case side2 => exact (Kd.R_reads' HO187.out).2.1); rintro e w' ⟨rfl, ⟨nd, rfl⟩⟩; (try first | exact ⟨rfl, _, World.drewN_drewN _ _ _⟩ | exact ⟨rfl, _, Eq.trans (World.drewN_drewN _ _ _) (congrArg (World.drewN _) (Nat.add_assoc _ _ _))⟩)) | (go_at_call 39; (with_reducible refine (spec_sbSep.calls kj66 (rd l0 a1) false _ A85.out).mono ?_); rintro e w99 ⟨rfl, hb⟩; have n0_ := Aside0.mk (Kd.R_below (by (with_reducible repeat (first | apply Kd.R_alloc | apply Kd.R_drewN | apply Kd.R_drew)); exact HO_7.out) hb); have n1_ := Aside0.mk (Kd.R_below (by (with_reducible repeat (first | apply Kd.R_alloc | apply Kd.R_drewN | apply Kd.R_drew)); exact HO187.out) hb); have n2_ := Aside0.mk (below_step (by repeat (first | (with_reducible first | exact HB.out | apply below_alloc | apply pw_below_drewN | apply below_drew1) | exact HB.out)) hb); clear HO_7; clear HO187; clear HB; have HO_7 := n0_; have HO187 := n1_; have HB := n2_; clear n0_ n1_ n2_; (try clear hb); (try clear hb2); (try clear hk); (try clear hi))))
                                                                go_ret
                                                                exact ⟨by first | rfl | (simp [errW_none, errW_some] <;> rfl) | (simp only [← hji3, ← hji21]; first | rfl | (simp [errW_none, errW_some] <;> rfl)) | (simp [*, errW_none, errW_some] <;> rfl), by repeat (first | (with_reducible first | exact HB.out | apply below_alloc | apply pw_below_drewN | apply below_drew1) | exact HB.out)⟩
                                                              · rw [if_neg c93] at H
                                                                have c93b0 : ((rd l0 a1) == 6) = false := beq_eq_false_iff_ne.mpr c93
                                                                have c93b1 : ((rd l0 a1) != 6) = true := bne_iff_ne.mpr c93
                                                                replace H := Option.bind_eq_some_iff.mp H
                                                                obtain ⟨t190, A1000, H⟩ := H
                                                                replace H : (some (!t190)) = some r := H
                                                                have A100 := Aside0.mk A1000
                                                                clear A1000
                                                                obtain rfl := Option.some.inj (A85.out.symm.trans A100.out)
                                                                obtain rfl := Option.some.inj H
                                                                go_wp2_with (first | (go_at_call 43; (with_reducible refine (spec_sbBehind.calls kj66 _ _ t163 false t182 _ ?side1 ?side2 A72.out).mono ?_); (case side1 => repeat (first | exact (Kd.R_reads' HO_7.out).2.2 | (with_reducible refine Kd.C_alloc ?_ _) | (with_reducible refine Kd.C_drewN ?_ _) | (with_reducible refine Kd.C_drew ?_))); (case side2 => exact (Kd.R_reads' HO_7.out).2.1); rintro e w101 ⟨rfl, hb⟩; have n0_ := Aside0.mk (Kd.R_below (by (with_reducible repeat (first | apply Kd.R_alloc | apply Kd.R_drewN | apply Kd.R_drew)); exact HO_7.out) hb); have n1_ := Aside0.mk (below_step (by repeat (first | (with_reducible first | exact HB.out | apply below_alloc | apply pw_below_drewN | apply below_drew1) | exact HB.out)) hb); clear HO_7; clear HB; have HO_7 := n0_; have HB := n1_; clear n0_ n1_; (try clear hb); (try clear hb2); (try clear hk); (try clear hi); have p183 : 0 ≤ (t182 : Int) := of_decide_eq_true (by first | (with_reducible assumption) | assumption); have q183 : t182 < (t163.length : Int) := of_decide_eq_true (by first | (with_reducible assumption) | assumption); obtain ⟨ad183, e183, hx183_0⟩ := Kd.at_int (Kd.R_reads' HO_7.out).2.2 t182 p183 q183; obtain rfl : ad166 = ad183 := (by injection e183); replace p183 := eq_true p183; replace q183 := eq_true q183) | (go_at_call 44; (with_reducible refine (spec_sbTerm.calls kj66 (rd t163 t182) true _ A76.out).mono ?_); rintro e w102 ⟨rfl, hb⟩; have n0_ := Aside0.mk (Kd.R_below (by (with_reducible repeat (first | apply Kd.R_alloc | apply Kd.R_drewN | apply Kd.R_drew)); exact HO_7.out) hb); have n1_ := Aside0.mk (below_step (by repeat (first | (with_reducible first | exact HB.out | apply below_alloc | apply pw_below_drewN | apply below_drew1) | exact HB.out)) hb); clear HO_7; clear HB; have HO_7 := n0_; have HB := n1_; clear n0_ n1_; (try clear hb); (try clear hb2); (try clear hk); (try clear hi)) | ((with_reducible refine gate_dst (N := 105) rfl ?_); (try (refine gate_guard (by rfl) ?_; dsimp only)); refine Kd.R_lit (Kd.int .i64) _ 3 ?hg (N := 105) ?hd (xs := ([13, 6] : List Int)) (inner := [.int .i64 13, .int .i64 6]) (ok := fun _ => True) (okp := fun _ => True) ?hr ?hp (fun _ hk => hk) trivial (Below.refl _ _) (Nat.le_refl _) (by simp) ?_; (case hd => rfl); (case hg => rfl); (case hr => first | (go_simp; done) | (go_simp; rfl)); (case hp => exact (Reps.one (show Kd.M (Kd.int .i64) _ _ _ 13 [.int .i64 13] from rfl) (Reps.one (show Kd.M (Kd.int .i64) _ _ _ 6 [.int .i64 6] from rfl) (Reps.none _ _)))); intro v186 w103 ho104 hb hg_ hnew_; clear hg_ hnew_; (first | rw [← Ny185.out] at ho104 | (simp only [Int.reduceToNat] at ho104; rw [← Ny185.out] at ho104)); have n0_ := Aside0.mk (Kd.R_elder' (by (with_reducible repeat (first | apply Kd.R_alloc | apply Kd.R_drewN | apply Kd.R_drew)); exact HO_7.out) (Kd.R_base ho104) hb); have n1_ := Aside0.mk (Kd.R_lower (Kd.R_new' ho104 (Kd.R_lt (by (with_reducible repeat (first | apply Kd.R_alloc | apply Kd.R_drewN | apply Kd.R_drew)); exact HO_7.out))) (below_size (by repeat (first | (with_reducible first | exact HB.out | apply below_alloc | apply pw_below_drewN | apply below_drew1) | exact HB.out)))); have n2_ := Aside0.mk (below_step (by repeat (first | (with_reducible first | exact HB.out | apply below_alloc | apply pw_below_drewN | apply below_drew1) | exact HB.out)) hb); clear HO_7; clear HB; have HO_7 := n0_; have HO187 := n1_; have HB := n2_; clear n0_ n1_ n2_; clear hb ho104; obtain ⟨Ao105, co105, eo105⟩ := Kd.R_slice HO187.out; subst eo105) | (go_at_call 42; (with_reducible refine (spec_among.calls kj66 (rd l0 a1) _ _ y185 false _ ?side1 ?side2 A78.out).mono ?_); (case side1 => repeat (first | exact (Kd.R_reads' HO187.out).2.2 | (with_reducible refine Kd.C_alloc ?_ _) | (with_reducible refine Kd.C_drewN ?_ _) | (with_reducible refine Kd.C_drew ?_))); (case side2 => exact (Kd.R_reads' HO187.out).2.1); rintro e w' ⟨rfl, ⟨nd, rfl⟩⟩; (try first | exact ⟨rfl, _, World.drewN_drewN _ _ _⟩ | exact ⟨rfl, _, Eq.trans (World.drewN_drewN _ _ _) (congrArg (World.drewN _) (Nat.add_assoc _ _ _))⟩)) | (go_at_call 39; (with_reducible refine (spec_sbSep.calls kj66 (rd l0 a1) false _ A85.out).mono ?_); rintro e w106 ⟨rfl, hb⟩; have n0_ := Aside0.mk (Kd.R_below (by (with_reducible repeat (first | apply Kd.R_alloc | apply Kd.R_drewN | apply Kd.R_drew)); exact HO_7.out) hb); have n1_ := Aside0.mk (Kd.R_below (by (with_reducible repeat (first | apply Kd.R_alloc | apply Kd.R_drewN | apply Kd.R_drew)); exact HO187.out) hb); have n2_ := Aside0.mk (below_step (by repeat (first | (with_reducible first | exact HB.out | apply below_alloc | apply pw_below_drewN | apply below_drew1) | exact HB.out)) hb); clear HO_7; clear HO187; clear HB; have HO_7 := n0_; have HO187 := n1_; have HB := n2_; clear n0_ n1_ n2_; (try clear hb); (try clear hb2); (try clear hk); (try clear hi)) | (go_at_call 39; (with_reducible refine (spec_sbSep.calls kj66 (rd l0 a1) t190 _ A100.out).mono ?_); rintro e w107 ⟨rfl, hb⟩; have n0_ := Aside0.mk (Kd.R_below (by (with_reducible repeat (first | apply Kd.R_alloc | apply Kd.R_drewN | apply Kd.R_drew)); exact HO_7.out) hb); have n1_ := Aside0.mk (Kd.R_below (by (with_reducible repeat (first | apply Kd.R_alloc | apply Kd.R_drewN | apply Kd.R_drew)); exact HO187.out) hb); have n2_ := Aside0.mk (below_step (by repeat (first | (with_reducible first | exact HB.out | apply below_alloc | apply pw_below_drewN | apply below_drew1) | exact HB.out)) hb); clear HO_7; clear HO187; clear HB; have HO_7 := n0_; have HO187 := n1_; have HB := n2_; clear n0_ n1_ n2_; (try clear hb); (try clear hb2); (try clear hk); (try clear hi)))
                                                                repeat (go_quiet (first | (go_at_call 43; (with_reducible refine (spec_sbBehind.calls kj66 _ _ t163 false t182 _ ?side1 ?side2 A72.out).mono ?_); (case side1 => repeat (first | exact (Kd.R_reads' HO_7.out).2.2 | (with_reducible refine Kd.C_alloc ?_ _) | (with_reducible refine Kd.C_drewN ?_ _) | (with_reducible refine Kd.C_drew ?_))); (case side2 => exact (Kd.R_reads' HO_7.out).2.1); rintro e w101 ⟨rfl, hb⟩; have n0_ := Aside0.mk (Kd.R_below (by (with_reducible repeat (first | apply Kd.R_alloc | apply Kd.R_drewN | apply Kd.R_drew)); exact HO_7.out) hb); have n1_ := Aside0.mk (below_step (by repeat (first | (with_reducible first | exact HB.out | apply below_alloc | apply pw_below_drewN | apply below_drew1) | exact HB.out)) hb); clear HO_7; clear HB; have HO_7 := n0_; have HB := n1_; clear n0_ n1_; (try clear hb); (try clear hb2); (try clear hk); (try clear hi); have p183 : 0 ≤ (t182 : Int) := of_decide_eq_true (by first | (with_reducible assumption) | assumption); have q183 : t182 < (t163.length : Int) := of_decide_eq_true (by first | (with_reducible assumption) | assumption); obtain ⟨ad183, e183, hx183_0⟩ := Kd.at_int (Kd.R_reads' HO_7.out).2.2 t182 p183 q183; obtain rfl : ad166 = ad183 := (by injection e183); replace p183 := eq_true p183; replace q183 := eq_true q183) | (go_at_call 44; (with_reducible refine (spec_sbTerm.calls kj66 (rd t163 t182) true _ A76.out).mono ?_); rintro e w102 ⟨rfl, hb⟩; have n0_ := Aside0.mk (Kd.R_below (by (with_reducible repeat (first | apply Kd.R_alloc | apply Kd.R_drewN | apply Kd.R_drew)); exact HO_7.out) hb); have n1_ := Aside0.mk (below_step (by repeat (first | (with_reducible first | exact HB.out | apply below_alloc | apply pw_below_drewN | apply below_drew1) | exact HB.out)) hb); clear HO_7; clear HB; have HO_7 := n0_; have HB := n1_; clear n0_ n1_; (try clear hb); (try clear hb2); (try clear hk); (try clear hi)) | ((with_reducible refine gate_dst (N := 105) rfl ?_); (try (refine gate_guard (by rfl) ?_; dsimp only)); refine Kd.R_lit (Kd.int .i64) _ 3 ?hg (N := 105) ?hd (xs := ([13, 6] : List Int)) (inner := [.int .i64 13, .int .i64 6]) (ok := fun _ => True) (okp := fun _ => True) ?hr ?hp (fun _ hk => hk) trivial (Below.refl _ _) (Nat.le_refl _) (by simp) ?_; (case hd => rfl); (case hg => rfl); (case hr => first | (go_simp; done) | (go_simp; rfl)); (case hp => exact (Reps.one (show Kd.M (Kd.int .i64) _ _ _ 13 [.int .i64 13] from rfl) (Reps.one (show Kd.M (Kd.int .i64) _ _ _ 6 [.int .i64 6] from rfl) (Reps.none _ _)))); intro v186 w103 ho104 hb hg_ hnew_; clear hg_ hnew_; (first | rw [← Ny185.out] at ho104 | (simp only [Int.reduceToNat] at ho104; rw [← Ny185.out] at ho104)); have n0_ := Aside0.mk (Kd.R_elder' (by (with_reducible repeat (first | apply Kd.R_alloc | apply Kd.R_drewN | apply Kd.R_drew)); exact HO_7.out) (Kd.R_base ho104) hb); have n1_ := Aside0.mk (Kd.R_lower (Kd.R_new' ho104 (Kd.R_lt (by (with_reducible repeat (first | apply Kd.R_alloc | apply Kd.R_drewN | apply Kd.R_drew)); exact HO_7.out))) (below_size (by repeat (first | (with_reducible first | exact HB.out | apply below_alloc | apply pw_below_drewN | apply below_drew1) | exact HB.out)))); have n2_ := Aside0.mk (below_step (by repeat (first | (with_reducible first | exact HB.out | apply below_alloc | apply pw_below_drewN | apply below_drew1) | exact HB.out)) hb); clear HO_7; clear HB; have HO_7 := n0_; have HO187 := n1_; have HB := n2_; clear n0_ n1_ n2_; clear hb ho104; obtain ⟨Ao105, co105, eo105⟩ := Kd.R_slice HO187.out; subst eo105) | (go_at_call 42; (with_reducible refine (spec_among.calls kj66 (rd l0 a1) _ _ y185 false _ ?side1 ?side2 A78.out).mono ?_); (case side1 => repeat (first | exact (Kd.R_reads' HO187.out).2.2 | (with_reducible refine Kd.C_alloc ?_ _) | (with_reducible refine Kd.C_drewN ?_ _) | (with_reducible refine Kd.C_drew ?_))); (case side2 => exact (Kd.R_reads' HO187.out).2.1); rintro e w' ⟨rfl, ⟨nd, rfl⟩⟩; (try first | exact ⟨rfl, _, World.drewN_drewN _ _ _⟩ | exact ⟨rfl, _, Eq.trans (World.drewN_drewN _ _ _) (congrArg (World.drewN _) (Nat.add_assoc _ _ _))⟩)) | (go_at_call 39; (with_reducible refine (spec_sbSep.calls kj66 (rd l0 a1) false _ A85.out).mono ?_); rintro e w106 ⟨rfl, hb⟩; have n0_ := Aside0.mk (Kd.R_below (by (with_reducible repeat (first | apply Kd.R_alloc | apply Kd.R_drewN | apply Kd.R_drew)); exact HO_7.out) hb); have n1_ := Aside0.mk (Kd.R_below (by (with_reducible repeat (first | apply Kd.R_alloc | apply Kd.R_drewN | apply Kd.R_drew)); exact HO187.out) hb); have n2_ := Aside0.mk (below_step (by repeat (first | (with_reducible first | exact HB.out | apply below_alloc | apply pw_below_drewN | apply below_drew1) | exact HB.out)) hb); clear HO_7; clear HO187; clear HB; have HO_7 := n0_; have HO187 := n1_; have HB := n2_; clear n0_ n1_ n2_; (try clear hb); (try clear hb2); (try clear hk); (try clear hi)) | (go_at_call 39; (with_reducible refine (spec_sbSep.calls kj66 (rd l0 a1) t190 _ A100.out).mono ?_); rintro e w107 ⟨rfl, hb⟩; have n0_ := Aside0.mk (Kd.R_below (by (with_reducible repeat (first | apply Kd.R_alloc | apply Kd.R_drewN | apply Kd.R_drew)); exact HO_7.out) hb); have n1_ := Aside0.mk (Kd.R_below (by (with_reducible repeat (first | apply Kd.R_alloc | apply Kd.R_drewN | apply Kd.R_drew)); exact HO187.out) hb); have n2_ := Aside0.mk (below_step (by repeat (first | (with_reducible first | exact HB.out | apply below_alloc | apply pw_below_drewN | apply below_drew1) | exact HB.out)) hb); clear HO_7; clear HO187; clear HB; have HO_7 := n0_; have HO187 := n1_; have HB := n2_; clear n0_ n1_ n2_; (try clear hb); (try clear hb2); (try clear hk); (try clear hi))); try go_wp2_with (first | (go_at_call 43; (with_reducible refine (spec_sbBehind.calls kj66 _ _ t163 false t182 _ ?side1 ?side2 A72.out).mono ?_); (case side1 => repeat (first | exact (Kd.R_reads' HO_7.out).2.2 | (with_reducible refine Kd.C_alloc ?_ _) | (with_reducible refine Kd.C_drewN ?_ _) | (with_reducible refine Kd.C_drew ?_))); (case side2 => exact (Kd.R_reads' HO_7.out).2.1); rintro e w101 ⟨rfl, hb⟩; have n0_ := Aside0.mk (Kd.R_below (by (with_reducible repeat (first | apply Kd.R_alloc | apply Kd.R_drewN | apply Kd.R_drew)); exact HO_7.out) hb); have n1_ := Aside0.mk (below_step (by repeat (first | (with_reducible first | exact HB.out | apply below_alloc | apply pw_below_drewN | apply below_drew1) | exact HB.out)) hb); clear HO_7; clear HB; have HO_7 := n0_; have HB := n1_; clear n0_ n1_; (try clear hb); (try clear hb2); (try clear hk); (try clear hi); have p183 : 0 ≤ (t182 : Int) := of_decide_eq_true (by first | (with_reducible assumption) | assumption); have q183 : t182 < (t163.length : Int) := of_decide_eq_true (by first | (with_reducible assumption) | assumption); obtain ⟨ad183, e183, hx183_0⟩ := Kd.at_int (Kd.R_reads' HO_7.out).2.2 t182 p183 q183; obtain rfl : ad166 = ad183 := (by injection e183); replace p183 := eq_true p183; replace q183 := eq_true q183) | (go_at_call 44; (with_reducible refine (spec_sbTerm.calls kj66 (rd t163 t182) true _ A76.out).mono ?_); rintro e w102 ⟨rfl, hb⟩; have n0_ := Aside0.mk (Kd.R_below (by (with_reducible repeat (first | apply Kd.R_alloc | apply Kd.R_drewN | apply Kd.R_drew)); exact HO_7.out) hb); have n1_ := Aside0.mk (below_step (by repeat (first | (with_reducible first | exact HB.out | apply below_alloc | apply pw_below_drewN | apply below_drew1) | exact HB.out)) hb); clear HO_7; clear HB; have HO_7 := n0_; have HB := n1_; clear n0_ n1_; (try clear hb); (try clear hb2); (try clear hk); (try clear hi)) | ((with_reducible refine gate_dst (N := 105) rfl ?_); (try (refine gate_guard (by rfl) ?_; dsimp only)); refine Kd.R_lit (Kd.int .i64) _ 3 ?hg (N := 105) ?hd (xs := ([13, 6] : List Int)) (inner := [.int .i64 13, .int .i64 6]) (ok := fun _ => True) (okp := fun _ => True) ?hr ?hp (fun _ hk => hk) trivial (Below.refl _ _) (Nat.le_refl _) (by simp) ?_; (case hd => rfl); (case hg => rfl); (case hr => first | (go_simp; done) | (go_simp; rfl)); (case hp => exact (Reps.one (show Kd.M (Kd.int .i64) _ _ _ 13 [.int .i64 13] from rfl) (Reps.one (show Kd.M (Kd.int .i64) _ _ _ 6 [.int .i64 6] from rfl) (Reps.none _ _)))); intro v186 w103 ho104 hb hg_ hnew_; clear hg_ hnew_; (first | rw [← Ny185.out] at ho104 | (simp only [Int.reduceToNat] at ho104; rw [← Ny185.out] at ho104)); have n0_ := Aside0.mk (Kd.R_elder' (by (with_reducible repeat (first | apply Kd.R_alloc | apply Kd.R_drewN | apply Kd.R_drew)); exact HO_7.out) (Kd.R_base ho104) hb); have n1_ := Aside0.mk (Kd.R_lower (Kd.R_new' ho104 (Kd.R_lt (by (with_reducible repeat (first | apply Kd.R_alloc | apply Kd.R_drewN | apply Kd.R_drew)); exact HO_7.out))) (below_size (by repeat (first | (with_reducible first | exact HB.out | apply below_alloc | apply pw_below_drewN | apply below_drew1) | exact HB.out)))); have n2_ := Aside0.mk (below_step (by repeat (first | (with_reducible first | exact HB.out | apply below_alloc | apply pw_below_drewN | apply below_drew1) | exact HB.out)) hb); clear HO_7; clear HB; have HO_7 := n0_; have HO187 := n1_; have HB := n2_; clear n0_ n1_ n2_; clear hb ho104; obtain ⟨Ao105, co105, eo105⟩ := Kd.R_slice HO187.out; subst eo105) | (go_at_call 42; (with_reducible refine (spec_among.calls kj66 (rd l0 a1) _ _ y185 false _ ?side1 ?side2 A78.out).mono ?_); (case side1 => repeat (first | exact (Kd.R_reads' HO187.out).2.2 | (with_reducible refine Kd.C_alloc ?_ _) | (with_reducible refine Kd.C_drewN ?_ _) | (with_reducible refine Kd.C_drew ?_))); (case side2 => exact (Kd.R_reads' HO187.out).2.1); rintro e w' ⟨rfl, ⟨nd, rfl⟩⟩; (try first | exact ⟨rfl, _, World.drewN_drewN _ _ _⟩ | exact ⟨rfl, _, Eq.trans (World.drewN_drewN _ _ _) (congrArg (World.drewN _) (Nat.add_assoc _ _ _))⟩)) | (go_at_call 39; (with_reducible refine (spec_sbSep.calls kj66 (rd l0 a1) false _ A85.out).mono ?_); rintro e w106 ⟨rfl, hb⟩; have n0_ := Aside0.mk (Kd.R_below (by (with_reducible repeat (first | apply Kd.R_alloc | apply Kd.R_drewN | apply Kd.R_drew)); exact HO_7.out) hb); have n1_ := Aside0.mk (Kd.R_below (by (with_reducible repeat (first | apply Kd.R_alloc | apply Kd.R_drewN | apply Kd.R_drew)); exact HO187.out) hb); have n2_ := Aside0.mk (below_step (by repeat (first | (with_reducible first | exact HB.out | apply below_alloc | apply pw_below_drewN | apply below_drew1) | exact HB.out)) hb); clear HO_7; clear HO187; clear HB; have HO_7 := n0_; have HO187 := n1_; have HB := n2_; clear n0_ n1_ n2_; (try clear hb); (try clear hb2); (try clear hk); (try clear hi)) | (go_at_call 39; (with_reducible refine (spec_sbSep.calls kj66 (rd l0 a1) t190 _ A100.out).mono ?_); rintro e w107 ⟨rfl, hb⟩; have n0_ := Aside0.mk (Kd.R_below (by (with_reducible repeat (first | apply Kd.R_alloc | apply Kd.R_drewN | apply Kd.R_drew)); exact HO_7.out) hb); have n1_ := Aside0.mk (Kd.R_below (by (with_reducible repeat (first | apply Kd.R_alloc | apply Kd.R_drewN | apply Kd.R_drew)); exact HO187.out) hb); have n2_ := Aside0.mk (below_step (by repeat (first | (with_reducible first | exact HB.out | apply below_alloc | apply pw_below_drewN | apply below_drew1) | exact HB.out)) hb); clear HO_7; clear HO187; clear HB; have HO_7 := n0_; have HO187 := n1_; have HB := n2_; clear n0_ n1_ n2_; (try clear hb); (try clear hb2); (try clear hk); (try clear hi))))
                                                                go_ret
                                                                exact ⟨by first | rfl | (simp [errW_none, errW_some] <;> rfl) | (simp only [← hji3, ← hji21]; first | rfl | (simp [errW_none, errW_some] <;> rfl)) | (simp [*, errW_none, errW_some] <;> rfl), by repeat (first | (with_reducible first | exact HB.out | apply below_alloc | apply pw_below_drewN | apply below_drew1) | exact HB.out)⟩
                                                        · replace c77 := Bool.eq_false_iff.mpr c77
                                                          subst c77
                                                          have H1 : (if (rd l0 a1) = 6 then (some false) else ((spec_sbSep.f kj66 (rd l0 a1)).bind fun t191 => (some (!t191)))) = some r := by rw [if_neg (show ¬ (false = true) by decide)] at H; exact H
                                                          clear H
                                                          have H := H1
                                                          clear H1
                                                          by_cases c108 : (rd l0 a1) = 6
                                                          · rw [if_pos c108] at H
                                                            have c108b0 : ((rd l0 a1) == 6) = true := beq_iff_eq.mpr c108
                                                            have c108b1 : ((rd l0 a1) != 6) = false := bne_eq_false_iff_eq.mpr c108
                                                            clear c108
                                                            obtain rfl := Option.some.inj H
                                                            go_wp2_with (first | (go_at_call 43; (with_reducible refine (spec_sbBehind.calls kj66 _ _ t163 false t182 _ ?side1 ?side2 A72.out).mono ?_); (case side1 => repeat (first | exact (Kd.R_reads' HO_7.out).2.2 | (with_reducible refine Kd.C_alloc ?_ _) | (with_reducible refine Kd.C_drewN ?_ _) | (with_reducible refine Kd.C_drew ?_))); (case side2 => exact (Kd.R_reads' HO_7.out).2.1); rintro e w109 ⟨rfl, hb⟩; have n0_ := Aside0.mk (Kd.R_below (by (with_reducible repeat (first | apply Kd.R_alloc | apply Kd.R_drewN | apply Kd.R_drew)); exact HO_7.out) hb); have n1_ := Aside0.mk (below_step (by repeat (first | (with_reducible first | exact HB.out | apply below_alloc | apply pw_below_drewN | apply below_drew1) | exact HB.out)) hb); clear HO_7; clear HB; have HO_7 := n0_; have HB := n1_; clear n0_ n1_; (try clear hb); (try clear hb2); (try clear hk); (try clear hi); have p183 : 0 ≤ (t182 : Int) := of_decide_eq_true (by first | (with_reducible assumption) | assumption); have q183 : t182 < (t163.length : Int) := of_decide_eq_true (by first | (with_reducible assumption) | assumption); obtain ⟨ad183, e183, hx183_0⟩ := Kd.at_int (Kd.R_reads' HO_7.out).2.2 t182 p183 q183; obtain rfl : ad166 = ad183 := (by injection e183); replace p183 := eq_true p183; replace q183 := eq_true q183) | (go_at_call 44; (with_reducible refine (spec_sbTerm.calls kj66 (rd t163 t182) false _ A76.out).mono ?_); rintro e w110 ⟨rfl, hb⟩; have n0_ := Aside0.mk (Kd.R_below (by (with_reducible repeat (first | apply Kd.R_alloc | apply Kd.R_drewN | apply Kd.R_drew)); exact HO_7.out) hb); have n1_ := Aside0.mk (below_step (by repeat (first | (with_reducible first | exact HB.out | apply below_alloc | apply pw_below_drewN | apply below_drew1) | exact HB.out)) hb); clear HO_7; clear HB; have HO_7 := n0_; have HB := n1_; clear n0_ n1_; (try clear hb); (try clear hb2); (try clear hk); (try clear hi)))
                                                            repeat (go_quiet (first | (go_at_call 43; (with_reducible refine (spec_sbBehind.calls kj66 _ _ t163 false t182 _ ?side1 ?side2 A72.out).mono ?_); (case side1 => repeat (first | exact (Kd.R_reads' HO_7.out).2.2 | (with_reducible refine Kd.C_alloc ?_ _) | (with_reducible refine Kd.C_drewN ?_ _) | (with_reducible refine Kd.C_drew ?_))); (case side2 => exact (Kd.R_reads' HO_7.out).2.1); rintro e w109 ⟨rfl, hb⟩; have n0_ := Aside0.mk (Kd.R_below (by (with_reducible repeat (first | apply Kd.R_alloc | apply Kd.R_drewN | apply Kd.R_drew)); exact HO_7.out) hb); have n1_ := Aside0.mk (below_step (by repeat (first | (with_reducible first | exact HB.out | apply below_alloc | apply pw_below_drewN | apply below_drew1) | exact HB.out)) hb); clear HO_7; clear HB; have HO_7 := n0_; have HB := n1_; clear n0_ n1_; (try clear hb); (try clear hb2); (try clear hk); (try clear hi); have p183 : 0 ≤ (t182 : Int) := of_decide_eq_true (by first | (with_reducible assumption) | assumption); have q183 : t182 < (t163.length : Int) := of_decide_eq_true (by first | (with_reducible assumption) | assumption); obtain ⟨ad183, e183, hx183_0⟩ := Kd.at_int (Kd.R_reads' HO_7.out).2.2 t182 p183 q183; obtain rfl : ad166 = ad183 := (by injection e183); replace p183 := eq_true p183; replace q183 := eq_true q183) | (go_at_call 44; (with_reducible refine (spec_sbTerm.calls kj66 (rd t163 t182) false _ A76.out).mono ?_); rintro e w110 ⟨rfl, hb⟩; have n0_ := Aside0.mk (Kd.R_below (by (with_reducible repeat (first | apply Kd.R_alloc | apply Kd.R_drewN | apply Kd.R_drew)); exact HO_7.out) hb); have n1_ := Aside0.mk (below_step (by repeat (first | (with_reducible first | exact HB.out | apply below_alloc | apply pw_below_drewN | apply below_drew1) | exact HB.out)) hb); clear HO_7; clear HB; have HO_7 := n0_; have HB := n1_; clear n0_ n1_; (try clear hb); (try clear hb2); (try clear hk); (try clear hi))); try go_wp2_with (first | (go_at_call 43; (with_reducible refine (spec_sbBehind.calls kj66 _ _ t163 false t182 _ ?side1 ?side2 A72.out).mono ?_); (case side1 => repeat (first | exact (Kd.R_reads' HO_7.out).2.2 | (with_reducible refine Kd.C_alloc ?_ _) | (with_reducible refine Kd.C_drewN ?_ _) | (with_reducible refine Kd.C_drew ?_))); (case side2 => exact (Kd.R_reads' HO_7.out).2.1); rintro e w109 ⟨rfl, hb⟩; have n0_ := Aside0.mk (Kd.R_below (by (with_reducible repeat (first | apply Kd.R_alloc | apply Kd.R_drewN | apply Kd.R_drew)); exact HO_7.out) hb); have n1_ := Aside0.mk (below_step (by repeat (first | (with_reducible first | exact HB.out | apply below_alloc | apply pw_below_drewN | apply below_drew1) | exact HB.out)) hb); clear HO_7; clear HB; have HO_7 := n0_; have HB := n1_; clear n0_ n1_; (try clear hb); (try clear hb2); (try clear hk); (try clear hi); have p183 : 0 ≤ (t182 : Int) := of_decide_eq_true (by first | (with_reducible assumption) | assumption); have q183 : t182 < (t163.length : Int) := of_decide_eq_true (by first | (with_reducible assumption) | assumption); obtain ⟨ad183, e183, hx183_0⟩ := Kd.at_int (Kd.R_reads' HO_7.out).2.2 t182 p183 q183; obtain rfl : ad166 = ad183 := (by injection e183); replace p183 := eq_true p183; replace q183 := eq_true q183) | (go_at_call 44; (with_reducible refine (spec_sbTerm.calls kj66 (rd t163 t182) false _ A76.out).mono ?_); rintro e w110 ⟨rfl, hb⟩; have n0_ := Aside0.mk (Kd.R_below (by (with_reducible repeat (first | apply Kd.R_alloc | apply Kd.R_drewN | apply Kd.R_drew)); exact HO_7.out) hb); have n1_ := Aside0.mk (below_step (by repeat (first | (with_reducible first | exact HB.out | apply below_alloc | apply pw_below_drewN | apply below_drew1) | exact HB.out)) hb); clear HO_7; clear HB; have HO_7 := n0_; have HB := n1_; clear n0_ n1_; (try clear hb); (try clear hb2); (try clear hk); (try clear hi))))
                                                            go_ret
                                                            exact ⟨by first | rfl | (simp [errW_none, errW_some] <;> rfl) | (simp only [← hji3, ← hji21]; first | rfl | (simp [errW_none, errW_some] <;> rfl)) | (simp [*, errW_none, errW_some] <;> rfl), by repeat (first | (with_reducible first | exact HB.out | apply below_alloc | apply pw_below_drewN | apply below_drew1) | exact HB.out)⟩
                                                          · rw [if_neg c108] at H
                                                            have c108b0 : ((rd l0 a1) == 6) = false := beq_eq_false_iff_ne.mpr c108
                                                            have c108b1 : ((rd l0 a1) != 6) = true := bne_iff_ne.mpr c108
                                                            replace H := Option.bind_eq_some_iff.mp H
                                                            obtain ⟨t191, A1110, H⟩ := H
                                                            replace H : (some (!t191)) = some r := H
                                                            have A111 := Aside0.mk A1110
                                                            clear A1110
                                                            obtain rfl := Option.some.inj H
                                                            go_wp2_with (first | (go_at_call 43; (with_reducible refine (spec_sbBehind.calls kj66 _ _ t163 false t182 _ ?side1 ?side2 A72.out).mono ?_); (case side1 => repeat (first | exact (Kd.R_reads' HO_7.out).2.2 | (with_reducible refine Kd.C_alloc ?_ _) | (with_reducible refine Kd.C_drewN ?_ _) | (with_reducible refine Kd.C_drew ?_))); (case side2 => exact (Kd.R_reads' HO_7.out).2.1); rintro e w112 ⟨rfl, hb⟩; have n0_ := Aside0.mk (Kd.R_below (by (with_reducible repeat (first | apply Kd.R_alloc | apply Kd.R_drewN | apply Kd.R_drew)); exact HO_7.out) hb); have n1_ := Aside0.mk (below_step (by repeat (first | (with_reducible first | exact HB.out | apply below_alloc | apply pw_below_drewN | apply below_drew1) | exact HB.out)) hb); clear HO_7; clear HB; have HO_7 := n0_; have HB := n1_; clear n0_ n1_; (try clear hb); (try clear hb2); (try clear hk); (try clear hi); have p183 : 0 ≤ (t182 : Int) := of_decide_eq_true (by first | (with_reducible assumption) | assumption); have q183 : t182 < (t163.length : Int) := of_decide_eq_true (by first | (with_reducible assumption) | assumption); obtain ⟨ad183, e183, hx183_0⟩ := Kd.at_int (Kd.R_reads' HO_7.out).2.2 t182 p183 q183; obtain rfl : ad166 = ad183 := (by injection e183); replace p183 := eq_true p183; replace q183 := eq_true q183) | (go_at_call 44; (with_reducible refine (spec_sbTerm.calls kj66 (rd t163 t182) false _ A76.out).mono ?_); rintro e w113 ⟨rfl, hb⟩; have n0_ := Aside0.mk (Kd.R_below (by (with_reducible repeat (first | apply Kd.R_alloc | apply Kd.R_drewN | apply Kd.R_drew)); exact HO_7.out) hb); have n1_ := Aside0.mk (below_step (by repeat (first | (with_reducible first | exact HB.out | apply below_alloc | apply pw_below_drewN | apply below_drew1) | exact HB.out)) hb); clear HO_7; clear HB; have HO_7 := n0_; have HB := n1_; clear n0_ n1_; (try clear hb); (try clear hb2); (try clear hk); (try clear hi)) | (go_at_call 39; (with_reducible refine (spec_sbSep.calls kj66 (rd l0 a1) t191 _ A111.out).mono ?_); rintro e w114 ⟨rfl, hb⟩; have n0_ := Aside0.mk (Kd.R_below (by (with_reducible repeat (first | apply Kd.R_alloc | apply Kd.R_drewN | apply Kd.R_drew)); exact HO_7.out) hb); have n1_ := Aside0.mk (below_step (by repeat (first | (with_reducible first | exact HB.out | apply below_alloc | apply pw_below_drewN | apply below_drew1) | exact HB.out)) hb); clear HO_7; clear HB; have HO_7 := n0_; have HB := n1_; clear n0_ n1_; (try clear hb); (try clear hb2); (try clear hk); (try clear hi)))
                                                            repeat (go_quiet (first | (go_at_call 43; (with_reducible refine (spec_sbBehind.calls kj66 _ _ t163 false t182 _ ?side1 ?side2 A72.out).mono ?_); (case side1 => repeat (first | exact (Kd.R_reads' HO_7.out).2.2 | (with_reducible refine Kd.C_alloc ?_ _) | (with_reducible refine Kd.C_drewN ?_ _) | (with_reducible refine Kd.C_drew ?_))); (case side2 => exact (Kd.R_reads' HO_7.out).2.1); rintro e w112 ⟨rfl, hb⟩; have n0_ := Aside0.mk (Kd.R_below (by (with_reducible repeat (first | apply Kd.R_alloc | apply Kd.R_drewN | apply Kd.R_drew)); exact HO_7.out) hb); have n1_ := Aside0.mk (below_step (by repeat (first | (with_reducible first | exact HB.out | apply below_alloc | apply pw_below_drewN | apply below_drew1) | exact HB.out)) hb); clear HO_7; clear HB; have HO_7 := n0_; have HB := n1_; clear n0_ n1_; (try clear hb); (try clear hb2); (try clear hk); (try clear hi); have p183 : 0 ≤ (t182 : Int) := of_decide_eq_true (by first | (with_reducible assumption) | assumption); have q183 : t182 < (t163.length : Int) := of_decide_eq_true (by first | (with_reducible assumption) | assumption); obtain ⟨ad183, e183, hx183_0⟩ := Kd.at_int (Kd.R_reads' HO_7.out).2.2 t182 p183 q183; obtain rfl : ad166 = ad183 := (by injection e183); replace p183 := eq_true p183; replace q183 := eq_true q183) | (go_at_call 44; (with_reducible refine (spec_sbTerm.calls kj66 (rd t163 t182) false _ A76.out).mono ?_); rintro e w113 ⟨rfl, hb⟩; have n0_ := Aside0.mk (Kd.R_below (by (with_reducible repeat (first | apply Kd.R_alloc | apply Kd.R_drewN | apply Kd.R_drew)); exact HO_7.out) hb); have n1_ := Aside0.mk (below_step (by repeat (first | (with_reducible first | exact HB.out | apply below_alloc | apply pw_below_drewN | apply below_drew1) | exact HB.out)) hb); clear HO_7; clear HB; have HO_7 := n0_; have HB := n1_; clear n0_ n1_; (try clear hb); (try clear hb2); (try clear hk); (try clear hi)) | (go_at_call 39; (with_reducible refine (spec_sbSep.calls kj66 (rd l0 a1) t191 _ A111.out).mono ?_); rintro e w114 ⟨rfl, hb⟩; have n0_ := Aside0.mk (Kd.R_below (by (with_reducible repeat (first | apply Kd.R_alloc | apply Kd.R_drewN | apply Kd.R_drew)); exact HO_7.out) hb); have n1_ := Aside0.mk (below_step (by repeat (first | (with_reducible first | exact HB.out | apply below_alloc | apply pw_below_drewN | apply below_drew1) | exact HB.out)) hb); clear HO_7; clear HB; have HO_7 := n0_; have HB := n1_; clear n0_ n1_; (try clear hb); (try clear hb2); (try clear hk); (try clear hi))); try go_wp2_with (first | (go_at_call 43; (with_reducible refine (spec_sbBehind.calls kj66 _ _ t163 false t182 _ ?side1 ?side2 A72.out).mono ?_); (case side1 => repeat (first | exact (Kd.R_reads' HO_7.out).2.2 | (with_reducible refine Kd.C_alloc ?_ _) | (with_reducible refine Kd.C_drewN ?_ _) | (with_reducible refine Kd.C_drew ?_))); (case side2 => exact (Kd.R_reads' HO_7.out).2.1); rintro e w112 ⟨rfl, hb⟩; have n0_ := Aside0.mk (Kd.R_below (by (with_reducible repeat (first | apply Kd.R_alloc | apply Kd.R_drewN | apply Kd.R_drew)); exact HO_7.out) hb); have n1_ := Aside0.mk (below_step (by repeat (first | (with_reducible first | exact HB.out | apply below_alloc | apply pw_below_drewN | apply below_drew1) | exact HB.out)) hb); clear HO_7; clear HB; have HO_7 := n0_; have HB := n1_; clear n0_ n1_; (try clear hb); (try clear hb2); (try clear hk); (try clear hi); have p183 : 0 ≤ (t182 : Int) := of_decide_eq_true (by first | (with_reducible assumption) | assumption); have q183 : t182 < (t163.length : Int) := of_decide_eq_true (by first | (with_reducible assumption) | assumption); obtain ⟨ad183, e183, hx183_0⟩ := Kd.at_int (Kd.R_reads' HO_7.out).2.2 t182 p183 q183; obtain rfl : ad166 = ad183 := (by injection e183); replace p183 := eq_true p183; replace q183 := eq_true q183) | (go_at_call 44; (with_reducible refine (spec_sbTerm.calls kj66 (rd t163 t182) false _ A76.out).mono ?_); rintro e w113 ⟨rfl, hb⟩; have n0_ := Aside0.mk (Kd.R_below (by (with_reducible repeat (first | apply Kd.R_alloc | apply Kd.R_drewN | apply Kd.R_drew)); exact HO_7.out) hb); have n1_ := Aside0.mk (below_step (by repeat (first | (with_reducible first | exact HB.out | apply below_alloc | apply pw_below_drewN | apply below_drew1) | exact HB.out)) hb); clear HO_7; clear HB; have HO_7 := n0_; have HB := n1_; clear n0_ n1_; (try clear hb); (try clear hb2); (try clear hk); (try clear hi)) | (go_at_call 39; (with_reducible refine (spec_sbSep.calls kj66 (rd l0 a1) t191 _ A111.out).mono ?_); rintro e w114 ⟨rfl, hb⟩; have n0_ := Aside0.mk (Kd.R_below (by (with_reducible repeat (first | apply Kd.R_alloc | apply Kd.R_drewN | apply Kd.R_drew)); exact HO_7.out) hb); have n1_ := Aside0.mk (below_step (by repeat (first | (with_reducible first | exact HB.out | apply below_alloc | apply pw_below_drewN | apply below_drew1) | exact HB.out)) hb); clear HO_7; clear HB; have HO_7 := n0_; have HB := n1_; clear n0_ n1_; (try clear hb); (try clear hb2); (try clear hk); (try clear hi))))
                                                            go_ret
                                                            exact ⟨by first | rfl | (simp [errW_none, errW_some] <;> rfl) | (simp only [← hji3, ← hji21]; first | rfl | (simp [errW_none, errW_some] <;> rfl)) | (simp [*, errW_none, errW_some] <;> rfl), by repeat (first | (with_reducible first | exact HB.out | apply below_alloc | apply pw_below_drewN | apply below_drew1) | exact HB.out)⟩
                                                      · rw [if_neg c75] at H
                                                        exact absurd H (by simp)
                                                    · rw [if_neg c74] at H
                                                      exact absurd H (by simp)
                                                  · rw [if_neg c73] at H
                                                    have c73b0 : decide (0 ≤ t182) = false := decide_eq_false c73
                                                    clear c73
                                                    by_cases c115 : (rd l0 a1) = 6
                                                    · rw [if_pos c115] at H
                                                      have c115b0 : ((rd l0 a1) == 6) = true := beq_iff_eq.mpr c115
                                                      have c115b1 : ((rd l0 a1) != 6) = false := bne_eq_false_iff_eq.mpr c115
                                                      clear c115
                                                      obtain rfl := Option.some.inj H
                                                      go_wp2_with (first | (go_at_call 43; (with_reducible refine (spec_sbBehind.calls kj66 _ _ t163 false t182 _ ?side1 ?side2 A72.out).mono ?_); (case side1 => repeat (first | exact (Kd.R_reads' HO_7.out).2.2 | (with_reducible refine Kd.C_alloc ?_ _) | (with_reducible refine Kd.C_drewN ?_ _) | (with_reducible refine Kd.C_drew ?_))); (case side2 => exact (Kd.R_reads' HO_7.out).2.1); rintro e w116 ⟨rfl, hb⟩; have n0_ := Aside0.mk (Kd.R_below (by (with_reducible repeat (first | apply Kd.R_alloc | apply Kd.R_drewN | apply Kd.R_drew)); exact HO_7.out) hb); have n1_ := Aside0.mk (below_step (by repeat (first | (with_reducible first | exact HB.out | apply below_alloc | apply pw_below_drewN | apply below_drew1) | exact HB.out)) hb); clear HO_7; clear HB; have HO_7 := n0_; have HB := n1_; clear n0_ n1_; (try clear hb); (try clear hb2); (try clear hk); (try clear hi)))
                                                      repeat (go_quiet (first | (go_at_call 43; (with_reducible refine (spec_sbBehind.calls kj66 _ _ t163 false t182 _ ?side1 ?side2 A72.out).mono ?_); (case side1 => repeat (first | exact (Kd.R_reads' HO_7.out).2.2 | (with_reducible refine Kd.C_alloc ?_ _) | (with_reducible refine Kd.C_drewN ?_ _) | (with_reducible refine Kd.C_drew ?_))); (case side2 => exact (Kd.R_reads' HO_7.out).2.1); rintro e w116 ⟨rfl, hb⟩; have n0_ := Aside0.mk (Kd.R_below (by (with_reducible repeat (first | apply Kd.R_alloc | apply Kd.R_drewN | apply Kd.R_drew)); exact HO_7.out) hb); have n1_ := Aside0.mk (below_step (by repeat (first | (with_reducible first | exact HB.out | apply below_alloc | apply pw_below_drewN | apply below_drew1) | exact HB.out)) hb); clear HO_7; clear HB; have HO_7 := n0_; have HB := n1_; clear n0_ n1_; (try clear hb); (try clear hb2); (try clear hk); (try clear hi))); try go_wp2_with (first | (go_at_call 43; (with_reducible refine (spec_sbBehind.calls kj66 _ _ t163 false t182 _ ?side1 ?side2 A72.out).mono ?_); (case side1 => repeat (first | exact (Kd.R_reads' HO_7.out).2.2 | (with_reducible refine Kd.C_alloc ?_ _) | (with_reducible refine Kd.C_drewN ?_ _) | (with_reducible refine Kd.C_drew ?_))); (case side2 => exact (Kd.R_reads' HO_7.out).2.1); rintro e w116 ⟨rfl, hb⟩; have n0_ := Aside0.mk (Kd.R_below (by (with_reducible repeat (first | apply Kd.R_alloc | apply Kd.R_drewN | apply Kd.R_drew)); exact HO_7.out) hb); have n1_ := Aside0.mk (below_step (by repeat (first | (with_reducible first | exact HB.out | apply below_alloc | apply pw_below_drewN | apply below_drew1) | exact HB.out)) hb); clear HO_7; clear HB; have HO_7 := n0_; have HB := n1_; clear n0_ n1_; (try clear hb); (try clear hb2); (try clear hk); (try clear hi))))
                                                      go_ret
                                                      exact ⟨by first | rfl | (simp [errW_none, errW_some] <;> rfl) | (simp only [← hji3, ← hji21]; first | rfl | (simp [errW_none, errW_some] <;> rfl)) | (simp [*, errW_none, errW_some] <;> rfl), by repeat (first | (with_reducible first | exact HB.out | apply below_alloc | apply pw_below_drewN | apply below_drew1) | exact HB.out)⟩
                                                    · rw [if_neg c115] at H
                                                      have c115b0 : ((rd l0 a1) == 6) = false := beq_eq_false_iff_ne.mpr c115
                                                      have c115b1 : ((rd l0 a1) != 6) = true := bne_iff_ne.mpr c115
                                                      replace H := Option.bind_eq_some_iff.mp H
                                                      obtain ⟨t192, A1170, H⟩ := H
                                                      replace H : (some (!t192)) = some r := H
                                                      have A117 := Aside0.mk A1170
                                                      clear A1170
                                                      obtain rfl := Option.some.inj H
                                                      go_wp2_with (first | (go_at_call 43; (with_reducible refine (spec_sbBehind.calls kj66 _ _ t163 false t182 _ ?side1 ?side2 A72.out).mono ?_); (case side1 => repeat (first | exact (Kd.R_reads' HO_7.out).2.2 | (with_reducible refine Kd.C_alloc ?_ _) | (with_reducible refine Kd.C_drewN ?_ _) | (with_reducible refine Kd.C_drew ?_))); (case side2 => exact (Kd.R_reads' HO_7.out).2.1); rintro e w118 ⟨rfl, hb⟩; have n0_ := Aside0.mk (Kd.R_below (by (with_reducible repeat (first | apply Kd.R_alloc | apply Kd.R_drewN | apply Kd.R_drew)); exact HO_7.out) hb); have n1_ := Aside0.mk (below_step (by repeat (first | (with_reducible first | exact HB.out | apply below_alloc | apply pw_below_drewN | apply below_drew1) | exact HB.out)) hb); clear HO_7; clear HB; have HO_7 := n0_; have HB := n1_; clear n0_ n1_; (try clear hb); (try clear hb2); (try clear hk); (try clear hi)) | (go_at_call 39; (with_reducible refine (spec_sbSep.calls kj66 (rd l0 a1) t192 _ A117.out).mono ?_); rintro e w119 ⟨rfl, hb⟩; have n0_ := Aside0.mk (Kd.R_below (by (with_reducible repeat (first | apply Kd.R_alloc | apply Kd.R_drewN | apply Kd.R_drew)); exact HO_7.out) hb); have n1_ := Aside0.mk (below_step (by repeat (first | (with_reducible first | exact HB.out | apply below_alloc | apply pw_below_drewN | apply below_drew1) | exact HB.out)) hb); clear HO_7; clear HB; have HO_7 := n0_; have HB := n1_; clear n0_ n1_; (try clear hb); (try clear hb2); (try clear hk); (try clear hi)))
                                                      repeat (go_quiet (first | (go_at_call 43; (with_reducible refine (spec_sbBehind.calls kj66 _ _ t163 false t182 _ ?side1 ?side2 A72.out).mono ?_); (case side1 => repeat (first | exact (Kd.R_reads' HO_7.out).2.2 | (with_reducible refine Kd.C_alloc ?_ _) | (with_reducible refine Kd.C_drewN ?_ _) | (with_reducible refine Kd.C_drew ?_))); (case side2 => exact (Kd.R_reads' HO_7.out).2.1); rintro e w118 ⟨rfl, hb⟩; have n0_ := Aside0.mk (Kd.R_below (by (with_reducible repeat (first | apply Kd.R_alloc | apply Kd.R_drewN | apply Kd.R_drew)); exact HO_7.out) hb); have n1_ := Aside0.mk (below_step (by repeat (first | (with_reducible first | exact HB.out | apply below_alloc | apply pw_below_drewN | apply below_drew1) | exact HB.out)) hb); clear HO_7; clear HB; have HO_7 := n0_; have HB := n1_; clear n0_ n1_; (try clear hb); (try clear hb2); (try clear hk); (try clear hi)) | (go_at_call 39; (with_reducible refine (spec_sbSep.calls kj66 (rd l0 a1) t192 _ A117.out).mono ?_); rintro e w119 ⟨rfl, hb⟩; have n0_ := Aside0.mk (Kd.R_below (by (with_reducible repeat (first | apply Kd.R_alloc | apply Kd.R_drewN | apply Kd.R_drew)); exact HO_7.out) hb); have n1_ := Aside0.mk (below_step (by repeat (first | (with_reducible first | exact HB.out | apply below_alloc | apply pw_below_drewN | apply below_drew1) | exact HB.out)) hb); clear HO_7; clear HB; have HO_7 := n0_; have HB := n1_; clear n0_ n1_; (try clear hb); (try clear hb2); (try clear hk); (try clear hi))); try go_wp2_with (first | (go_at_call 43; (with_reducible refine (spec_sbBehind.calls kj66 _ _ t163 false t182 _ ?side1 ?side2 A72.out).mono ?_); (case side1 => repeat (first | exact (Kd.R_reads' HO_7.out).2.2 | (with_reducible refine Kd.C_alloc ?_ _) | (with_reducible refine Kd.C_drewN ?_ _) | (with_reducible refine Kd.C_drew ?_))); (case side2 => exact (Kd.R_reads' HO_7.out).2.1); rintro e w118 ⟨rfl, hb⟩; have n0_ := Aside0.mk (Kd.R_below (by (with_reducible repeat (first | apply Kd.R_alloc | apply Kd.R_drewN | apply Kd.R_drew)); exact HO_7.out) hb); have n1_ := Aside0.mk (below_step (by repeat (first | (with_reducible first | exact HB.out | apply below_alloc | apply pw_below_drewN | apply below_drew1) | exact HB.out)) hb); clear HO_7; clear HB; have HO_7 := n0_; have HB := n1_; clear n0_ n1_; (try clear hb); (try clear hb2); (try clear hk); (try clear hi)) | (go_at_call 39; (with_reducible refine (spec_sbSep.calls kj66 (rd l0 a1) t192 _ A117.out).mono ?_); rintro e w119 ⟨rfl, hb⟩; have n0_ := Aside0.mk (Kd.R_below (by (with_reducible repeat (first | apply Kd.R_alloc | apply Kd.R_drewN | apply Kd.R_drew)); exact HO_7.out) hb); have n1_ := Aside0.mk (below_step (by repeat (first | (with_reducible first | exact HB.out | apply below_alloc | apply pw_below_drewN | apply below_drew1) | exact HB.out)) hb); clear HO_7; clear HB; have HO_7 := n0_; have HB := n1_; clear n0_ n1_; (try clear hb); (try clear hb2); (try clear hk); (try clear hi))))
                                                      go_ret
                                                      exact ⟨by first | rfl | (simp [errW_none, errW_some] <;> rfl) | (simp only [← hji3, ← hji21]; first | rfl | (simp [errW_none, errW_some] <;> rfl)) | (simp [*, errW_none, errW_some] <;> rfl), by repeat (first | (with_reducible first | exact HB.out | apply below_alloc | apply pw_below_drewN | apply below_drew1) | exact HB.out)⟩
                          · rw [if_neg c23] at H
                            exact absurd H (by simp)
                        · rw [if_neg c22] at H
                          exact absurd H (by simp)
                      · rw [if_neg c19] at H
                        exact absurd H (by simp)
                    · rw [if_neg c18] at H
                      exact absurd H (by simp)
        · rw [if_neg c7] at H
          exact absurd H (by simp)
      · rw [if_neg c6] at H
        exact absurd H (by simp)
    · rw [if_neg c5] at H
      exact absurd H (by simp)
  · rw [if_neg c4] at H
    exact absurd H (by simp)

/-- THE ONE PURE STATEMENT of spec_SentenceBreak: yours. -/
def spec_SentenceBreak.Pure : Prop := ∀ (l0 : List Int) (a1 : Int), l0.length ≤ maxLen → l0.length * 8 ≤ 140737488351232 → (∀ x ∈ l0, (Lit.int .i64 x).wf = true) → (Lit.int .i64 a1).wf = true → ∃ k, spec_SentenceBreak.f k l0 a1 = some true
theorem spec_SentenceBreak.walk (P : spec_SentenceBreak.Pure) (a0 : Option Addr) (len0 cap0 : Nat) (z0 : List Int) (a1 : Int) (w : World) (w0 : (a0 = none ∧ len0 = 0 ∧ cap0 = 0 ∧ z0 = []) ∨ ∃ x, a0 = some x ∧ len0 ≤ cap0 ∧ cap0 ≤ maxLen ∧ z0.length = cap0 ∧ (∀ i, i < z0.length → w.cell? (x.add i) = some (.int .i64 (z0.getD i 0))) ∧ ∀ n ∈ z0, (Lit.int .i64 n).wf = true) (y0 : len0 * 8 ≤ 140737488351232) (w1 : (Lit.int .i64 a1).wf = true) :
    Calls Try.prog 16 #[.slice a0 len0 cap0, .int .i64 a1] w fun e w' => e = .returned (.bool true) ∧ Below w.heap.size w w' := by
  obtain ⟨l0, rfl, hr0, hm0, hw0, hc0⟩ := ReadsInt.ofRowC w0
  obtain ⟨k, h⟩ := P l0 a1 hm0 y0 hw0 w1
  refine (spec_SentenceBreak.calls k _ _ l0 a1 true w (Kd.C_of_reads (d := (0 : Int)) (h1 := fun _ => rfl) hr0) hc0 h).mono ?_
  rintro e w' ⟨rfl, hd⟩
  exact ⟨rfl, hd⟩

end Go.Proofs.Ytnanfoahimccpaa.Sn
