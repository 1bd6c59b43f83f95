/- Functions of the translation as Lean functions, and their walks: lines written by a program, a turned copy of the kit's print. -/
import Derived.Test.YtnanfoahimccpaaSnx0
import Derived.Test.YtnanfoahimccpaaSnx1
import Derived.Test.YtnanfoahimccpaaSnx2
namespace Go.Proofs.Ytnanfoahimccpaa.Sn
open Go.RowKit Go.Proofs.YtnanfoahimccpaaW.PrintWords Go.Proofs.YtnanfoahimccpaaW.PrintLast Go.Proofs.YtnanfoahimccpaaW.PrintMore
attribute [local go_sem] max2_int min2_int max_two min_two max_three min_three max_four min_four   -- for this text's walks alone
set_option linter.unusedVariables false
set_option linter.unusedSimpArgs false

/-! ### spec_SentenceOpen: function 17 -/
mutual
def spec_SentenceOpen.j0 : Nat → List Int → Int → Int → Int → Bool → Option (Bool)
  | 0, _, _, _, _, _ => none
  | k + 1, x0, x1, x5, x6, x25 => if x25 = true then (if 0 ≤ (wrap64 (x1 - 1)) then (if (wrap64 (x1 - 1)) ≤ (x0.length : Int) then ((spec_sbHeard.f k (x0.take ((wrap64 (x1 - 1)) : Int).toNat)).bind fun t196 => ((spec_sbBehind.f k t196 true).bind fun t199 => (if t199 ≥ 0 then (if 0 ≤ t199 then (if t199 < (t196.length : Int) then ((spec_sbTerm.f k (rd t196 t199)).bind fun t201 => (some t201)) else (none)) else (none)) else (some false)))) else (none)) else (none)) else ((spec_sbSep.f k x6).bind fun t202 => (if t202 = true then ((spec_sbSep.f k x5).bind fun t203 => (spec_SentenceOpen.j1 k x0 x1 t203)) else (spec_SentenceOpen.j1 k x0 x1 true)))
def spec_SentenceOpen.j1 : Nat → List Int → Int → Bool → Option (Bool)
  | 0, _, _, _ => none
  | k + 1, x0, x1, x48 => if x48 = true then (some false) else (if 0 ≤ x1 then (if x1 ≤ (x0.length : Int) then ((spec_sbHeard.f k (x0.take (x1 : Int).toNat)).bind fun t205 => ((spec_sbBehind.f k t205 true).bind fun t208 => (if 0 ≤ (wrap64 ((t205.length : Int) - 1)) then (if (wrap64 ((t205.length : Int) - 1)) < (t205.length : Int) then (if (rd t205 (wrap64 ((t205.length : Int) - 1))) = 6 then (if t208 ≥ 0 then (if 0 ≤ t208 then (if t208 < (t205.length : Int) then (some ((rd t205 t208) == 12)) else (none)) else (none)) else (some false)) else (some false)) else (none)) else (none)))) else (none)) else (none))
end
def spec_SentenceOpen.f (k : Nat) (l0 : List Int) (a1 : Int) : Option (Bool) := if 0 ≤ (wrap64 (a1 - 1)) then (if (wrap64 (a1 - 1)) < (l0.length : Int) then (if 0 ≤ a1 then (if a1 < (l0.length : Int) then (if (rd l0 (wrap64 (a1 - 1))) = 1 then (spec_SentenceOpen.j0 k l0 a1 (rd l0 (wrap64 (a1 - 1))) (rd l0 a1) ((rd l0 a1) == 2)) else (spec_SentenceOpen.j0 k l0 a1 (rd l0 (wrap64 (a1 - 1))) (rd l0 a1) false)) else (none)) else (none)) else (none)) else (none)
theorem spec_SentenceOpen.mono_l : ∀ k, (∀ y0 y1 y2 y3 y4, LeO (spec_SentenceOpen.j0 k y0 y1 y2 y3 y4) (spec_SentenceOpen.j0 (k + 1) y0 y1 y2 y3 y4)) ∧ (∀ y0 y1 y2, LeO (spec_SentenceOpen.j1 k y0 y1 y2) (spec_SentenceOpen.j1 (k + 1) y0 y1 y2))
  | 0 => ⟨fun _ _ _ _ _ r h => by simp [spec_SentenceOpen.j0] at h, fun _ _ _ r h => by simp [spec_SentenceOpen.j1] at h⟩
  | k + 1 => by
    obtain ⟨ih0, ih1⟩ := spec_SentenceOpen.mono_l k
    refine ⟨?_, ?_⟩
    · intro y0 y1 y2 y3 y4
      unfold spec_SentenceOpen.j0
      repeat' first
      | (with_reducible exact ih0 _ _ _ _ _)
      | (with_reducible exact ih1 _ _ _)
      | (with_reducible exact spec_sbBehind.mono _ _ _)
      | (with_reducible exact spec_sbHeard.mono _ _)
      | (with_reducible exact spec_sbSep.mono _ _)
      | (with_reducible exact spec_sbTerm.mono _ _)
      | (with_reducible exact LeO.refl _)
      | (with_reducible exact LeO.none _)
      | (with_reducible refine LeO.ite ?_ ?_)
      | (with_reducible refine LeO.bind ?_ (fun _ => ?_))
      | exact ih0 _ _ _ _ _
      | exact ih1 _ _ _
      | exact spec_sbBehind.mono _ _ _
      | exact spec_sbHeard.mono _ _
      | exact spec_sbSep.mono _ _
      | exact spec_sbTerm.mono _ _
      | exact LeO.none _
      | refine LeO.ite ?_ ?_
      | refine LeO.bind ?_ (fun _ => ?_)
    · intro y0 y1 y2
      unfold spec_SentenceOpen.j1
      repeat' first
      | (with_reducible exact ih0 _ _ _ _ _)
      | (with_reducible exact ih1 _ _ _)
      | (with_reducible exact spec_sbBehind.mono _ _ _)
      | (with_reducible exact spec_sbHeard.mono _ _)
      | (with_reducible exact spec_sbSep.mono _ _)
      | (with_reducible exact spec_sbTerm.mono _ _)
      | (with_reducible exact LeO.refl _)
      | (with_reducible exact LeO.none _)
      | (with_reducible refine LeO.ite ?_ ?_)
      | (with_reducible refine LeO.bind ?_ (fun _ => ?_))
      | exact ih0 _ _ _ _ _
      | exact ih1 _ _ _
      | exact spec_sbBehind.mono _ _ _
      | exact spec_sbHeard.mono _ _
      | exact spec_sbSep.mono _ _
      | exact spec_sbTerm.mono _ _
      | exact LeO.none _
      | refine LeO.ite ?_ ?_
      | refine LeO.bind ?_ (fun _ => ?_)
theorem spec_SentenceOpen.mono : ∀ a0 a1 k, LeO (spec_SentenceOpen.f k a0 a1) (spec_SentenceOpen.f (k + 1) a0 a1) := by
  intro a0 a1 k
  obtain ⟨ih0, ih1⟩ := spec_SentenceOpen.mono_l k
  unfold spec_SentenceOpen.f
  repeat' first
      | (with_reducible exact ih0 _ _ _ _ _)
      | (with_reducible exact ih1 _ _ _)
      | (with_reducible exact spec_sbBehind.mono _ _ _)
      | (with_reducible exact spec_sbHeard.mono _ _)
      | (with_reducible exact spec_sbSep.mono _ _)
      | (with_reducible exact spec_sbTerm.mono _ _)
      | (with_reducible exact LeO.refl _)
      | (with_reducible exact LeO.none _)
      | (with_reducible refine LeO.ite ?_ ?_)
      | (with_reducible refine LeO.bind ?_ (fun _ => ?_))
      | exact ih0 _ _ _ _ _
      | exact ih1 _ _ _
      | exact spec_sbBehind.mono _ _ _
      | exact spec_sbHeard.mono _ _
      | exact spec_sbSep.mono _ _
      | exact spec_sbTerm.mono _ _
      | exact LeO.none _
      | refine LeO.ite ?_ ?_
      | refine LeO.bind ?_ (fun _ => ?_)
set_option maxHeartbeats 8000000 in
set_option maxRecDepth 100000 in
theorem spec_SentenceOpen.calls (k : Nat) (A0 : Option Addr) (c0 : Nat) (l0 : List Int) (a1 : Int) (r : Bool) (w : World) (hr0 : Kd.C (Kd.int .i64) w A0 l0.length l0) (hc0 : l0.length ≤ c0) (h : spec_SentenceOpen.f k l0 a1 = some r) :
    Calls Try.prog 17 #[.slice A0 l0.length c0, .int .i64 a1] w fun e w' => e = .returned (.bool r) ∧ Below w.heap.size w w' := by
  have HR0 := Aside0.mk hr0
  have HC0 := Aside0.mk hc0
  clear hr0 hc0
  have HB := Aside0.mk (Below.refl w.heap.size w)
  have H : (if 0 ≤ (wrap64 (a1 - 1)) then (if (wrap64 (a1 - 1)) < (l0.length : Int) then (if 0 ≤ a1 then (if a1 < (l0.length : Int) then (if (rd l0 (wrap64 (a1 - 1))) = 1 then (spec_SentenceOpen.j0 k l0 a1 (rd l0 (wrap64 (a1 - 1))) (rd l0 a1) ((rd l0 a1) == 2)) else (spec_SentenceOpen.j0 k l0 a1 (rd l0 (wrap64 (a1 - 1))) (rd l0 a1) false)) else (none)) else (none)) else (none)) else (none)) = some r := h
  clear h
  obtain ⟨ji3, hji3⟩ : ∃ j_ : Int, (wrap64 (a1 - 1)) = j_ := ⟨_, rfl⟩
  replace H : (if 0 ≤ (ji3) then (if (ji3) < (l0.length : Int) then (if 0 ≤ a1 then (if a1 < (l0.length : Int) then (if (rd l0 (ji3)) = 1 then (spec_SentenceOpen.j0 k l0 a1 (rd l0 (ji3)) (rd l0 a1) ((rd l0 a1) == 2)) else (spec_SentenceOpen.j0 k l0 a1 (rd l0 (ji3)) (rd l0 a1) false)) else (none)) else (none)) else (none)) else (none)) = some r := by first | (rw [hji3] at H; exact H) | (simp only [hji3] at H ⊢; exact H)
  have hji3w : (IntKind.i64.wrap (a1 - 1)) = ji3 := (i64_w _).trans hji3
  by_cases c4 : 0 ≤ (ji3)
  · rw [if_pos c4] at H
    have c4b0 : decide (0 ≤ (ji3)) = true := decide_eq_true c4
    clear c4
    by_cases c5 : (ji3) < (l0.length : Int)
    · rw [if_pos c5] at H
      have c5b0 : decide ((ji3) < (l0.length : Int)) = true := decide_eq_true c5
      clear c5
      by_cases c6 : 0 ≤ a1
      · rw [if_pos c6] at H
        have c6b0 : decide (0 ≤ a1) = true := decide_eq_true c6
        clear c6
        by_cases c7 : a1 < (l0.length : Int)
        · rw [if_pos c7] at H
          have c7b0 : decide (a1 < (l0.length : Int)) = true := decide_eq_true c7
          clear c7
          have HC8 := Aside0.mk H
          clear H
          have p193 : 0 ≤ ((ji3) : Int) := of_decide_eq_true (by first | (with_reducible assumption) | assumption)
          have q193 : (ji3) < (l0.length : Int) := of_decide_eq_true (by first | (with_reducible assumption) | assumption)
          obtain ⟨ad193, e193, hx193_0⟩ := Kd.at_int HR0.out (ji3) p193 q193
          cases e193
          replace p193 := eq_true p193
          replace q193 := eq_true q193
          have p194 : 0 ≤ (a1 : Int) := of_decide_eq_true (by first | (with_reducible assumption) | assumption)
          have q194 : a1 < (l0.length : Int) := of_decide_eq_true (by first | (with_reducible assumption) | assumption)
          obtain ⟨ad194, e194, hx194_0⟩ := Kd.at_int HR0.out a1 p194 q194
          obtain rfl : ad193 = ad194 := (by injection e194)
          replace p194 := eq_true p194
          replace q194 := eq_true q194
          go_enter Try.func17, Try.ntmps17
          go_upto_region 2 with (fail)
          repeat (go_quiet (fail); go_upto_region 2 with (fail))
          go_cut [25] (fun v25 wc => ∃ (kq : Nat) (x25_7 : Bool), v25 = .bool x25_7 ∧ Aside0 (spec_SentenceOpen.j0 kq l0 a1 (rd l0 (ji3)) (rd l0 a1) x25_7 = some r) ∧ Aside0 (kq ≤ k) ∧ Aside0 (Below w.heap.size w wc))
          case first =>
            have H := HC8.out
            clear HC8
            by_cases c9 : (rd l0 (ji3)) = 1
            · rw [if_pos c9] at H
              have c9b0 : ((rd l0 (ji3)) == 1) = true := beq_iff_eq.mpr c9
              have c9b1 : ((rd l0 (ji3)) != 1) = false := bne_eq_false_iff_eq.mpr c9
              clear c9
              (first | rw [c9b0] | (simp only [i64_w, i32_w]; rw [c9b0]) | skip)
              have H' := Aside0.mk H
              clear H
              go_wp2
              repeat (go_quiet (fail); try go_wp2)
              go_meet
              case rel => exact ⟨_, (((rd l0 a1) == 2)), (by first | rfl | (simp; done) | (simp [*]; done)), H', ⟨by first | omega | exact Nat.le_refl _⟩, ⟨by repeat (first | (with_reducible first | exact HB.out | apply below_alloc | apply pw_below_drewN | apply below_drew1) | exact HB.out)⟩⟩
            · rw [if_neg c9] at H
              have c9b0 : ((rd l0 (ji3)) == 1) = false := beq_eq_false_iff_ne.mpr c9
              have c9b1 : ((rd l0 (ji3)) != 1) = true := bne_iff_ne.mpr c9
              (first | rw [c9b0] | (simp only [i64_w, i32_w]; rw [c9b0]) | skip)
              have H' := Aside0.mk H
              clear H
              go_wp2
              repeat (go_quiet (fail); try go_wp2)
              go_meet
              case rel => exact ⟨_, (false), (by first | rfl | (simp; done) | (simp [*]; done)), H', ⟨by first | omega | exact Nat.le_refl _⟩, ⟨by repeat (first | (with_reducible first | exact HB.out | apply below_alloc | apply pw_below_drewN | apply below_drew1) | exact HB.out)⟩⟩
          case rest =>
            clear HC8
            try clear c1
            try clear p1
            try clear q1
            try clear hx1
            try clear p2
            try clear c4
            try clear c4b0
            try clear c5
            try clear c5b0
            try clear c6
            try clear c6b0
            try clear p6
            try clear c7
            try clear c7b0
            try clear c9
            try clear c9b0
            try clear c9b1
            try clear hx193_0
            try clear hx194_0
            try clear p193
            try clear p194
            try clear q193
            try clear q194
            obtain ⟨kq, x25_7, rfl, HA, HJ7, HB⟩ := hcut
            cases kq with
            | zero => exact absurd HA.out (by simp [spec_SentenceOpen.j0])
            | succ kj7 =>
              have H := HA.out
              clear HA
              simp only [spec_SentenceOpen.j0] at H
              by_cases c10 : x25_7 = true
              · subst c10
                have H1 : (if 0 ≤ (wrap64 (a1 - 1)) then (if (wrap64 (a1 - 1)) ≤ (l0.length : Int) then ((spec_sbHeard.f kj7 (l0.take ((wrap64 (a1 - 1)) : Int).toNat)).bind fun t196 => ((spec_sbBehind.f kj7 t196 true).bind fun t199 => (if t199 ≥ 0 then (if 0 ≤ t199 then (if t199 < (t196.length : Int) then ((spec_sbTerm.f kj7 (rd t196 t199)).bind fun t201 => (some t201)) else (none)) else (none)) else (some false)))) else (none)) else (none)) = some r := by rw [if_pos rfl] at H; exact H
                clear H
                have H := H1
                clear H1
                replace H : (if 0 ≤ (ji3) then (if (ji3) ≤ (l0.length : Int) then ((spec_sbHeard.f kj7 (l0.take ((ji3) : Int).toNat)).bind fun t196 => ((spec_sbBehind.f kj7 t196 true).bind fun t199 => (if t199 ≥ 0 then (if 0 ≤ t199 then (if t199 < (t196.length : Int) then ((spec_sbTerm.f kj7 (rd t196 t199)).bind fun t201 => (some t201)) else (none)) else (none)) else (some false)))) else (none)) else (none)) = some r := by first | (rw [hji3] at H; exact H) | (simp only [hji3] at H ⊢; exact H)
                by_cases c12 : 0 ≤ (ji3)
                · rw [if_pos c12] at H
                  have c12b0 := eq_true c12
                  have c12b1 : decide (0 ≤ (ji3)) = true := decide_eq_true c12
                  clear c12
                  by_cases c13 : (ji3) ≤ (l0.length : Int)
                  · rw [if_pos c13] at H
                    have c13b0 := eq_true c13
                    have c13b1 : decide ((ji3) ≤ (l0.length : Int)) = true := decide_eq_true c13
                    clear c13
                    replace H := Option.bind_eq_some_iff.mp H
                    obtain ⟨t196, A140, H⟩ := H
                    replace H : ((spec_sbBehind.f kj7 t196 true).bind fun t199 => (if t199 ≥ 0 then (if 0 ≤ t199 then (if t199 < (t196.length : Int) then ((spec_sbTerm.f kj7 (rd t196 t199)).bind fun t201 => (some t201)) else (none)) else (none)) else (some false))) = some r := H
                    have A14 := Aside0.mk A140
                    clear A140
                    replace H := Option.bind_eq_some_iff.mp H
                    obtain ⟨t199, A150, H⟩ := H
                    replace H : (if t199 ≥ 0 then (if 0 ≤ t199 then (if t199 < (t196.length : Int) then ((spec_sbTerm.f kj7 (rd t196 t199)).bind fun t201 => (some t201)) else (none)) else (none)) else (some false)) = some r := H
                    have A15 := Aside0.mk A150
                    clear A150
                    by_cases c16 : t199 ≥ 0
                    · rw [if_pos c16] at H
                      have c16b0 : decide (0 ≤ t199) = true := decide_eq_true c16
                      clear c16
                      by_cases c17 : 0 ≤ t199
                      · rw [if_pos c17] at H
                        have c17b0 : decide (0 ≤ t199) = true := decide_eq_true c17
                        clear c17
                        by_cases c18 : t199 < (t196.length : Int)
                        · rw [if_pos c18] at H
                          have c18b0 : decide (t199 < (t196.length : Int)) = true := decide_eq_true c18
                          clear c18
                          replace H := Option.bind_eq_some_iff.mp H
                          obtain ⟨t201, A190, H⟩ := H
                          replace H : (some t201) = some r := H
                          have A19 := Aside0.mk A190
                          clear A190
                          obtain rfl := Option.some.inj H
                          obtain ⟨i020, hi020, _, hsz20, _⟩ := info_parts info3
                          obtain ⟨hcut20, hA20, hC20⟩ := print_take_of (P := Try.prog) (Value.int .i64) 0 23 3 .i64 Try.underlying23 hi020 hsz20 (some ad193) c0 l0 (ji3) (of_decide_eq_true (by first | (with_reducible assumption) | assumption)) (of_decide_eq_true (by first | (with_reducible assumption) | assumption)) HC0.out
                          have HR195 := Aside0.mk (Kd.C_of_reads (h1 := fun _ => rfl) (hA20 _ (Kd.reads_of_C HR0.out)))
                          have HC195 := Aside0.mk hC20
                          clear hA20 hC20 hi020 hsz20
                          go_wp2_with (first | (go_at_call 41; (have hl_ : (l0.take (ji3 : Int).toNat).length = (ji3 : Int).toNat := by (have h1_ : 0 ≤ (ji3 : Int) := of_decide_eq_true (by first | (with_reducible assumption) | assumption)); (have h2_ : (ji3 : Int) ≤ (l0.length : Int) := of_decide_eq_true (by first | (with_reducible assumption) | assumption)); (rw [List.length_take]; omega)); rw [← hl_]; clear hl_; (with_reducible refine (spec_sbHeard.calls kj7 _ _ (l0.take ((ji3) : Int).toNat) t196 _ ?side1 ?side2 A14.out).mono ?_); (case side1 => repeat (first | exact (Kd.C_below HR195.out HB.out) | (with_reducible refine Kd.C_alloc ?_ _) | (with_reducible refine Kd.C_drewN ?_ _) | (with_reducible refine Kd.C_drew ?_))); (case side2 => exact HC195.out); rintro e w21 ⟨v197, rfl, ho0, hb⟩; have n0_ := Aside0.mk (Kd.R_lower ho0 (below_size (by repeat (first | (with_reducible first | exact HB.out | apply below_alloc | apply pw_below_drewN | apply below_drew1) | exact HB.out)))); have n1_ := Aside0.mk (below_step (by repeat (first | (with_reducible first | exact HB.out | apply below_alloc | apply pw_below_drewN | apply below_drew1) | exact HB.out)) hb); clear HB; have HO198 := n0_; have HB := n1_; clear n0_ n1_; (try clear hb); (try clear hb2); (try clear hk); (try clear hi); (try clear ho0); obtain ⟨Ao22, co22, eo22⟩ := Kd.R_slice HO198.out; subst eo22) | (go_at_call 43; (with_reducible refine (spec_sbBehind.calls kj7 _ _ t196 true t199 _ ?side1 ?side2 A15.out).mono ?_); (case side1 => repeat (first | exact (Kd.R_reads' HO198.out).2.2 | (with_reducible refine Kd.C_alloc ?_ _) | (with_reducible refine Kd.C_drewN ?_ _) | (with_reducible refine Kd.C_drew ?_))); (case side2 => exact (Kd.R_reads' HO198.out).2.1); rintro e w23 ⟨rfl, hb⟩; have n0_ := Aside0.mk (Kd.R_below (by (with_reducible repeat (first | apply Kd.R_alloc | apply Kd.R_drewN | apply Kd.R_drew)); exact HO198.out) hb); have n1_ := Aside0.mk (below_step (by repeat (first | (with_reducible first | exact HB.out | apply below_alloc | apply pw_below_drewN | apply below_drew1) | exact HB.out)) hb); clear HO198; clear HB; have HO198 := n0_; have HB := n1_; clear n0_ n1_; (try clear hb); (try clear hb2); (try clear hk); (try clear hi); have p200 : 0 ≤ (t199 : Int) := of_decide_eq_true (by first | (with_reducible assumption) | assumption); have q200 : t199 < (t196.length : Int) := of_decide_eq_true (by first | (with_reducible assumption) | assumption); obtain ⟨ad200, e200, hx200_0⟩ := Kd.at_int (Kd.R_reads' HO198.out).2.2 t199 p200 q200; cases e200; replace p200 := eq_true p200; replace q200 := eq_true q200) | (go_at_call 44; (with_reducible refine (spec_sbTerm.calls kj7 (rd t196 t199) t201 _ A19.out).mono ?_); rintro e w24 ⟨rfl, hb⟩; have n0_ := Aside0.mk (Kd.R_below (by (with_reducible repeat (first | apply Kd.R_alloc | apply Kd.R_drewN | apply Kd.R_drew)); exact HO198.out) hb); have n1_ := Aside0.mk (below_step (by repeat (first | (with_reducible first | exact HB.out | apply below_alloc | apply pw_below_drewN | apply below_drew1) | exact HB.out)) hb); clear HO198; clear HB; have HO198 := n0_; have HB := n1_; clear n0_ n1_; (try clear hb); (try clear hb2); (try clear hk); (try clear hi)))
                          repeat (go_quiet (first | (go_at_call 41; (have hl_ : (l0.take (ji3 : Int).toNat).length = (ji3 : Int).toNat := by (have h1_ : 0 ≤ (ji3 : Int) := of_decide_eq_true (by first | (with_reducible assumption) | assumption)); (have h2_ : (ji3 : Int) ≤ (l0.length : Int) := of_decide_eq_true (by first | (with_reducible assumption) | assumption)); (rw [List.length_take]; omega)); rw [← hl_]; clear hl_; (with_reducible refine (spec_sbHeard.calls kj7 _ _ (l0.take ((ji3) : Int).toNat) t196 _ ?side1 ?side2 A14.out).mono ?_); (case side1 => repeat (first | exact (Kd.C_below HR195.out HB.out) | (with_reducible refine Kd.C_alloc ?_ _) | (with_reducible refine Kd.C_drewN ?_ _) | (with_reducible refine Kd.C_drew ?_))); (case side2 => exact HC195.out); rintro e w21 ⟨v197, rfl, ho0, hb⟩; have n0_ := Aside0.mk (Kd.R_lower ho0 (below_size (by repeat (first | (with_reducible first | exact HB.out | apply below_alloc | apply pw_below_drewN | apply below_drew1) | exact HB.out)))); have n1_ := Aside0.mk (below_step (by repeat (first | (with_reducible first | exact HB.out | apply below_alloc | apply pw_below_drewN | apply below_drew1) | exact HB.out)) hb); clear HB; have HO198 := n0_; have HB := n1_; clear n0_ n1_; (try clear hb); (try clear hb2); (try clear hk); (try clear hi); (try clear ho0); obtain ⟨Ao22, co22, eo22⟩ := Kd.R_slice HO198.out; subst eo22) | (go_at_call 43; (with_reducible refine (spec_sbBehind.calls kj7 _ _ t196 true t199 _ ?side1 ?side2 A15.out).mono ?_); (case side1 => repeat (first | exact (Kd.R_reads' HO198.out).2.2 | (with_reducible refine Kd.C_alloc ?_ _) | (with_reducible refine Kd.C_drewN ?_ _) | (with_reducible refine Kd.C_drew ?_))); (case side2 => exact (Kd.R_reads' HO198.out).2.1); rintro e w23 ⟨rfl, hb⟩; have n0_ := Aside0.mk (Kd.R_below (by (with_reducible repeat (first | apply Kd.R_alloc | apply Kd.R_drewN | apply Kd.R_drew)); exact HO198.out) hb); have n1_ := Aside0.mk (below_step (by repeat (first | (with_reducible first | exact HB.out | apply below_alloc | apply pw_below_drewN | apply below_drew1) | exact HB.out)) hb); clear HO198; clear HB; have HO198 := n0_; have HB := n1_; clear n0_ n1_; (try clear hb); (try clear hb2); (try clear hk); (try clear hi); have p200 : 0 ≤ (t199 : Int) := of_decide_eq_true (by first | (with_reducible assumption) | assumption); have q200 : t199 < (t196.length : Int) := of_decide_eq_true (by first | (with_reducible assumption) | assumption); obtain ⟨ad200, e200, hx200_0⟩ := Kd.at_int (Kd.R_reads' HO198.out).2.2 t199 p200 q200; cases e200; replace p200 := eq_true p200; replace q200 := eq_true q200) | (go_at_call 44; (with_reducible refine (spec_sbTerm.calls kj7 (rd t196 t199) t201 _ A19.out).mono ?_); rintro e w24 ⟨rfl, hb⟩; have n0_ := Aside0.mk (Kd.R_below (by (with_reducible repeat (first | apply Kd.R_alloc | apply Kd.R_drewN | apply Kd.R_drew)); exact HO198.out) hb); have n1_ := Aside0.mk (below_step (by repeat (first | (with_reducible first | exact HB.out | apply below_alloc | apply pw_below_drewN | apply below_drew1) | exact HB.out)) hb); clear HO198; clear HB; have HO198 := n0_; have HB := n1_; clear n0_ n1_; (try clear hb); (try clear hb2); (try clear hk); (try clear hi))); try go_wp2_with (first | (go_at_call 41; (have hl_ : (l0.take (ji3 : Int).toNat).length = (ji3 : Int).toNat := by (have h1_ : 0 ≤ (ji3 : Int) := of_decide_eq_true (by first | (with_reducible assumption) | assumption)); (have h2_ : (ji3 : Int) ≤ (l0.length : Int) := of_decide_eq_true (by first | (with_reducible assumption) | assumption)); (rw [List.length_take]; omega)); rw [← hl_]; clear hl_; (with_reducible refine (spec_sbHeard.calls kj7 _ _ (l0.take ((ji3) : Int).toNat) t196 _ ?side1 ?side2 A14.out).mono ?_); (case side1 => repeat (first | exact (Kd.C_below HR195.out HB.out) | (with_reducible refine Kd.C_alloc ?_ _) | (with_reducible refine Kd.C_drewN ?_ _) | (with_reducible refine Kd.C_drew ?_))); (case side2 => exact HC195.out); rintro e w21 ⟨v197, rfl, ho0, hb⟩; have n0_ := Aside0.mk (Kd.R_lower ho0 (below_size (by repeat (first | (with_reducible first | exact HB.out | apply below_alloc | apply pw_below_drewN | apply below_drew1) | exact HB.out)))); have n1_ := Aside0.mk (below_step (by repeat (first | (with_reducible first | exact HB.out | apply below_alloc | apply pw_below_drewN | apply below_drew1) | exact HB.out)) hb); clear HB; have HO198 := n0_; have HB := n1_; clear n0_ n1_; (try clear hb); (try clear hb2); (try clear hk); (try clear hi); (try clear ho0); obtain ⟨Ao22, co22, eo22⟩ := Kd.R_slice HO198.out; subst eo22) | (go_at_call 43; (with_reducible refine (spec_sbBehind.calls kj7 _ _ t196 true t199 _ ?side1 ?side2 A15.out).mono ?_); (case side1 => repeat (first | exact (Kd.R_reads' HO198.out).2.2 | (with_reducible refine Kd.C_alloc ?_ _) | (with_reducible refine Kd.C_drewN ?_ _) | (with_reducible refine Kd.C_drew ?_))); (case side2 => exact (Kd.R_reads' HO198.out).2.1); rintro e w23 ⟨rfl, hb⟩; have n0_ := Aside0.mk (Kd.R_below (by (with_reducible repeat (first | apply Kd.R_alloc | apply Kd.R_drewN | apply Kd.R_drew)); exact HO198.out) hb); have n1_ := Aside0.mk (below_step (by repeat (first | (with_reducible first | exact HB.out | apply below_alloc | apply pw_below_drewN | apply below_drew1) | exact HB.out)) hb); clear HO198; clear HB; have HO198 := n0_; have HB := n1_; clear n0_ n1_; (try clear hb); (try clear hb2); (try clear hk); (try clear hi); have p200 : 0 ≤ (t199 : Int) := of_decide_eq_true (by first | (with_reducible assumption) | assumption); have q200 : t199 < (t196.length : Int) := of_decide_eq_true (by first | (with_reducible assumption) | assumption); obtain ⟨ad200, e200, hx200_0⟩ := Kd.at_int (Kd.R_reads' HO198.out).2.2 t199 p200 q200; cases e200; replace p200 := eq_true p200; replace q200 := eq_true q200) | (go_at_call 44; (with_reducible refine (spec_sbTerm.calls kj7 (rd t196 t199) t201 _ A19.out).mono ?_); rintro e w24 ⟨rfl, hb⟩; have n0_ := Aside0.mk (Kd.R_below (by (with_reducible repeat (first | apply Kd.R_alloc | apply Kd.R_drewN | apply Kd.R_drew)); exact HO198.out) hb); have n1_ := Aside0.mk (below_step (by repeat (first | (with_reducible first | exact HB.out | apply below_alloc | apply pw_below_drewN | apply below_drew1) | exact HB.out)) hb); clear HO198; clear HB; have HO198 := n0_; have HB := n1_; clear n0_ n1_; (try clear hb); (try clear hb2); (try clear hk); (try clear hi))))
                          go_ret
                          exact ⟨by first | rfl | (simp [errW_none, errW_some] <;> rfl) | (simp only [← hji3, ← hji3]; first | rfl | (simp [errW_none, errW_some] <;> rfl)) | (simp [*, errW_none, errW_some] <;> rfl), by repeat (first | (with_reducible first | exact HB.out | apply below_alloc | apply pw_below_drewN | apply below_drew1) | exact HB.out)⟩
                        · rw [if_neg c18] at H
                          exact absurd H (by simp)
                      · rw [if_neg c17] at H
                        exact absurd H (by simp)
                    · rw [if_neg c16] at H
                      have c16b0 : decide (0 ≤ t199) = false := decide_eq_false c16
                      clear c16
                      obtain rfl := Option.some.inj H
                      obtain ⟨i025, hi025, _, hsz25, _⟩ := info_parts info3
                      obtain ⟨hcut25, hA25, hC25⟩ := print_take_of (P := Try.prog) (Value.int .i64) 0 23 3 .i64 Try.underlying23 hi025 hsz25 (some ad193) c0 l0 (ji3) (of_decide_eq_true (by first | (with_reducible assumption) | assumption)) (of_decide_eq_true (by first | (with_reducible assumption) | assumption)) HC0.out
                      have HR195 := Aside0.mk (Kd.C_of_reads (h1 := fun _ => rfl) (hA25 _ (Kd.reads_of_C HR0.out)))
                      have HC195 := Aside0.mk hC25
                      clear hA25 hC25 hi025 hsz25
                      go_wp2_with (first | (go_at_call 41; (have hl_ : (l0.take (ji3 : Int).toNat).length = (ji3 : Int).toNat := by (have h1_ : 0 ≤ (ji3 : Int) := of_decide_eq_true (by first | (with_reducible assumption) | assumption)); (have h2_ : (ji3 : Int) ≤ (l0.length : Int) := of_decide_eq_true (by first | (with_reducible assumption) | assumption)); (rw [List.length_take]; omega)); rw [← hl_]; clear hl_; (with_reducible refine (spec_sbHeard.calls kj7 _ _ (l0.take ((ji3) : Int).toNat) t196 _ ?side1 ?side2 A14.out).mono ?_); (case side1 => repeat (first | exact (Kd.C_below HR195.out HB.out) | (with_reducible refine Kd.C_alloc ?_ _) | (with_reducible refine Kd.C_drewN ?_ _) | (with_reducible refine Kd.C_drew ?_))); (case side2 => exact HC195.out); rintro e w26 ⟨v197, rfl, ho0, hb⟩; have n0_ := Aside0.mk (Kd.R_lower ho0 (below_size (by repeat (first | (with_reducible first | exact HB.out | apply below_alloc | apply pw_below_drewN | apply below_drew1) | exact HB.out)))); have n1_ := Aside0.mk (below_step (by repeat (first | (with_reducible first | exact HB.out | apply below_alloc | apply pw_below_drewN | apply below_drew1) | exact HB.out)) hb); clear HB; have HO198 := n0_; have HB := n1_; clear n0_ n1_; (try clear hb); (try clear hb2); (try clear hk); (try clear hi); (try clear ho0); obtain ⟨Ao27, co27, eo27⟩ := Kd.R_slice HO198.out; subst eo27) | (go_at_call 43; (with_reducible refine (spec_sbBehind.calls kj7 _ _ t196 true t199 _ ?side1 ?side2 A15.out).mono ?_); (case side1 => repeat (first | exact (Kd.R_reads' HO198.out).2.2 | (with_reducible refine Kd.C_alloc ?_ _) | (with_reducible refine Kd.C_drewN ?_ _) | (with_reducible refine Kd.C_drew ?_))); (case side2 => exact (Kd.R_reads' HO198.out).2.1); rintro e w28 ⟨rfl, hb⟩; have n0_ := Aside0.mk (Kd.R_below (by (with_reducible repeat (first | apply Kd.R_alloc | apply Kd.R_drewN | apply Kd.R_drew)); exact HO198.out) hb); have n1_ := Aside0.mk (below_step (by repeat (first | (with_reducible first | exact HB.out | apply below_alloc | apply pw_below_drewN | apply below_drew1) | exact HB.out)) hb); clear HO198; clear HB; have HO198 := n0_; have HB := n1_; clear n0_ n1_; (try clear hb); (try clear hb2); (try clear hk); (try clear hi)))
                      repeat (go_quiet (first | (go_at_call 41; (have hl_ : (l0.take (ji3 : Int).toNat).length = (ji3 : Int).toNat := by (have h1_ : 0 ≤ (ji3 : Int) := of_decide_eq_true (by first | (with_reducible assumption) | assumption)); (have h2_ : (ji3 : Int) ≤ (l0.length : Int) := of_decide_eq_true (by first | (with_reducible assumption) | assumption)); (rw [List.length_take]; omega)); rw [← hl_]; clear hl_; (with_reducible refine (spec_sbHeard.calls kj7 _ _ (l0.take ((ji3) : Int).toNat) t196 _ ?side1 ?side2 A14.out).mono ?_); (case side1 => repeat (first | exact (Kd.C_below HR195.out HB.out) | (with_reducible refine Kd.C_alloc ?_ _) | (with_reducible refine Kd.C_drewN ?_ _) | (with_reducible refine Kd.C_drew ?_))); (case side2 => exact HC195.out); rintro e w26 ⟨v197, rfl, ho0, hb⟩; have n0_ := Aside0.mk (Kd.R_lower ho0 (below_size (by repeat (first | (with_reducible first | exact HB.out | apply below_alloc | apply pw_below_drewN | apply below_drew1) | exact HB.out)))); have n1_ := Aside0.mk (below_step (by repeat (first | (with_reducible first | exact HB.out | apply below_alloc | apply pw_below_drewN | apply below_drew1) | exact HB.out)) hb); clear HB; have HO198 := n0_; have HB := n1_; clear n0_ n1_; (try clear hb); (try clear hb2); (try clear hk); (try clear hi); (try clear ho0); obtain ⟨Ao27, co27, eo27⟩ := Kd.R_slice HO198.out; subst eo27) | (go_at_call 43; (with_reducible refine (spec_sbBehind.calls kj7 _ _ t196 true t199 _ ?side1 ?side2 A15.out).mono ?_); (case side1 => repeat (first | exact (Kd.R_reads' HO198.out).2.2 | (with_reducible refine Kd.C_alloc ?_ _) | (with_reducible refine Kd.C_drewN ?_ _) | (with_reducible refine Kd.C_drew ?_))); (case side2 => exact (Kd.R_reads' HO198.out).2.1); rintro e w28 ⟨rfl, hb⟩; have n0_ := Aside0.mk (Kd.R_below (by (with_reducible repeat (first | apply Kd.R_alloc | apply Kd.R_drewN | apply Kd.R_drew)); exact HO198.out) hb); have n1_ := Aside0.mk (below_step (by repeat (first | (with_reducible first | exact HB.out | apply below_alloc | apply pw_below_drewN | apply below_drew1) | exact HB.out)) hb); clear HO198; clear HB; have HO198 := n0_; have HB := n1_; clear n0_ n1_; (try clear hb); (try clear hb2); (try clear hk); (try clear hi))); try go_wp2_with (first | (go_at_call 41; (have hl_ : (l0.take (ji3 : Int).toNat).length = (ji3 : Int).toNat := by (have h1_ : 0 ≤ (ji3 : Int) := of_decide_eq_true (by first | (with_reducible assumption) | assumption)); (have h2_ : (ji3 : Int) ≤ (l0.length : Int) := of_decide_eq_true (by first | (with_reducible assumption) | assumption)); (rw [List.length_take]; omega)); rw [← hl_]; clear hl_; (with_reducible refine (spec_sbHeard.calls kj7 _ _ (l0.take ((ji3) : Int).toNat) t196 _ ?side1 ?side2 A14.out).mono ?_); (case side1 => repeat (first | exact (Kd.C_below HR195.out HB.out) | (with_reducible refine Kd.C_alloc ?_ _) | (with_reducible refine Kd.C_drewN ?_ _) | (with_reducible refine Kd.C_drew ?_))); (case side2 => exact HC195.out); rintro e w26 ⟨v197, rfl, ho0, hb⟩; have n0_ := Aside0.mk (Kd.R_lower ho0 (below_size (by repeat (first | (with_reducible first | exact HB.out | apply below_alloc | apply pw_below_drewN | apply below_drew1) | exact HB.out)))); have n1_ := Aside0.mk (below_step (by repeat (first | (with_reducible first | exact HB.out | apply below_alloc | apply pw_below_drewN | apply below_drew1) | exact HB.out)) hb); clear HB; have HO198 := n0_; have HB := n1_; clear n0_ n1_; (try clear hb); (try clear hb2); (try clear hk); (try clear hi); (try clear ho0); obtain ⟨Ao27, co27, eo27⟩ := Kd.R_slice HO198.out; subst eo27) | (go_at_call 43; (with_reducible refine (spec_sbBehind.calls kj7 _ _ t196 true t199 _ ?side1 ?side2 A15.out).mono ?_); (case side1 => repeat (first | exact (Kd.R_reads' HO198.out).2.2 | (with_reducible refine Kd.C_alloc ?_ _) | (with_reducible refine Kd.C_drewN ?_ _) | (with_reducible refine Kd.C_drew ?_))); (case side2 => exact (Kd.R_reads' HO198.out).2.1); rintro e w28 ⟨rfl, hb⟩; have n0_ := Aside0.mk (Kd.R_below (by (with_reducible repeat (first | apply Kd.R_alloc | apply Kd.R_drewN | apply Kd.R_drew)); exact HO198.out) hb); have n1_ := Aside0.mk (below_step (by repeat (first | (with_reducible first | exact HB.out | apply below_alloc | apply pw_below_drewN | apply below_drew1) | exact HB.out)) hb); clear HO198; clear HB; have HO198 := n0_; have HB := n1_; clear n0_ n1_; (try clear hb); (try clear hb2); (try clear hk); (try clear hi))))
                      go_ret
                      exact ⟨by first | rfl | (simp [errW_none, errW_some] <;> rfl) | (simp only [← hji3, ← hji3]; first | rfl | (simp [errW_none, errW_some] <;> rfl)) | (simp [*, errW_none, errW_some] <;> rfl), by repeat (first | (with_reducible first | exact HB.out | apply below_alloc | apply pw_below_drewN | apply below_drew1) | exact HB.out)⟩
                  · rw [if_neg c13] at H
                    exact absurd H (by simp)
                · rw [if_neg c12] at H
                  exact absurd H (by simp)
              · replace c10 := Bool.eq_false_iff.mpr c10
                subst c10
                have H1 : ((spec_sbSep.f kj7 (rd l0 a1)).bind fun t202 => (if t202 = true then ((spec_sbSep.f kj7 (rd l0 (ji3))).bind fun t203 => (spec_SentenceOpen.j1 kj7 l0 a1 t203)) else (spec_SentenceOpen.j1 kj7 l0 a1 true))) = some r := by rw [if_neg (show ¬ (false = true) by decide)] at H; exact H
                clear H
                have H := H1
                clear H1
                have HC29 := Aside0.mk H
                clear H
                go_upto_region 6 with (fail)
                repeat (go_quiet (fail); go_upto_region 6 with (fail))
                go_cut [48] (fun v48 wc => ∃ (kq : Nat) (x48_28 : Bool), v48 = .bool x48_28 ∧ Aside0 (spec_SentenceOpen.j1 kq l0 a1 x48_28 = some r) ∧ Aside0 (kq ≤ kj7) ∧ Aside0 (Below w.heap.size w wc))
                case first =>
                  have H := HC29.out
                  clear HC29
                  replace H := Option.bind_eq_some_iff.mp H
                  obtain ⟨t202, A300, H⟩ := H
                  replace H : (if t202 = true then ((spec_sbSep.f kj7 (rd l0 (ji3))).bind fun t203 => (spec_SentenceOpen.j1 kj7 l0 a1 t203)) else (spec_SentenceOpen.j1 kj7 l0 a1 true)) = some r := H
                  have A30 := Aside0.mk A300
                  clear A300
                  by_cases c31 : t202 = true
                  · subst c31
                    have H1 : ((spec_sbSep.f kj7 (rd l0 (ji3))).bind fun t203 => (spec_SentenceOpen.j1 kj7 l0 a1 t203)) = some r := by rw [if_pos rfl] at H; exact H
                    clear H
                    have H := H1
                    clear H1
                    replace H := Option.bind_eq_some_iff.mp H
                    obtain ⟨t203, A320, H⟩ := H
                    replace H : (spec_SentenceOpen.j1 kj7 l0 a1 t203) = some r := H
                    have A32 := Aside0.mk A320
                    clear A320
                    have H' := Aside0.mk H
                    clear H
                    go_wp2_with (first | (go_at_call 39; (with_reducible refine (spec_sbSep.calls kj7 (rd l0 a1) true _ A30.out).mono ?_); rintro e w33 ⟨rfl, hb⟩; have n0_ := Aside0.mk (below_step (by repeat (first | (with_reducible first | exact HB.out | apply below_alloc | apply pw_below_drewN | apply below_drew1) | exact HB.out)) hb); clear HB; have HB := n0_; clear n0_; (try clear hb); (try clear hb2); (try clear hk); (try clear hi)) | (go_at_call 39; (with_reducible refine (spec_sbSep.calls kj7 (rd l0 (ji3)) t203 _ A32.out).mono ?_); rintro e w34 ⟨rfl, hb⟩; have n0_ := Aside0.mk (below_step (by repeat (first | (with_reducible first | exact HB.out | apply below_alloc | apply pw_below_drewN | apply below_drew1) | exact HB.out)) hb); clear HB; have HB := n0_; clear n0_; (try clear hb); (try clear hb2); (try clear hk); (try clear hi)))
                    repeat (go_quiet (first | (go_at_call 39; (with_reducible refine (spec_sbSep.calls kj7 (rd l0 a1) true _ A30.out).mono ?_); rintro e w33 ⟨rfl, hb⟩; have n0_ := Aside0.mk (below_step (by repeat (first | (with_reducible first | exact HB.out | apply below_alloc | apply pw_below_drewN | apply below_drew1) | exact HB.out)) hb); clear HB; have HB := n0_; clear n0_; (try clear hb); (try clear hb2); (try clear hk); (try clear hi)) | (go_at_call 39; (with_reducible refine (spec_sbSep.calls kj7 (rd l0 (ji3)) t203 _ A32.out).mono ?_); rintro e w34 ⟨rfl, hb⟩; have n0_ := Aside0.mk (below_step (by repeat (first | (with_reducible first | exact HB.out | apply below_alloc | apply pw_below_drewN | apply below_drew1) | exact HB.out)) hb); clear HB; have HB := n0_; clear n0_; (try clear hb); (try clear hb2); (try clear hk); (try clear hi))); try go_wp2_with (first | (go_at_call 39; (with_reducible refine (spec_sbSep.calls kj7 (rd l0 a1) true _ A30.out).mono ?_); rintro e w33 ⟨rfl, hb⟩; have n0_ := Aside0.mk (below_step (by repeat (first | (with_reducible first | exact HB.out | apply below_alloc | apply pw_below_drewN | apply below_drew1) | exact HB.out)) hb); clear HB; have HB := n0_; clear n0_; (try clear hb); (try clear hb2); (try clear hk); (try clear hi)) | (go_at_call 39; (with_reducible refine (spec_sbSep.calls kj7 (rd l0 (ji3)) t203 _ A32.out).mono ?_); rintro e w34 ⟨rfl, hb⟩; have n0_ := Aside0.mk (below_step (by repeat (first | (with_reducible first | exact HB.out | apply below_alloc | apply pw_below_drewN | apply below_drew1) | exact HB.out)) hb); clear HB; have HB := n0_; clear n0_; (try clear hb); (try clear hb2); (try clear hk); (try clear hi))))
                    go_meet
                    case rel => exact ⟨_, (t203), (by first | rfl | (simp; done) | (simp [*]; done)), H', ⟨by have := HJ7.out; first | omega | exact Nat.le_refl _⟩, ⟨by repeat (first | (with_reducible first | exact HB.out | apply below_alloc | apply pw_below_drewN | apply below_drew1) | exact HB.out)⟩⟩
                  · replace c31 := Bool.eq_false_iff.mpr c31
                    subst c31
                    have H1 : (spec_SentenceOpen.j1 kj7 l0 a1 true) = some r := by rw [if_neg (show ¬ (false = true) by decide)] at H; exact H
                    clear H
                    have H := H1
                    clear H1
                    have H' := Aside0.mk H
                    clear H
                    go_wp2_with (first | (go_at_call 39; (with_reducible refine (spec_sbSep.calls kj7 (rd l0 a1) false _ A30.out).mono ?_); rintro e w35 ⟨rfl, hb⟩; have n0_ := Aside0.mk (below_step (by repeat (first | (with_reducible first | exact HB.out | apply below_alloc | apply pw_below_drewN | apply below_drew1) | exact HB.out)) hb); clear HB; have HB := n0_; clear n0_; (try clear hb); (try clear hb2); (try clear hk); (try clear hi)))
                    repeat (go_quiet (first | (go_at_call 39; (with_reducible refine (spec_sbSep.calls kj7 (rd l0 a1) false _ A30.out).mono ?_); rintro e w35 ⟨rfl, hb⟩; have n0_ := Aside0.mk (below_step (by repeat (first | (with_reducible first | exact HB.out | apply below_alloc | apply pw_below_drewN | apply below_drew1) | exact HB.out)) hb); clear HB; have HB := n0_; clear n0_; (try clear hb); (try clear hb2); (try clear hk); (try clear hi))); try go_wp2_with (first | (go_at_call 39; (with_reducible refine (spec_sbSep.calls kj7 (rd l0 a1) false _ A30.out).mono ?_); rintro e w35 ⟨rfl, hb⟩; have n0_ := Aside0.mk (below_step (by repeat (first | (with_reducible first | exact HB.out | apply below_alloc | apply pw_below_drewN | apply below_drew1) | exact HB.out)) hb); clear HB; have HB := n0_; clear n0_; (try clear hb); (try clear hb2); (try clear hk); (try clear hi))))
                    go_meet
                    case rel => exact ⟨_, (true), (by first | rfl | (simp; done) | (simp [*]; done)), H', ⟨by have := HJ7.out; first | omega | exact Nat.le_refl _⟩, ⟨by repeat (first | (with_reducible first | exact HB.out | apply below_alloc | apply pw_below_drewN | apply below_drew1) | exact HB.out)⟩⟩
                case rest =>
                  clear HC29
                  try clear c1
                  try clear p1
                  try clear q1
                  try clear hx1
                  try clear p2
                  try clear q2
                  try clear hx2
                  try clear c3
                  try clear c4
                  try clear c4b0
                  try clear c5
                  try clear c5b0
                  try clear c6
                  try clear c6b0
                  try clear p6
                  try clear c7
                  try clear c7b0
                  try clear c9
                  try clear c9b0
                  try clear c9b1
                  try clear c10
                  try clear c12
                  try clear c12b0
                  try clear c12b1
                  try clear c13
                  try clear c13b0
                  try clear c13b1
                  try clear c16
                  try clear c16b0
                  try clear c17
                  try clear c17b0
                  try clear c18
                  try clear c18b0
                  try clear p19
                  try clear q19
                  try clear hx19
                  try clear p20
                  try clear q20
                  try clear hx20
                  try clear c31
                  try clear hx193_0
                  try clear hx194_0
                  try clear hx200_0
                  try clear p1
                  try clear p193
                  try clear p194
                  try clear p2
                  try clear p200
                  try clear p6
                  try clear q1
                  try clear q193
                  try clear q194
                  try clear q200
                  obtain ⟨kq, x48_28, rfl, HA, HJ28, HB⟩ := hcut
                  cases kq with
                  | zero => exact absurd HA.out (by simp [spec_SentenceOpen.j1])
                  | succ kj28 =>
                    have H := HA.out
                    clear HA
                    simp only [spec_SentenceOpen.j1] at H
                    by_cases c36 : x48_28 = true
                    · subst c36
                      have H1 : (some false) = some r := by rw [if_pos rfl] at H; exact H
                      clear H
                      have H := H1
                      clear H1
                      obtain rfl := Option.some.inj H
                      go_wp2
                      repeat (go_quiet (fail); try go_wp2)
                      go_ret
                      exact ⟨by first | rfl | (simp [errW_none, errW_some] <;> rfl) | (simp only [← hji3]; first | rfl | (simp [errW_none, errW_some] <;> rfl)) | (simp [*, errW_none, errW_some] <;> rfl), by repeat (first | (with_reducible first | exact HB.out | apply below_alloc | apply pw_below_drewN | apply below_drew1) | exact HB.out)⟩
                    · replace c36 := Bool.eq_false_iff.mpr c36
                      subst c36
                      have H1 : (if 0 ≤ a1 then (if a1 ≤ (l0.length : Int) then ((spec_sbHeard.f kj28 (l0.take (a1 : Int).toNat)).bind fun t205 => ((spec_sbBehind.f kj28 t205 true).bind fun t208 => (if 0 ≤ (wrap64 ((t205.length : Int) - 1)) then (if (wrap64 ((t205.length : Int) - 1)) < (t205.length : Int) then (if (rd t205 (wrap64 ((t205.length : Int) - 1))) = 6 then (if t208 ≥ 0 then (if 0 ≤ t208 then (if t208 < (t205.length : Int) then (some ((rd t205 t208) == 12)) else (none)) else (none)) else (some false)) else (some false)) else (none)) else (none)))) else (none)) else (none)) = some r := by rw [if_neg (show ¬ (false = true) by decide)] at H; exact H
                      clear H
                      have H := H1
                      clear H1
                      by_cases c37 : 0 ≤ a1
                      · rw [if_pos c37] at H
                        have c37b0 := eq_true c37
                        have c37b1 : decide (0 ≤ a1) = true := decide_eq_true c37
                        clear c37
                        by_cases c38 : a1 ≤ (l0.length : Int)
                        · rw [if_pos c38] at H
                          have c38b0 := eq_true c38
                          have c38b1 : decide (a1 ≤ (l0.length : Int)) = true := decide_eq_true c38
                          clear c38
                          replace H := Option.bind_eq_some_iff.mp H
                          obtain ⟨t205, A390, H⟩ := H
                          replace H : ((spec_sbBehind.f kj28 t205 true).bind fun t208 => (if 0 ≤ (wrap64 ((t205.length : Int) - 1)) then (if (wrap64 ((t205.length : Int) - 1)) < (t205.length : Int) then (if (rd t205 (wrap64 ((t205.length : Int) - 1))) = 6 then (if t208 ≥ 0 then (if 0 ≤ t208 then (if t208 < (t205.length : Int) then (some ((rd t205 t208) == 12)) else (none)) else (none)) else (some false)) else (some false)) else (none)) else (none))) = some r := H
                          have A39 := Aside0.mk A390
                          clear A390
                          replace H := Option.bind_eq_some_iff.mp H
                          obtain ⟨t208, A400, H⟩ := H
                          replace H : (if 0 ≤ (wrap64 ((t205.length : Int) - 1)) then (if (wrap64 ((t205.length : Int) - 1)) < (t205.length : Int) then (if (rd t205 (wrap64 ((t205.length : Int) - 1))) = 6 then (if t208 ≥ 0 then (if 0 ≤ t208 then (if t208 < (t205.length : Int) then (some ((rd t205 t208) == 12)) else (none)) else (none)) else (some false)) else (some false)) else (none)) else (none)) = some r := H
                          have A40 := Aside0.mk A400
                          clear A400
                          obtain ⟨ji41, hji41⟩ : ∃ j_ : Int, (wrap64 ((t205.length : Int) - 1)) = j_ := ⟨_, rfl⟩
                          replace H : (if 0 ≤ (ji41) then (if (ji41) < (t205.length : Int) then (if (rd t205 (ji41)) = 6 then (if t208 ≥ 0 then (if 0 ≤ t208 then (if t208 < (t205.length : Int) then (some ((rd t205 t208) == 12)) else (none)) else (none)) else (some false)) else (some false)) else (none)) else (none)) = some r := by first | (rw [hji41] at H; exact H) | (simp only [hji41] at H ⊢; exact H)
                          (try rw [hji41] at A39)
                          (try rw [hji41] at A40)
                          have hji41w : (IntKind.i64.wrap ((t205.length : Int) - 1)) = ji41 := (i64_w _).trans hji41
                          by_cases c42 : 0 ≤ (ji41)
                          · rw [if_pos c42] at H
                            have c42b0 : decide (0 ≤ (ji41)) = true := decide_eq_true c42
                            clear c42
                            by_cases c43 : (ji41) < (t205.length : Int)
                            · rw [if_pos c43] at H
                              have c43b0 : decide ((ji41) < (t205.length : Int)) = true := decide_eq_true c43
                              clear c43
                              by_cases c44 : (rd t205 (ji41)) = 6
                              · rw [if_pos c44] at H
                                have c44b0 : ((rd t205 (ji41)) == 6) = true := beq_iff_eq.mpr c44
                                have c44b1 : ((rd t205 (ji41)) != 6) = false := bne_eq_false_iff_eq.mpr c44
                                clear c44
                                by_cases c45 : t208 ≥ 0
                                · rw [if_pos c45] at H
                                  have c45b0 : decide (0 ≤ t208) = true := decide_eq_true c45
                                  clear c45
                                  by_cases c46 : 0 ≤ t208
                                  · rw [if_pos c46] at H
                                    have c46b0 : decide (0 ≤ t208) = true := decide_eq_true c46
                                    clear c46
                                    by_cases c47 : t208 < (t205.length : Int)
                                    · rw [if_pos c47] at H
                                      have c47b0 : decide (t208 < (t205.length : Int)) = true := decide_eq_true c47
                                      clear c47
                                      obtain rfl := Option.some.inj H
                                      obtain ⟨i048, hi048, _, hsz48, _⟩ := info_parts info3
                                      obtain ⟨hcut48, hA48, hC48⟩ := print_take_of (P := Try.prog) (Value.int .i64) 0 23 3 .i64 Try.underlying23 hi048 hsz48 (some ad193) c0 l0 a1 (of_decide_eq_true (by first | (with_reducible assumption) | assumption)) (of_decide_eq_true (by first | (with_reducible assumption) | assumption)) HC0.out
                                      have HR204 := Aside0.mk (Kd.C_of_reads (h1 := fun _ => rfl) (hA48 _ (Kd.reads_of_C HR0.out)))
                                      have HC204 := Aside0.mk hC48
                                      clear hA48 hC48 hi048 hsz48
                                      go_wp2_with (first | (go_at_call 41; (have hl_ : (l0.take (a1 : Int).toNat).length = (a1 : Int).toNat := by (have h1_ : 0 ≤ (a1 : Int) := of_decide_eq_true (by first | (with_reducible assumption) | assumption)); (have h2_ : (a1 : Int) ≤ (l0.length : Int) := of_decide_eq_true (by first | (with_reducible assumption) | assumption)); (rw [List.length_take]; omega)); rw [← hl_]; clear hl_; (with_reducible refine (spec_sbHeard.calls kj28 _ _ (l0.take (a1 : Int).toNat) t205 _ ?side1 ?side2 A39.out).mono ?_); (case side1 => repeat (first | exact (Kd.C_below HR204.out HB.out) | (with_reducible refine Kd.C_alloc ?_ _) | (with_reducible refine Kd.C_drewN ?_ _) | (with_reducible refine Kd.C_drew ?_))); (case side2 => exact HC204.out); rintro e w49 ⟨v206, rfl, ho0, hb⟩; have n0_ := Aside0.mk (Kd.R_lower ho0 (below_size (by repeat (first | (with_reducible first | exact HB.out | apply below_alloc | apply pw_below_drewN | apply below_drew1) | exact HB.out)))); have n1_ := Aside0.mk (below_step (by repeat (first | (with_reducible first | exact HB.out | apply below_alloc | apply pw_below_drewN | apply below_drew1) | exact HB.out)) hb); clear HB; have HO207 := n0_; have HB := n1_; clear n0_ n1_; (try clear hb); (try clear hb2); (try clear hk); (try clear hi); (try clear ho0); obtain ⟨Ao50, co50, eo50⟩ := Kd.R_slice HO207.out; subst eo50) | (go_at_call 43; (with_reducible refine (spec_sbBehind.calls kj28 _ _ t205 true t208 _ ?side1 ?side2 A40.out).mono ?_); (case side1 => repeat (first | exact (Kd.R_reads' HO207.out).2.2 | (with_reducible refine Kd.C_alloc ?_ _) | (with_reducible refine Kd.C_drewN ?_ _) | (with_reducible refine Kd.C_drew ?_))); (case side2 => exact (Kd.R_reads' HO207.out).2.1); rintro e w51 ⟨rfl, hb⟩; have n0_ := Aside0.mk (Kd.R_below (by (with_reducible repeat (first | apply Kd.R_alloc | apply Kd.R_drewN | apply Kd.R_drew)); exact HO207.out) hb); have n1_ := Aside0.mk (below_step (by repeat (first | (with_reducible first | exact HB.out | apply below_alloc | apply pw_below_drewN | apply below_drew1) | exact HB.out)) hb); clear HO207; clear HB; have HO207 := n0_; have HB := n1_; clear n0_ n1_; (try clear hb); (try clear hb2); (try clear hk); (try clear hi); have p209 : 0 ≤ ((ji41) : Int) := of_decide_eq_true (by first | (with_reducible assumption) | assumption); have q209 : (ji41) < (t205.length : Int) := of_decide_eq_true (by first | (with_reducible assumption) | assumption); obtain ⟨ad209, e209, hx209_0⟩ := Kd.at_int (Kd.R_reads' HO207.out).2.2 (ji41) p209 q209; cases e209; replace p209 := eq_true p209; replace q209 := eq_true q209; have p210 : 0 ≤ (t208 : Int) := of_decide_eq_true (by first | (with_reducible assumption) | assumption); have q210 : t208 < (t205.length : Int) := of_decide_eq_true (by first | (with_reducible assumption) | assumption); obtain ⟨ad210, e210, hx210_0⟩ := Kd.at_int (Kd.R_reads' HO207.out).2.2 t208 p210 q210; obtain rfl : ad209 = ad210 := (by injection e210); replace p210 := eq_true p210; replace q210 := eq_true q210))
                                      repeat (go_quiet (first | (go_at_call 41; (have hl_ : (l0.take (a1 : Int).toNat).length = (a1 : Int).toNat := by (have h1_ : 0 ≤ (a1 : Int) := of_decide_eq_true (by first | (with_reducible assumption) | assumption)); (have h2_ : (a1 : Int) ≤ (l0.length : Int) := of_decide_eq_true (by first | (with_reducible assumption) | assumption)); (rw [List.length_take]; omega)); rw [← hl_]; clear hl_; (with_reducible refine (spec_sbHeard.calls kj28 _ _ (l0.take (a1 : Int).toNat) t205 _ ?side1 ?side2 A39.out).mono ?_); (case side1 => repeat (first | exact (Kd.C_below HR204.out HB.out) | (with_reducible refine Kd.C_alloc ?_ _) | (with_reducible refine Kd.C_drewN ?_ _) | (with_reducible refine Kd.C_drew ?_))); (case side2 => exact HC204.out); rintro e w49 ⟨v206, rfl, ho0, hb⟩; have n0_ := Aside0.mk (Kd.R_lower ho0 (below_size (by repeat (first | (with_reducible first | exact HB.out | apply below_alloc | apply pw_below_drewN | apply below_drew1) | exact HB.out)))); have n1_ := Aside0.mk (below_step (by repeat (first | (with_reducible first | exact HB.out | apply below_alloc | apply pw_below_drewN | apply below_drew1) | exact HB.out)) hb); clear HB; have HO207 := n0_; have HB := n1_; clear n0_ n1_; (try clear hb); (try clear hb2); (try clear hk); (try clear hi); (try clear ho0); obtain ⟨Ao50, co50, eo50⟩ := Kd.R_slice HO207.out; subst eo50) | (go_at_call 43; (with_reducible refine (spec_sbBehind.calls kj28 _ _ t205 true t208 _ ?side1 ?side2 A40.out).mono ?_); (case side1 => repeat (first | exact (Kd.R_reads' HO207.out).2.2 | (with_reducible refine Kd.C_alloc ?_ _) | (with_reducible refine Kd.C_drewN ?_ _) | (with_reducible refine Kd.C_drew ?_))); (case side2 => exact (Kd.R_reads' HO207.out).2.1); rintro e w51 ⟨rfl, hb⟩; have n0_ := Aside0.mk (Kd.R_below (by (with_reducible repeat (first | apply Kd.R_alloc | apply Kd.R_drewN | apply Kd.R_drew)); exact HO207.out) hb); have n1_ := Aside0.mk (below_step (by repeat (first | (with_reducible first | exact HB.out | apply below_alloc | apply pw_below_drewN | apply below_drew1) | exact HB.out)) hb); clear HO207; clear HB; have HO207 := n0_; have HB := n1_; clear n0_ n1_; (try clear hb); (try clear hb2); (try clear hk); (try clear hi); have p209 : 0 ≤ ((ji41) : Int) := of_decide_eq_true (by first | (with_reducible assumption) | assumption); have q209 : (ji41) < (t205.length : Int) := of_decide_eq_true (by first | (with_reducible assumption) | assumption); obtain ⟨ad209, e209, hx209_0⟩ := Kd.at_int (Kd.R_reads' HO207.out).2.2 (ji41) p209 q209; cases e209; replace p209 := eq_true p209; replace q209 := eq_true q209; have p210 : 0 ≤ (t208 : Int) := of_decide_eq_true (by first | (with_reducible assumption) | assumption); have q210 : t208 < (t205.length : Int) := of_decide_eq_true (by first | (with_reducible assumption) | assumption); obtain ⟨ad210, e210, hx210_0⟩ := Kd.at_int (Kd.R_reads' HO207.out).2.2 t208 p210 q210; obtain rfl : ad209 = ad210 := (by injection e210); replace p210 := eq_true p210; replace q210 := eq_true q210)); try go_wp2_with (first | (go_at_call 41; (have hl_ : (l0.take (a1 : Int).toNat).length = (a1 : Int).toNat := by (have h1_ : 0 ≤ (a1 : Int) := of_decide_eq_true (by first | (with_reducible assumption) | assumption)); (have h2_ : (a1 : Int) ≤ (l0.length : Int) := of_decide_eq_true (by first | (with_reducible assumption) | assumption)); (rw [List.length_take]; omega)); rw [← hl_]; clear hl_; (with_reducible refine (spec_sbHeard.calls kj28 _ _ (l0.take (a1 : Int).toNat) t205 _ ?side1 ?side2 A39.out).mono ?_); (case side1 => repeat (first | exact (Kd.C_below HR204.out HB.out) | (with_reducible refine Kd.C_alloc ?_ _) | (with_reducible refine Kd.C_drewN ?_ _) | (with_reducible refine Kd.C_drew ?_))); (case side2 => exact HC204.out); rintro e w49 ⟨v206, rfl, ho0, hb⟩; have n0_ := Aside0.mk (Kd.R_lower ho0 (below_size (by repeat (first | (with_reducible first | exact HB.out | apply below_alloc | apply pw_below_drewN | apply below_drew1) | exact HB.out)))); have n1_ := Aside0.mk (below_step (by repeat (first | (with_reducible first | exact HB.out | apply below_alloc | apply pw_below_drewN | apply below_drew1) | exact HB.out)) hb); clear HB; have HO207 := n0_; have HB := n1_; clear n0_ n1_; (try clear hb); (try clear hb2); (try clear hk); (try clear hi); (try clear ho0); obtain ⟨Ao50, co50, eo50⟩ := Kd.R_slice HO207.out; subst eo50) | (go_at_call 43; (with_reducible refine (spec_sbBehind.calls kj28 _ _ t205 true t208 _ ?side1 ?side2 A40.out).mono ?_); (case side1 => repeat (first | exact (Kd.R_reads' HO207.out).2.2 | (with_reducible refine Kd.C_alloc ?_ _) | (with_reducible refine Kd.C_drewN ?_ _) | (with_reducible refine Kd.C_drew ?_))); (case side2 => exact (Kd.R_reads' HO207.out).2.1); rintro e w51 ⟨rfl, hb⟩; have n0_ := Aside0.mk (Kd.R_below (by (with_reducible repeat (first | apply Kd.R_alloc | apply Kd.R_drewN | apply Kd.R_drew)); exact HO207.out) hb); have n1_ := Aside0.mk (below_step (by repeat (first | (with_reducible first | exact HB.out | apply below_alloc | apply pw_below_drewN | apply below_drew1) | exact HB.out)) hb); clear HO207; clear HB; have HO207 := n0_; have HB := n1_; clear n0_ n1_; (try clear hb); (try clear hb2); (try clear hk); (try clear hi); have p209 : 0 ≤ ((ji41) : Int) := of_decide_eq_true (by first | (with_reducible assumption) | assumption); have q209 : (ji41) < (t205.length : Int) := of_decide_eq_true (by first | (with_reducible assumption) | assumption); obtain ⟨ad209, e209, hx209_0⟩ := Kd.at_int (Kd.R_reads' HO207.out).2.2 (ji41) p209 q209; cases e209; replace p209 := eq_true p209; replace q209 := eq_true q209; have p210 : 0 ≤ (t208 : Int) := of_decide_eq_true (by first | (with_reducible assumption) | assumption); have q210 : t208 < (t205.length : Int) := of_decide_eq_true (by first | (with_reducible assumption) | assumption); obtain ⟨ad210, e210, hx210_0⟩ := Kd.at_int (Kd.R_reads' HO207.out).2.2 t208 p210 q210; obtain rfl : ad209 = ad210 := (by injection e210); replace p210 := eq_true p210; replace q210 := eq_true q210)))
                                      go_ret
                                      exact ⟨by first | rfl | (simp [errW_none, errW_some] <;> rfl) | (simp only [← hji3, ← hji41]; first | rfl | (simp [errW_none, errW_some] <;> rfl)) | (simp [*, errW_none, errW_some] <;> rfl), by repeat (first | (with_reducible first | exact HB.out | apply below_alloc | apply pw_below_drewN | apply below_drew1) | exact HB.out)⟩
                                    · rw [if_neg c47] at H
                                      exact absurd H (by simp)
                                  · rw [if_neg c46] at H
                                    exact absurd H (by simp)
                                · rw [if_neg c45] at H
                                  have c45b0 : decide (0 ≤ t208) = false := decide_eq_false c45
                                  clear c45
                                  obtain rfl := Option.some.inj H
                                  obtain ⟨i052, hi052, _, hsz52, _⟩ := info_parts info3
                                  obtain ⟨hcut52, hA52, hC52⟩ := print_take_of (P := Try.prog) (Value.int .i64) 0 23 3 .i64 Try.underlying23 hi052 hsz52 (some ad193) c0 l0 a1 (of_decide_eq_true (by first | (with_reducible assumption) | assumption)) (of_decide_eq_true (by first | (with_reducible assumption) | assumption)) HC0.out
                                  have HR204 := Aside0.mk (Kd.C_of_reads (h1 := fun _ => rfl) (hA52 _ (Kd.reads_of_C HR0.out)))
                                  have HC204 := Aside0.mk hC52
                                  clear hA52 hC52 hi052 hsz52
                                  go_wp2_with (first | (go_at_call 41; (have hl_ : (l0.take (a1 : Int).toNat).length = (a1 : Int).toNat := by (have h1_ : 0 ≤ (a1 : Int) := of_decide_eq_true (by first | (with_reducible assumption) | assumption)); (have h2_ : (a1 : Int) ≤ (l0.length : Int) := of_decide_eq_true (by first | (with_reducible assumption) | assumption)); (rw [List.length_take]; omega)); rw [← hl_]; clear hl_; (with_reducible refine (spec_sbHeard.calls kj28 _ _ (l0.take (a1 : Int).toNat) t205 _ ?side1 ?side2 A39.out).mono ?_); (case side1 => repeat (first | exact (Kd.C_below HR204.out HB.out) | (with_reducible refine Kd.C_alloc ?_ _) | (with_reducible refine Kd.C_drewN ?_ _) | (with_reducible refine Kd.C_drew ?_))); (case side2 => exact HC204.out); rintro e w53 ⟨v206, rfl, ho0, hb⟩; have n0_ := Aside0.mk (Kd.R_lower ho0 (below_size (by repeat (first | (with_reducible first | exact HB.out | apply below_alloc | apply pw_below_drewN | apply below_drew1) | exact HB.out)))); have n1_ := Aside0.mk (below_step (by repeat (first | (with_reducible first | exact HB.out | apply below_alloc | apply pw_below_drewN | apply below_drew1) | exact HB.out)) hb); clear HB; have HO207 := n0_; have HB := n1_; clear n0_ n1_; (try clear hb); (try clear hb2); (try clear hk); (try clear hi); (try clear ho0); obtain ⟨Ao54, co54, eo54⟩ := Kd.R_slice HO207.out; subst eo54) | (go_at_call 43; (with_reducible refine (spec_sbBehind.calls kj28 _ _ t205 true t208 _ ?side1 ?side2 A40.out).mono ?_); (case side1 => repeat (first | exact (Kd.R_reads' HO207.out).2.2 | (with_reducible refine Kd.C_alloc ?_ _) | (with_reducible refine Kd.C_drewN ?_ _) | (with_reducible refine Kd.C_drew ?_))); (case side2 => exact (Kd.R_reads' HO207.out).2.1); rintro e w55 ⟨rfl, hb⟩; have n0_ := Aside0.mk (Kd.R_below (by (with_reducible repeat (first | apply Kd.R_alloc | apply Kd.R_drewN | apply Kd.R_drew)); exact HO207.out) hb); have n1_ := Aside0.mk (below_step (by repeat (first | (with_reducible first | exact HB.out | apply below_alloc | apply pw_below_drewN | apply below_drew1) | exact HB.out)) hb); clear HO207; clear HB; have HO207 := n0_; have HB := n1_; clear n0_ n1_; (try clear hb); (try clear hb2); (try clear hk); (try clear hi); have p209 : 0 ≤ ((ji41) : Int) := of_decide_eq_true (by first | (with_reducible assumption) | assumption); have q209 : (ji41) < (t205.length : Int) := of_decide_eq_true (by first | (with_reducible assumption) | assumption); obtain ⟨ad209, e209, hx209_0⟩ := Kd.at_int (Kd.R_reads' HO207.out).2.2 (ji41) p209 q209; cases e209; replace p209 := eq_true p209; replace q209 := eq_true q209))
                                  repeat (go_quiet (first | (go_at_call 41; (have hl_ : (l0.take (a1 : Int).toNat).length = (a1 : Int).toNat := by (have h1_ : 0 ≤ (a1 : Int) := of_decide_eq_true (by first | (with_reducible assumption) | assumption)); (have h2_ : (a1 : Int) ≤ (l0.length : Int) := of_decide_eq_true (by first | (with_reducible assumption) | assumption)); (rw [List.length_take]; omega)); rw [← hl_]; clear hl_; (with_reducible refine (spec_sbHeard.calls kj28 _ _ (l0.take (a1 : Int).toNat) t205 _ ?side1 ?side2 A39.out).mono ?_); (case side1 => repeat (first | exact (Kd.C_below HR204.out HB.out) | (with_reducible refine Kd.C_alloc ?_ _) | (with_reducible refine Kd.C_drewN ?_ _) | (with_reducible refine Kd.C_drew ?_))); (case side2 => exact HC204.out); rintro e w53 ⟨v206, rfl, ho0, hb⟩; have n0_ := Aside0.mk (Kd.R_lower ho0 (below_size (by repeat (first | (with_reducible first | exact HB.out | apply below_alloc | apply pw_below_drewN | apply below_drew1) | exact HB.out)))); have n1_ := Aside0.mk (below_step (by repeat (first | (with_reducible first | exact HB.out | apply below_alloc | apply pw_below_drewN | apply below_drew1) | exact HB.out)) hb); clear HB; have HO207 := n0_; have HB := n1_; clear n0_ n1_; (try clear hb); (try clear hb2); (try clear hk); (try clear hi); (try clear ho0); obtain ⟨Ao54, co54, eo54⟩ := Kd.R_slice HO207.out; subst eo54) | (go_at_call 43; (with_reducible refine (spec_sbBehind.calls kj28 _ _ t205 true t208 _ ?side1 ?side2 A40.out).mono ?_); (case side1 => repeat (first | exact (Kd.R_reads' HO207.out).2.2 | (with_reducible refine Kd.C_alloc ?_ _) | (with_reducible refine Kd.C_drewN ?_ _) | (with_reducible refine Kd.C_drew ?_))); (case side2 => exact (Kd.R_reads' HO207.out).2.1); rintro e w55 ⟨rfl, hb⟩; have n0_ := Aside0.mk (Kd.R_below (by (with_reducible repeat (first | apply Kd.R_alloc | apply Kd.R_drewN | apply Kd.R_drew)); exact HO207.out) hb); have n1_ := Aside0.mk (below_step (by repeat (first | (with_reducible first | exact HB.out | apply below_alloc | apply pw_below_drewN | apply below_drew1) | exact HB.out)) hb); clear HO207; clear HB; have HO207 := n0_; have HB := n1_; clear n0_ n1_; (try clear hb); (try clear hb2); (try clear hk); (try clear hi); have p209 : 0 ≤ ((ji41) : Int) := of_decide_eq_true (by first | (with_reducible assumption) | assumption); have q209 : (ji41) < (t205.length : Int) := of_decide_eq_true (by first | (with_reducible assumption) | assumption); obtain ⟨ad209, e209, hx209_0⟩ := Kd.at_int (Kd.R_reads' HO207.out).2.2 (ji41) p209 q209; cases e209; replace p209 := eq_true p209; replace q209 := eq_true q209)); try go_wp2_with (first | (go_at_call 41; (have hl_ : (l0.take (a1 : Int).toNat).length = (a1 : Int).toNat := by (have h1_ : 0 ≤ (a1 : Int) := of_decide_eq_true (by first | (with_reducible assumption) | assumption)); (have h2_ : (a1 : Int) ≤ (l0.length : Int) := of_decide_eq_true (by first | (with_reducible assumption) | assumption)); (rw [List.length_take]; omega)); rw [← hl_]; clear hl_; (with_reducible refine (spec_sbHeard.calls kj28 _ _ (l0.take (a1 : Int).toNat) t205 _ ?side1 ?side2 A39.out).mono ?_); (case side1 => repeat (first | exact (Kd.C_below HR204.out HB.out) | (with_reducible refine Kd.C_alloc ?_ _) | (with_reducible refine Kd.C_drewN ?_ _) | (with_reducible refine Kd.C_drew ?_))); (case side2 => exact HC204.out); rintro e w53 ⟨v206, rfl, ho0, hb⟩; have n0_ := Aside0.mk (Kd.R_lower ho0 (below_size (by repeat (first | (with_reducible first | exact HB.out | apply below_alloc | apply pw_below_drewN | apply below_drew1) | exact HB.out)))); have n1_ := Aside0.mk (below_step (by repeat (first | (with_reducible first | exact HB.out | apply below_alloc | apply pw_below_drewN | apply below_drew1) | exact HB.out)) hb); clear HB; have HO207 := n0_; have HB := n1_; clear n0_ n1_; (try clear hb); (try clear hb2); (try clear hk); (try clear hi); (try clear ho0); obtain ⟨Ao54, co54, eo54⟩ := Kd.R_slice HO207.out; subst eo54) | (go_at_call 43; (with_reducible refine (spec_sbBehind.calls kj28 _ _ t205 true t208 _ ?side1 ?side2 A40.out).mono ?_); (case side1 => repeat (first | exact (Kd.R_reads' HO207.out).2.2 | (with_reducible refine Kd.C_alloc ?_ _) | (with_reducible refine Kd.C_drewN ?_ _) | (with_reducible refine Kd.C_drew ?_))); (case side2 => exact (Kd.R_reads' HO207.out).2.1); rintro e w55 ⟨rfl, hb⟩; have n0_ := Aside0.mk (Kd.R_below (by (with_reducible repeat (first | apply Kd.R_alloc | apply Kd.R_drewN | apply Kd.R_drew)); exact HO207.out) hb); have n1_ := Aside0.mk (below_step (by repeat (first | (with_reducible first | exact HB.out | apply below_alloc | apply pw_below_drewN | apply below_drew1) | exact HB.out)) hb); clear HO207; clear HB; have HO207 := n0_; have HB := n1_; clear n0_ n1_; (try clear hb); (try clear hb2); (try clear hk); (try clear hi); have p209 : 0 ≤ ((ji41) : Int) := of_decide_eq_true (by first | (with_reducible assumption) | assumption); have q209 : (ji41) < (t205.length : Int) := of_decide_eq_true (by first | (with_reducible assumption) | assumption); obtain ⟨ad209, e209, hx209_0⟩ := Kd.at_int (Kd.R_reads' HO207.out).2.2 (ji41) p209 q209; cases e209; replace p209 := eq_true p209; replace q209 := eq_true q209)))
                                  go_ret
                                  exact ⟨by first | rfl | (simp [errW_none, errW_some] <;> rfl) | (simp only [← hji3, ← hji41]; first | rfl | (simp [errW_none, errW_some] <;> rfl)) | (simp [*, errW_none, errW_some] <;> rfl), by repeat (first | (with_reducible first | exact HB.out | apply below_alloc | apply pw_below_drewN | apply below_drew1) | exact HB.out)⟩
                              · rw [if_neg c44] at H
                                have c44b0 : ((rd t205 (ji41)) == 6) = false := beq_eq_false_iff_ne.mpr c44
                                have c44b1 : ((rd t205 (ji41)) != 6) = true := bne_iff_ne.mpr c44
                                obtain rfl := Option.some.inj H
                                obtain ⟨i056, hi056, _, hsz56, _⟩ := info_parts info3
                                obtain ⟨hcut56, hA56, hC56⟩ := print_take_of (P := Try.prog) (Value.int .i64) 0 23 3 .i64 Try.underlying23 hi056 hsz56 (some ad193) c0 l0 a1 (of_decide_eq_true (by first | (with_reducible assumption) | assumption)) (of_decide_eq_true (by first | (with_reducible assumption) | assumption)) HC0.out
                                have HR204 := Aside0.mk (Kd.C_of_reads (h1 := fun _ => rfl) (hA56 _ (Kd.reads_of_C HR0.out)))
                                have HC204 := Aside0.mk hC56
                                clear hA56 hC56 hi056 hsz56
                                go_wp2_with (first | (go_at_call 41; (have hl_ : (l0.take (a1 : Int).toNat).length = (a1 : Int).toNat := by (have h1_ : 0 ≤ (a1 : Int) := of_decide_eq_true (by first | (with_reducible assumption) | assumption)); (have h2_ : (a1 : Int) ≤ (l0.length : Int) := of_decide_eq_true (by first | (with_reducible assumption) | assumption)); (rw [List.length_take]; omega)); rw [← hl_]; clear hl_; (with_reducible refine (spec_sbHeard.calls kj28 _ _ (l0.take (a1 : Int).toNat) t205 _ ?side1 ?side2 A39.out).mono ?_); (case side1 => repeat (first | exact (Kd.C_below HR204.out HB.out) | (with_reducible refine Kd.C_alloc ?_ _) | (with_reducible refine Kd.C_drewN ?_ _) | (with_reducible refine Kd.C_drew ?_))); (case side2 => exact HC204.out); rintro e w57 ⟨v206, rfl, ho0, hb⟩; have n0_ := Aside0.mk (Kd.R_lower ho0 (below_size (by repeat (first | (with_reducible first | exact HB.out | apply below_alloc | apply pw_below_drewN | apply below_drew1) | exact HB.out)))); have n1_ := Aside0.mk (below_step (by repeat (first | (with_reducible first | exact HB.out | apply below_alloc | apply pw_below_drewN | apply below_drew1) | exact HB.out)) hb); clear HB; have HO207 := n0_; have HB := n1_; clear n0_ n1_; (try clear hb); (try clear hb2); (try clear hk); (try clear hi); (try clear ho0); obtain ⟨Ao58, co58, eo58⟩ := Kd.R_slice HO207.out; subst eo58) | (go_at_call 43; (with_reducible refine (spec_sbBehind.calls kj28 _ _ t205 true t208 _ ?side1 ?side2 A40.out).mono ?_); (case side1 => repeat (first | exact (Kd.R_reads' HO207.out).2.2 | (with_reducible refine Kd.C_alloc ?_ _) | (with_reducible refine Kd.C_drewN ?_ _) | (with_reducible refine Kd.C_drew ?_))); (case side2 => exact (Kd.R_reads' HO207.out).2.1); rintro e w59 ⟨rfl, hb⟩; have n0_ := Aside0.mk (Kd.R_below (by (with_reducible repeat (first | apply Kd.R_alloc | apply Kd.R_drewN | apply Kd.R_drew)); exact HO207.out) hb); have n1_ := Aside0.mk (below_step (by repeat (first | (with_reducible first | exact HB.out | apply below_alloc | apply pw_below_drewN | apply below_drew1) | exact HB.out)) hb); clear HO207; clear HB; have HO207 := n0_; have HB := n1_; clear n0_ n1_; (try clear hb); (try clear hb2); (try clear hk); (try clear hi); have p209 : 0 ≤ ((ji41) : Int) := of_decide_eq_true (by first | (with_reducible assumption) | assumption); have q209 : (ji41) < (t205.length : Int) := of_decide_eq_true (by first | (with_reducible assumption) | assumption); obtain ⟨ad209, e209, hx209_0⟩ := Kd.at_int (Kd.R_reads' HO207.out).2.2 (ji41) p209 q209; cases e209; replace p209 := eq_true p209; replace q209 := eq_true q209))
                                repeat (go_quiet (first | (go_at_call 41; (have hl_ : (l0.take (a1 : Int).toNat).length = (a1 : Int).toNat := by (have h1_ : 0 ≤ (a1 : Int) := of_decide_eq_true (by first | (with_reducible assumption) | assumption)); (have h2_ : (a1 : Int) ≤ (l0.length : Int) := of_decide_eq_true (by first | (with_reducible assumption) | assumption)); (rw [List.length_take]; omega)); rw [← hl_]; clear hl_; (with_reducible refine (spec_sbHeard.calls kj28 _ _ (l0.take (a1 : Int).toNat) t205 _ ?side1 ?side2 A39.out).mono ?_); (case side1 => repeat (first | exact (Kd.C_below HR204.out HB.out) | (with_reducible refine Kd.C_alloc ?_ _) | (with_reducible refine Kd.C_drewN ?_ _) | (with_reducible refine Kd.C_drew ?_))); (case side2 => exact HC204.out); rintro e w57 ⟨v206, rfl, ho0, hb⟩; have n0_ := Aside0.mk (Kd.R_lower ho0 (below_size (by repeat (first | (with_reducible first | exact HB.out | apply below_alloc | apply pw_below_drewN | apply below_drew1) | exact HB.out)))); have n1_ := Aside0.mk (below_step (by repeat (first | (with_reducible first | exact HB.out | apply below_alloc | apply pw_below_drewN | apply below_drew1) | exact HB.out)) hb); clear HB; have HO207 := n0_; have HB := n1_; clear n0_ n1_; (try clear hb); (try clear hb2); (try clear hk); (try clear hi); (try clear ho0); obtain ⟨Ao58, co58, eo58⟩ := Kd.R_slice HO207.out; subst eo58) | (go_at_call 43; (with_reducible refine (spec_sbBehind.calls kj28 _ _ t205 true t208 _ ?side1 ?side2 A40.out).mono ?_); (case side1 => repeat (first | exact (Kd.R_reads' HO207.out).2.2 | (with_reducible refine Kd.C_alloc ?_ _) | (with_reducible refine Kd.C_drewN ?_ _) | (with_reducible refine Kd.C_drew ?_))); (case side2 => exact (Kd.R_reads' HO207.out).2.1); rintro e w59 ⟨rfl, hb⟩; have n0_ := Aside0.mk (Kd.R_below (by (with_reducible repeat (first | apply Kd.R_alloc | apply Kd.R_drewN | apply Kd.R_drew)); exact HO207.out) hb); have n1_ := Aside0.mk (below_step (by repeat (first | (with_reducible first | exact HB.out | apply below_alloc | apply pw_below_drewN | apply below_drew1) | exact HB.out)) hb); clear HO207; clear HB; have HO207 := n0_; have HB := n1_; clear n0_ n1_; (try clear hb); (try clear hb2); (try clear hk); (try clear hi); have p209 : 0 ≤ ((ji41) : Int) := of_decide_eq_true (by first | (with_reducible assumption) | assumption); have q209 : (ji41) < (t205.length : Int) := of_decide_eq_true (by first | (with_reducible assumption) | assumption); obtain ⟨ad209, e209, hx209_0⟩ := Kd.at_int (Kd.R_reads' HO207.out).2.2 (ji41) p209 q209; cases e209; replace p209 := eq_true p209; replace q209 := eq_true q209)); try go_wp2_with (first | (go_at_call 41; (have hl_ : (l0.take (a1 : Int).toNat).length = (a1 : Int).toNat := by (have h1_ : 0 ≤ (a1 : Int) := of_decide_eq_true (by first | (with_reducible assumption) | assumption)); (have h2_ : (a1 : Int) ≤ (l0.length : Int) := of_decide_eq_true (by first | (with_reducible assumption) | assumption)); (rw [List.length_take]; omega)); rw [← hl_]; clear hl_; (with_reducible refine (spec_sbHeard.calls kj28 _ _ (l0.take (a1 : Int).toNat) t205 _ ?side1 ?side2 A39.out).mono ?_); (case side1 => repeat (first | exact (Kd.C_below HR204.out HB.out) | (with_reducible refine Kd.C_alloc ?_ _) | (with_reducible refine Kd.C_drewN ?_ _) | (with_reducible refine Kd.C_drew ?_))); (case side2 => exact HC204.out); rintro e w57 ⟨v206, rfl, ho0, hb⟩; have n0_ := Aside0.mk (Kd.R_lower ho0 (below_size (by repeat (first | (with_reducible first | exact HB.out | apply below_alloc | apply pw_below_drewN | apply below_drew1) | exact HB.out)))); have n1_ := Aside0.mk (below_step (by repeat (first | (with_reducible first | exact HB.out | apply below_alloc | apply pw_below_drewN | apply below_drew1) | exact HB.out)) hb); clear HB; have HO207 := n0_; have HB := n1_; clear n0_ n1_; (try clear hb); (try clear hb2); (try clear hk); (try clear hi); (try clear ho0); obtain ⟨Ao58, co58, eo58⟩ := Kd.R_slice HO207.out; subst eo58) | (go_at_call 43; (with_reducible refine (spec_sbBehind.calls kj28 _ _ t205 true t208 _ ?side1 ?side2 A40.out).mono ?_); (case side1 => repeat (first | exact (Kd.R_reads' HO207.out).2.2 | (with_reducible refine Kd.C_alloc ?_ _) | (with_reducible refine Kd.C_drewN ?_ _) | (with_reducible refine Kd.C_drew ?_))); (case side2 => exact (Kd.R_reads' HO207.out).2.1); rintro e w59 ⟨rfl, hb⟩; have n0_ := Aside0.mk (Kd.R_below (by (with_reducible repeat (first | apply Kd.R_alloc | apply Kd.R_drewN | apply Kd.R_drew)); exact HO207.out) hb); have n1_ := Aside0.mk (below_step (by repeat (first | (with_reducible first | exact HB.out | apply below_alloc | apply pw_below_drewN | apply below_drew1) | exact HB.out)) hb); clear HO207; clear HB; have HO207 := n0_; have HB := n1_; clear n0_ n1_; (try clear hb); (try clear hb2); (try clear hk); (try clear hi); have p209 : 0 ≤ ((ji41) : Int) := of_decide_eq_true (by first | (with_reducible assumption) | assumption); have q209 : (ji41) < (t205.length : Int) := of_decide_eq_true (by first | (with_reducible assumption) | assumption); obtain ⟨ad209, e209, hx209_0⟩ := Kd.at_int (Kd.R_reads' HO207.out).2.2 (ji41) p209 q209; cases e209; replace p209 := eq_true p209; replace q209 := eq_true q209)))
                                go_ret
                                exact ⟨by first | rfl | (simp [errW_none, errW_some] <;> rfl) | (simp only [← hji3, ← hji41]; first | rfl | (simp [errW_none, errW_some] <;> rfl)) | (simp [*, errW_none, errW_some] <;> rfl), by repeat (first | (with_reducible first | exact HB.out | apply below_alloc | apply pw_below_drewN | apply below_drew1) | exact HB.out)⟩
                            · rw [if_neg c43] at H
                              exact absurd H (by simp)
                          · rw [if_neg c42] at H
                            exact absurd H (by simp)
                        · rw [if_neg c38] at H
                          exact absurd H (by simp)
                      · rw [if_neg c37] at H
                        exact absurd H (by simp)
        · rw [if_neg c7] at H
          exact absurd H (by simp)
      · rw [if_neg c6] at H
        exact absurd H (by simp)
    · rw [if_neg c5] at H
      exact absurd H (by simp)
  · rw [if_neg c4] at H
    exact absurd H (by simp)

/-- THE ONE PURE STATEMENT of spec_SentenceOpen: yours. -/
def spec_SentenceOpen.Pure : Prop := ∀ (l0 : List Int) (a1 : Int), l0.length ≤ maxLen → l0.length * 8 ≤ 140737488351232 → (∀ x ∈ l0, (Lit.int .i64 x).wf = true) → (Lit.int .i64 a1).wf = true → ∃ k, spec_SentenceOpen.f k l0 a1 = some true
theorem spec_SentenceOpen.walk (P : spec_SentenceOpen.Pure) (a0 : Option Addr) (len0 cap0 : Nat) (z0 : List Int) (a1 : Int) (w : World) (w0 : (a0 = none ∧ len0 = 0 ∧ cap0 = 0 ∧ z0 = []) ∨ ∃ x, a0 = some x ∧ len0 ≤ cap0 ∧ cap0 ≤ maxLen ∧ z0.length = cap0 ∧ (∀ i, i < z0.length → w.cell? (x.add i) = some (.int .i64 (z0.getD i 0))) ∧ ∀ n ∈ z0, (Lit.int .i64 n).wf = true) (y0 : len0 * 8 ≤ 140737488351232) (w1 : (Lit.int .i64 a1).wf = true) :
    Calls Try.prog 17 #[.slice a0 len0 cap0, .int .i64 a1] w fun e w' => e = .returned (.bool true) ∧ Below w.heap.size w w' := by
  obtain ⟨l0, rfl, hr0, hm0, hw0, hc0⟩ := ReadsInt.ofRowC w0
  obtain ⟨k, h⟩ := P l0 a1 hm0 y0 hw0 w1
  refine (spec_SentenceOpen.calls k _ _ l0 a1 true w (Kd.C_of_reads (d := (0 : Int)) (h1 := fun _ => rfl) hr0) hc0 h).mono ?_
  rintro e w' ⟨rfl, hd⟩
  exact ⟨rfl, hd⟩

end Go.Proofs.Ytnanfoahimccpaa.Sn
