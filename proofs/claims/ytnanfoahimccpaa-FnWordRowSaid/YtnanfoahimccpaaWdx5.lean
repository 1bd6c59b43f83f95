/- Functions of the translation as Lean functions, and their walks: lines written by a program, a turned copy of the kit's print. -/
import Derived.Test.YtnanfoahimccpaaWdx0
import Derived.Test.YtnanfoahimccpaaWdx1
import Derived.Test.YtnanfoahimccpaaWdx3
namespace Go.Proofs.Ytnanfoahimccpaa.Wd
open Go.RowKit Go.Proofs.YtnanfoahimccpaaW.PrintWords Go.Proofs.YtnanfoahimccpaaW.PrintLast Go.Proofs.YtnanfoahimccpaaW.PrintMore
attribute [local go_sem] max2_int min2_int max_two min_two max_three min_three max_four min_four   -- for this text's walks alone
set_option linter.unusedVariables false
set_option linter.unusedSimpArgs false

/-! ### spec_wbNumbers: function 35 -/
mutual
def spec_wbNumbers.j0 : Nat → Int → Int → Int → Int → Int → Bool → Option (Bool)
  | 0, _, _, _, _, _, _ => none
  | k + 1, x0, x1, x2, x3, x9, x10 => if x10 = true then (spec_wbNumbers.j1 k x0 x1 x2 x3 x9 x10) else ((spec_wbLetter.f k x1).bind fun t151 => (if t151 = true then (spec_wbNumbers.j1 k x0 x1 x2 x3 x9 (x2 == x9)) else (spec_wbNumbers.j1 k x0 x1 x2 x3 x9 false)))
def spec_wbNumbers.j1 : Nat → Int → Int → Int → Int → Int → Bool → Option (Bool)
  | 0, _, _, _, _, _, _ => none
  | k + 1, x0, x1, x2, x3, x9, x10 => if x10 = true then (some true) else (if x0 = x9 then (if x1 = 15 then (if x2 = x9 then (some true) else (if x1 = x9 then (if x2 = 15 then (some (x3 == x9)) else ((spec_wbQuote.f k x2).bind fun t152 => (if t152 = true then (some (x3 == x9)) else (some false)))) else (some false))) else ((spec_wbQuote.f k x1).bind fun t153 => (if t153 = true then (if x2 = x9 then (some true) else (if x1 = x9 then (if x2 = 15 then (some (x3 == x9)) else ((spec_wbQuote.f k x2).bind fun t154 => (if t154 = true then (some (x3 == x9)) else (some false)))) else (some false))) else (if x1 = x9 then (if x2 = 15 then (some (x3 == x9)) else ((spec_wbQuote.f k x2).bind fun t155 => (if t155 = true then (some (x3 == x9)) else (some false)))) else (some false))))) else (if x1 = x9 then (if x2 = 15 then (some (x3 == x9)) else ((spec_wbQuote.f k x2).bind fun t156 => (if t156 = true then (some (x3 == x9)) else (some false)))) else (some false)))
end
def spec_wbNumbers.f (k : Nat) (a0 : Int) (a1 : Int) (a2 : Int) (a3 : Int) : Option (Bool) := if a1 = 16 then (if a2 = 16 then (spec_wbNumbers.j0 k a0 a1 a2 a3 16 true) else ((spec_wbLetter.f k a2).bind fun t150 => (spec_wbNumbers.j0 k a0 a1 a2 a3 16 t150))) else (spec_wbNumbers.j0 k a0 a1 a2 a3 16 false)
theorem spec_wbNumbers.mono_l : ∀ k, (∀ y0 y1 y2 y3 y4 y5, LeO (spec_wbNumbers.j0 k y0 y1 y2 y3 y4 y5) (spec_wbNumbers.j0 (k + 1) y0 y1 y2 y3 y4 y5)) ∧ (∀ y0 y1 y2 y3 y4 y5, LeO (spec_wbNumbers.j1 k y0 y1 y2 y3 y4 y5) (spec_wbNumbers.j1 (k + 1) y0 y1 y2 y3 y4 y5))
  | 0 => ⟨fun _ _ _ _ _ _ r h => by simp [spec_wbNumbers.j0] at h, fun _ _ _ _ _ _ r h => by simp [spec_wbNumbers.j1] at h⟩
  | k + 1 => by
    obtain ⟨ih0, ih1⟩ := spec_wbNumbers.mono_l k
    refine ⟨?_, ?_⟩
    · intro y0 y1 y2 y3 y4 y5
      unfold spec_wbNumbers.j0
      repeat' first
      | (with_reducible exact ih0 _ _ _ _ _ _)
      | (with_reducible exact ih1 _ _ _ _ _ _)
      | (with_reducible exact spec_wbLetter.mono _ _)
      | (with_reducible exact spec_wbQuote.mono _ _)
      | (with_reducible exact LeO.refl _)
      | (with_reducible exact LeO.none _)
      | (with_reducible refine LeO.ite ?_ ?_)
      | (with_reducible refine LeO.bind ?_ (fun _ => ?_))
      | exact ih0 _ _ _ _ _ _
      | exact ih1 _ _ _ _ _ _
      | exact spec_wbLetter.mono _ _
      | exact spec_wbQuote.mono _ _
      | exact LeO.none _
      | refine LeO.ite ?_ ?_
      | refine LeO.bind ?_ (fun _ => ?_)
    · intro y0 y1 y2 y3 y4 y5
      unfold spec_wbNumbers.j1
      repeat' first
      | (with_reducible exact ih0 _ _ _ _ _ _)
      | (with_reducible exact ih1 _ _ _ _ _ _)
      | (with_reducible exact spec_wbLetter.mono _ _)
      | (with_reducible exact spec_wbQuote.mono _ _)
      | (with_reducible exact LeO.refl _)
      | (with_reducible exact LeO.none _)
      | (with_reducible refine LeO.ite ?_ ?_)
      | (with_reducible refine LeO.bind ?_ (fun _ => ?_))
      | exact ih0 _ _ _ _ _ _
      | exact ih1 _ _ _ _ _ _
      | exact spec_wbLetter.mono _ _
      | exact spec_wbQuote.mono _ _
      | exact LeO.none _
      | refine LeO.ite ?_ ?_
      | refine LeO.bind ?_ (fun _ => ?_)
theorem spec_wbNumbers.mono : ∀ a0 a1 a2 a3 k, LeO (spec_wbNumbers.f k a0 a1 a2 a3) (spec_wbNumbers.f (k + 1) a0 a1 a2 a3) := by
  intro a0 a1 a2 a3 k
  obtain ⟨ih0, ih1⟩ := spec_wbNumbers.mono_l k
  unfold spec_wbNumbers.f
  repeat' first
      | (with_reducible exact ih0 _ _ _ _ _ _)
      | (with_reducible exact ih1 _ _ _ _ _ _)
      | (with_reducible exact spec_wbLetter.mono _ _)
      | (with_reducible exact spec_wbQuote.mono _ _)
      | (with_reducible exact LeO.refl _)
      | (with_reducible exact LeO.none _)
      | (with_reducible refine LeO.ite ?_ ?_)
      | (with_reducible refine LeO.bind ?_ (fun _ => ?_))
      | exact ih0 _ _ _ _ _ _
      | exact ih1 _ _ _ _ _ _
      | exact spec_wbLetter.mono _ _
      | exact spec_wbQuote.mono _ _
      | exact LeO.none _
      | refine LeO.ite ?_ ?_
      | refine LeO.bind ?_ (fun _ => ?_)
set_option maxHeartbeats 8000000 in
set_option maxRecDepth 100000 in
theorem spec_wbNumbers.calls (k : Nat) (a0 : Int) (a1 : Int) (a2 : Int) (a3 : Int) (r : Bool) (w : World) (h : spec_wbNumbers.f k a0 a1 a2 a3 = some r) :
    Calls Try.prog 35 #[.int .i64 a0, .int .i64 a1, .int .i64 a2, .int .i64 a3] w fun e w' => e = .returned (.bool r) ∧ Below w.heap.size w w' := by
  have HB := Aside0.mk (Below.refl w.heap.size w)
  have H : (if a1 = 16 then (if a2 = 16 then (spec_wbNumbers.j0 k a0 a1 a2 a3 16 true) else ((spec_wbLetter.f k a2).bind fun t150 => (spec_wbNumbers.j0 k a0 a1 a2 a3 16 t150))) else (spec_wbNumbers.j0 k a0 a1 a2 a3 16 false)) = some r := h
  clear h
  have HC5 := Aside0.mk H
  clear H
  go_enter Try.func35, Try.ntmps35
  go_upto_region 2 with (fail)
  go_cut [10] (fun v10 wc => ∃ (kq : Nat) (x10_4 : Bool), v10 = .bool x10_4 ∧ Aside0 (spec_wbNumbers.j0 kq a0 a1 a2 a3 16 x10_4 = some r) ∧ Aside0 (kq ≤ k) ∧ Aside0 (Below w.heap.size w wc))
  case first =>
    have H := HC5.out
    clear HC5
    by_cases c6 : a1 = 16
    · rw [if_pos c6] at H
      have c6b0 : (a1 == 16) = true := beq_iff_eq.mpr c6
      have c6b1 : (a1 != 16) = false := bne_eq_false_iff_eq.mpr c6
      clear c6
      (first | rw [c6b0] | (simp only [i64_w, i32_w]; rw [c6b0]) | skip)
      by_cases c7 : a2 = 16
      · rw [if_pos c7] at H
        have c7b0 : (a2 == 16) = true := beq_iff_eq.mpr c7
        have c7b1 : (a2 != 16) = false := bne_eq_false_iff_eq.mpr c7
        clear c7
        have H' := Aside0.mk H
        clear H
        go_wp2
        go_meet
        case rel => exact ⟨_, (true), (by first | rfl | (simp; done) | (simp [*]; done)), H', ⟨by first | omega | exact Nat.le_refl _⟩, ⟨by repeat (first | (with_reducible first | exact HB.out | apply below_alloc | apply pw_below_drewN | apply below_drew1) | exact HB.out)⟩⟩
      · rw [if_neg c7] at H
        have c7b0 : (a2 == 16) = false := beq_eq_false_iff_ne.mpr c7
        have c7b1 : (a2 != 16) = true := bne_iff_ne.mpr c7
        replace H := Option.bind_eq_some_iff.mp H
        obtain ⟨t150, A80, H⟩ := H
        replace H : (spec_wbNumbers.j0 k a0 a1 a2 a3 16 t150) = some r := H
        have A8 := Aside0.mk A80
        clear A80
        have H' := Aside0.mk H
        clear H
        go_wp2_with (first | (go_at_call 57; (with_reducible refine (spec_wbLetter.calls k a2 t150 _ A8.out).mono ?_); rintro e w9 ⟨rfl, hb⟩; have n0_ := Aside0.mk (below_step (by repeat (first | (with_reducible first | exact HB.out | apply below_alloc | apply pw_below_drewN | apply below_drew1) | exact HB.out)) hb); clear HB; have HB := n0_; clear n0_; (try clear hb); (try clear hb2); (try clear hk); (try clear hi)))
        go_meet
        case rel => exact ⟨_, (t150), (by first | rfl | (simp; done) | (simp [*]; done)), H', ⟨by first | omega | exact Nat.le_refl _⟩, ⟨by repeat (first | (with_reducible first | exact HB.out | apply below_alloc | apply pw_below_drewN | apply below_drew1) | exact HB.out)⟩⟩
    · rw [if_neg c6] at H
      have c6b0 : (a1 == 16) = false := beq_eq_false_iff_ne.mpr c6
      have c6b1 : (a1 != 16) = true := bne_iff_ne.mpr c6
      (first | rw [c6b0] | (simp only [i64_w, i32_w]; rw [c6b0]) | skip)
      have H' := Aside0.mk H
      clear H
      go_wp2
      go_meet
      case rel => exact ⟨_, (false), (by first | rfl | (simp; done) | (simp [*]; done)), H', ⟨by first | omega | exact Nat.le_refl _⟩, ⟨by repeat (first | (with_reducible first | exact HB.out | apply below_alloc | apply pw_below_drewN | apply below_drew1) | exact HB.out)⟩⟩
  case rest =>
    clear HC5
    try clear p2
    try clear c3
    try clear c6
    try clear c6b0
    try clear c6b1
    try clear c7
    try clear c7b0
    try clear c7b1
    obtain ⟨kq, x10_4, rfl, HA, HJ4, HB⟩ := hcut
    cases kq with
    | zero => exact absurd HA.out (by simp [spec_wbNumbers.j0])
    | succ kj4 =>
      have H := HA.out
      clear HA
      simp only [spec_wbNumbers.j0] at H
      have HC10 := Aside0.mk H
      clear H
      go_upto_if 10 with (fail)
      go_cut [10] (fun v10 wc => ∃ (kq : Nat) (x10_9 : Bool), v10 = .bool x10_9 ∧ Aside0 (spec_wbNumbers.j1 kq a0 a1 a2 a3 16 x10_9 = some r) ∧ Aside0 (kq ≤ kj4) ∧ Aside0 (Below w.heap.size w wc))
      case first =>
        have H := HC10.out
        clear HC10
        by_cases c11 : x10_4 = true
        · subst c11
          have H1 : (spec_wbNumbers.j1 kj4 a0 a1 a2 a3 16 true) = some r := by rw [if_pos rfl] at H; exact H
          clear H
          have H := H1
          clear H1
          have H' := Aside0.mk H
          clear H
          go_wp2
          go_meet
          case rel => exact ⟨_, (true), (by first | rfl | (simp; done) | (simp [*]; done)), H', ⟨by have := HJ4.out; first | omega | exact Nat.le_refl _⟩, ⟨by repeat (first | (with_reducible first | exact HB.out | apply below_alloc | apply pw_below_drewN | apply below_drew1) | exact HB.out)⟩⟩
        · replace c11 := Bool.eq_false_iff.mpr c11
          subst c11
          have H1 : ((spec_wbLetter.f kj4 a1).bind fun t151 => (if t151 = true then (spec_wbNumbers.j1 kj4 a0 a1 a2 a3 16 (a2 == 16)) else (spec_wbNumbers.j1 kj4 a0 a1 a2 a3 16 false))) = some r := by rw [if_neg (show ¬ (false = true) by decide)] at H; exact H
          clear H
          have H := H1
          clear H1
          replace H := Option.bind_eq_some_iff.mp H
          obtain ⟨t151, A120, H⟩ := H
          replace H : (if t151 = true then (spec_wbNumbers.j1 kj4 a0 a1 a2 a3 16 (a2 == 16)) else (spec_wbNumbers.j1 kj4 a0 a1 a2 a3 16 false)) = some r := H
          have A12 := Aside0.mk A120
          clear A120
          by_cases c13 : t151 = true
          · subst c13
            have H1 : (spec_wbNumbers.j1 kj4 a0 a1 a2 a3 16 (a2 == 16)) = some r := by rw [if_pos rfl] at H; exact H
            clear H
            have H := H1
            clear H1
            have H' := Aside0.mk H
            clear H
            go_wp2_with (first | ((with_reducible refine gate_callee (f := 57) rfl ?_); refine goesL_ (some 24) rfl rfl Try.func57 (by kernel_rfl) rfl #[.int .i64 a1] rfl (by (try simp only [List.map_toArray, List.map_cons, List.map_nil]); first | done | rfl | (simp only [List.length_drop, List.length_take]; rfl)) ?_; (with_reducible refine (spec_wbLetter.calls kj4 a1 true _ A12.out).mono ?_); rintro e w14 ⟨rfl, hb⟩; refine ⟨_, rfl, ?_⟩; have n0_ := Aside0.mk (below_step (by repeat (first | (with_reducible first | exact HB.out | apply below_alloc | apply pw_below_drewN | apply below_drew1) | exact HB.out)) hb); clear HB; have HB := n0_; clear n0_; (try clear hb); (try clear hb2); (try clear hk); (try clear hi)))
            go_meet
            case rel => exact ⟨_, ((a2 == 16)), (by first | rfl | (simp; done) | (simp [*]; done)), H', ⟨by have := HJ4.out; first | omega | exact Nat.le_refl _⟩, ⟨by repeat (first | (with_reducible first | exact HB.out | apply below_alloc | apply pw_below_drewN | apply below_drew1) | exact HB.out)⟩⟩
          · replace c13 := Bool.eq_false_iff.mpr c13
            subst c13
            have H1 : (spec_wbNumbers.j1 kj4 a0 a1 a2 a3 16 false) = some r := by rw [if_neg (show ¬ (false = true) by decide)] at H; exact H
            clear H
            have H := H1
            clear H1
            have H' := Aside0.mk H
            clear H
            go_wp2_with (first | ((with_reducible refine gate_callee (f := 57) rfl ?_); refine goesL_ (some 24) rfl rfl Try.func57 (by kernel_rfl) rfl #[.int .i64 a1] rfl (by (try simp only [List.map_toArray, List.map_cons, List.map_nil]); first | done | rfl | (simp only [List.length_drop, List.length_take]; rfl)) ?_; (with_reducible refine (spec_wbLetter.calls kj4 a1 false _ A12.out).mono ?_); rintro e w15 ⟨rfl, hb⟩; refine ⟨_, rfl, ?_⟩; have n0_ := Aside0.mk (below_step (by repeat (first | (with_reducible first | exact HB.out | apply below_alloc | apply pw_below_drewN | apply below_drew1) | exact HB.out)) hb); clear HB; have HB := n0_; clear n0_; (try clear hb); (try clear hb2); (try clear hk); (try clear hi)))
            go_meet
            case rel => exact ⟨_, (false), (by first | rfl | (simp; done) | (simp [*]; done)), H', ⟨by have := HJ4.out; first | omega | exact Nat.le_refl _⟩, ⟨by repeat (first | (with_reducible first | exact HB.out | apply below_alloc | apply pw_below_drewN | apply below_drew1) | exact HB.out)⟩⟩
      case rest =>
        clear HC10
        try clear c1
        try clear p2
        try clear c3
        try clear c5
        try clear c6
        try clear c6b0
        try clear c6b1
        try clear c7
        try clear c7b0
        try clear c7b1
        try clear c11
        try clear c13
        try clear p2
        obtain ⟨kq, x10_9, rfl, HA, HJ9, HB⟩ := hcut
        cases kq with
        | zero => exact absurd HA.out (by simp [spec_wbNumbers.j1])
        | succ kj9 =>
          have H := HA.out
          clear HA
          simp only [spec_wbNumbers.j1] at H
          by_cases c16 : x10_9 = true
          · subst c16
            have H1 : (some true) = some r := by rw [if_pos rfl] at H; exact H
            clear H
            have H := H1
            clear H1
            obtain rfl := Option.some.inj H
            go_wp2
            go_ret
            exact ⟨by first | rfl | (simp [errW_none, errW_some] <;> rfl) | (simp [*, errW_none, errW_some] <;> rfl), by repeat (first | (with_reducible first | exact HB.out | apply below_alloc | apply pw_below_drewN | apply below_drew1) | exact HB.out)⟩
          · replace c16 := Bool.eq_false_iff.mpr c16
            subst c16
            have H1 : (if a0 = 16 then (if a1 = 15 then (if a2 = 16 then (some true) else (if a1 = 16 then (if a2 = 15 then (some (a3 == 16)) else ((spec_wbQuote.f kj9 a2).bind fun t152 => (if t152 = true then (some (a3 == 16)) else (some false)))) else (some false))) else ((spec_wbQuote.f kj9 a1).bind fun t153 => (if t153 = true then (if a2 = 16 then (some true) else (if a1 = 16 then (if a2 = 15 then (some (a3 == 16)) else ((spec_wbQuote.f kj9 a2).bind fun t154 => (if t154 = true then (some (a3 == 16)) else (some false)))) else (some false))) else (if a1 = 16 then (if a2 = 15 then (some (a3 == 16)) else ((spec_wbQuote.f kj9 a2).bind fun t155 => (if t155 = true then (some (a3 == 16)) else (some false)))) else (some false))))) else (if a1 = 16 then (if a2 = 15 then (some (a3 == 16)) else ((spec_wbQuote.f kj9 a2).bind fun t156 => (if t156 = true then (some (a3 == 16)) else (some false)))) else (some false))) = some r := by rw [if_neg (show ¬ (false = true) by decide)] at H; exact H
            clear H
            have H := H1
            clear H1
            by_cases c17 : a0 = 16
            · rw [if_pos c17] at H
              have c17b0 : (a0 == 16) = true := beq_iff_eq.mpr c17
              have c17b1 : (a0 != 16) = false := bne_eq_false_iff_eq.mpr c17
              clear c17
              by_cases c18 : a1 = 15
              · rw [if_pos c18] at H
                have c18b0 : (a1 == 15) = true := beq_iff_eq.mpr c18
                have c18b1 : (a1 != 15) = false := bne_eq_false_iff_eq.mpr c18
                clear c18
                by_cases c19 : a2 = 16
                · rw [if_pos c19] at H
                  have c19b0 : (a2 == 16) = true := beq_iff_eq.mpr c19
                  have c19b1 : (a2 != 16) = false := bne_eq_false_iff_eq.mpr c19
                  clear c19
                  obtain rfl := Option.some.inj H
                  go_wp2
                  go_ret
                  exact ⟨by first | rfl | (simp [errW_none, errW_some] <;> rfl) | (simp [*, errW_none, errW_some] <;> rfl), by repeat (first | (with_reducible first | exact HB.out | apply below_alloc | apply pw_below_drewN | apply below_drew1) | exact HB.out)⟩
                · rw [if_neg c19] at H
                  have c19b0 : (a2 == 16) = false := beq_eq_false_iff_ne.mpr c19
                  have c19b1 : (a2 != 16) = true := bne_iff_ne.mpr c19
                  by_cases c20 : a1 = 16
                  · rw [if_pos c20] at H
                    have c20b0 : (a1 == 16) = true := beq_iff_eq.mpr c20
                    have c20b1 : (a1 != 16) = false := bne_eq_false_iff_eq.mpr c20
                    clear c20
                    by_cases c21 : a2 = 15
                    · rw [if_pos c21] at H
                      have c21b0 : (a2 == 15) = true := beq_iff_eq.mpr c21
                      have c21b1 : (a2 != 15) = false := bne_eq_false_iff_eq.mpr c21
                      clear c21
                      obtain rfl := Option.some.inj H
                      go_wp2
                      go_ret
                      exact ⟨by first | rfl | (simp [errW_none, errW_some] <;> rfl) | (simp [*, errW_none, errW_some] <;> rfl), by repeat (first | (with_reducible first | exact HB.out | apply below_alloc | apply pw_below_drewN | apply below_drew1) | exact HB.out)⟩
                    · rw [if_neg c21] at H
                      have c21b0 : (a2 == 15) = false := beq_eq_false_iff_ne.mpr c21
                      have c21b1 : (a2 != 15) = true := bne_iff_ne.mpr c21
                      replace H := Option.bind_eq_some_iff.mp H
                      obtain ⟨t152, A220, H⟩ := H
                      replace H : (if t152 = true then (some (a3 == 16)) else (some false)) = some r := H
                      have A22 := Aside0.mk A220
                      clear A220
                      by_cases c23 : t152 = true
                      · subst c23
                        have H1 : (some (a3 == 16)) = some r := by rw [if_pos rfl] at H; exact H
                        clear H
                        have H := H1
                        clear H1
                        obtain rfl := Option.some.inj H
                        go_wp2_with (first | (go_at_call 58; (with_reducible refine (spec_wbQuote.calls kj9 a2 true _ A22.out).mono ?_); rintro e w24 ⟨rfl, hb⟩; have n0_ := Aside0.mk (below_step (by repeat (first | (with_reducible first | exact HB.out | apply below_alloc | apply pw_below_drewN | apply below_drew1) | exact HB.out)) hb); clear HB; have HB := n0_; clear n0_; (try clear hb); (try clear hb2); (try clear hk); (try clear hi)))
                        go_ret
                        exact ⟨by first | rfl | (simp [errW_none, errW_some] <;> rfl) | (simp [*, errW_none, errW_some] <;> rfl), by repeat (first | (with_reducible first | exact HB.out | apply below_alloc | apply pw_below_drewN | apply below_drew1) | exact HB.out)⟩
                      · replace c23 := Bool.eq_false_iff.mpr c23
                        subst c23
                        have H1 : (some false) = some r := by rw [if_neg (show ¬ (false = true) by decide)] at H; exact H
                        clear H
                        have H := H1
                        clear H1
                        obtain rfl := Option.some.inj H
                        go_wp2_with (first | (go_at_call 58; (with_reducible refine (spec_wbQuote.calls kj9 a2 false _ A22.out).mono ?_); rintro e w25 ⟨rfl, hb⟩; have n0_ := Aside0.mk (below_step (by repeat (first | (with_reducible first | exact HB.out | apply below_alloc | apply pw_below_drewN | apply below_drew1) | exact HB.out)) hb); clear HB; have HB := n0_; clear n0_; (try clear hb); (try clear hb2); (try clear hk); (try clear hi)))
                        go_ret
                        exact ⟨by first | rfl | (simp [errW_none, errW_some] <;> rfl) | (simp [*, errW_none, errW_some] <;> rfl), by repeat (first | (with_reducible first | exact HB.out | apply below_alloc | apply pw_below_drewN | apply below_drew1) | exact HB.out)⟩
                  · rw [if_neg c20] at H
                    have c20b0 : (a1 == 16) = false := beq_eq_false_iff_ne.mpr c20
                    have c20b1 : (a1 != 16) = true := bne_iff_ne.mpr c20
                    obtain rfl := Option.some.inj H
                    go_wp2
                    go_ret
                    exact ⟨by first | rfl | (simp [errW_none, errW_some] <;> rfl) | (simp [*, errW_none, errW_some] <;> rfl), by repeat (first | (with_reducible first | exact HB.out | apply below_alloc | apply pw_below_drewN | apply below_drew1) | exact HB.out)⟩
              · rw [if_neg c18] at H
                have c18b0 : (a1 == 15) = false := beq_eq_false_iff_ne.mpr c18
                have c18b1 : (a1 != 15) = true := bne_iff_ne.mpr c18
                replace H := Option.bind_eq_some_iff.mp H
                obtain ⟨t153, A260, H⟩ := H
                replace H : (if t153 = true then (if a2 = 16 then (some true) else (if a1 = 16 then (if a2 = 15 then (some (a3 == 16)) else ((spec_wbQuote.f kj9 a2).bind fun t154 => (if t154 = true then (some (a3 == 16)) else (some false)))) else (some false))) else (if a1 = 16 then (if a2 = 15 then (some (a3 == 16)) else ((spec_wbQuote.f kj9 a2).bind fun t155 => (if t155 = true then (some (a3 == 16)) else (some false)))) else (some false))) = some r := H
                have A26 := Aside0.mk A260
                clear A260
                by_cases c27 : t153 = true
                · subst c27
                  have H1 : (if a2 = 16 then (some true) else (if a1 = 16 then (if a2 = 15 then (some (a3 == 16)) else ((spec_wbQuote.f kj9 a2).bind fun t154 => (if t154 = true then (some (a3 == 16)) else (some false)))) else (some false))) = some r := by rw [if_pos rfl] at H; exact H
                  clear H
                  have H := H1
                  clear H1
                  by_cases c28 : a2 = 16
                  · rw [if_pos c28] at H
                    have c28b0 : (a2 == 16) = true := beq_iff_eq.mpr c28
                    have c28b1 : (a2 != 16) = false := bne_eq_false_iff_eq.mpr c28
                    clear c28
                    obtain rfl := Option.some.inj H
                    go_wp2_with (first | (go_at_call 58; (with_reducible refine (spec_wbQuote.calls kj9 a1 true _ A26.out).mono ?_); rintro e w29 ⟨rfl, hb⟩; have n0_ := Aside0.mk (below_step (by repeat (first | (with_reducible first | exact HB.out | apply below_alloc | apply pw_below_drewN | apply below_drew1) | exact HB.out)) hb); clear HB; have HB := n0_; clear n0_; (try clear hb); (try clear hb2); (try clear hk); (try clear hi)))
                    go_ret
                    exact ⟨by first | rfl | (simp [errW_none, errW_some] <;> rfl) | (simp [*, errW_none, errW_some] <;> rfl), by repeat (first | (with_reducible first | exact HB.out | apply below_alloc | apply pw_below_drewN | apply below_drew1) | exact HB.out)⟩
                  · rw [if_neg c28] at H
                    have c28b0 : (a2 == 16) = false := beq_eq_false_iff_ne.mpr c28
                    have c28b1 : (a2 != 16) = true := bne_iff_ne.mpr c28
                    by_cases c30 : a1 = 16
                    · rw [if_pos c30] at H
                      have c30b0 : (a1 == 16) = true := beq_iff_eq.mpr c30
                      have c30b1 : (a1 != 16) = false := bne_eq_false_iff_eq.mpr c30
                      clear c30
                      by_cases c31 : a2 = 15
                      · rw [if_pos c31] at H
                        have c31b0 : (a2 == 15) = true := beq_iff_eq.mpr c31
                        have c31b1 : (a2 != 15) = false := bne_eq_false_iff_eq.mpr c31
                        clear c31
                        obtain rfl := Option.some.inj H
                        go_wp2_with (first | (go_at_call 58; (with_reducible refine (spec_wbQuote.calls kj9 a1 true _ A26.out).mono ?_); rintro e w32 ⟨rfl, hb⟩; have n0_ := Aside0.mk (below_step (by repeat (first | (with_reducible first | exact HB.out | apply below_alloc | apply pw_below_drewN | apply below_drew1) | exact HB.out)) hb); clear HB; have HB := n0_; clear n0_; (try clear hb); (try clear hb2); (try clear hk); (try clear hi)))
                        go_ret
                        exact ⟨by first | rfl | (simp [errW_none, errW_some] <;> rfl) | (simp [*, errW_none, errW_some] <;> rfl), by repeat (first | (with_reducible first | exact HB.out | apply below_alloc | apply pw_below_drewN | apply below_drew1) | exact HB.out)⟩
                      · rw [if_neg c31] at H
                        have c31b0 : (a2 == 15) = false := beq_eq_false_iff_ne.mpr c31
                        have c31b1 : (a2 != 15) = true := bne_iff_ne.mpr c31
                        replace H := Option.bind_eq_some_iff.mp H
                        obtain ⟨t154, A330, H⟩ := H
                        replace H : (if t154 = true then (some (a3 == 16)) else (some false)) = some r := H
                        have A33 := Aside0.mk A330
                        clear A330
                        by_cases c34 : t154 = true
                        · subst c34
                          have H1 : (some (a3 == 16)) = some r := by rw [if_pos rfl] at H; exact H
                          clear H
                          have H := H1
                          clear H1
                          obtain rfl := Option.some.inj H
                          go_wp2_with (first | (go_at_call 58; (with_reducible refine (spec_wbQuote.calls kj9 a1 true _ A26.out).mono ?_); rintro e w35 ⟨rfl, hb⟩; have n0_ := Aside0.mk (below_step (by repeat (first | (with_reducible first | exact HB.out | apply below_alloc | apply pw_below_drewN | apply below_drew1) | exact HB.out)) hb); clear HB; have HB := n0_; clear n0_; (try clear hb); (try clear hb2); (try clear hk); (try clear hi)) | (go_at_call 58; (with_reducible refine (spec_wbQuote.calls kj9 a2 true _ A33.out).mono ?_); rintro e w36 ⟨rfl, hb⟩; have n0_ := Aside0.mk (below_step (by repeat (first | (with_reducible first | exact HB.out | apply below_alloc | apply pw_below_drewN | apply below_drew1) | exact HB.out)) hb); clear HB; have HB := n0_; clear n0_; (try clear hb); (try clear hb2); (try clear hk); (try clear hi)))
                          go_ret
                          exact ⟨by first | rfl | (simp [errW_none, errW_some] <;> rfl) | (simp [*, errW_none, errW_some] <;> rfl), by repeat (first | (with_reducible first | exact HB.out | apply below_alloc | apply pw_below_drewN | apply below_drew1) | exact HB.out)⟩
                        · replace c34 := Bool.eq_false_iff.mpr c34
                          subst c34
                          have H1 : (some false) = some r := by rw [if_neg (show ¬ (false = true) by decide)] at H; exact H
                          clear H
                          have H := H1
                          clear H1
                          obtain rfl := Option.some.inj H
                          go_wp2_with (first | (go_at_call 58; (with_reducible refine (spec_wbQuote.calls kj9 a1 true _ A26.out).mono ?_); rintro e w37 ⟨rfl, hb⟩; have n0_ := Aside0.mk (below_step (by repeat (first | (with_reducible first | exact HB.out | apply below_alloc | apply pw_below_drewN | apply below_drew1) | exact HB.out)) hb); clear HB; have HB := n0_; clear n0_; (try clear hb); (try clear hb2); (try clear hk); (try clear hi)) | (go_at_call 58; (with_reducible refine (spec_wbQuote.calls kj9 a2 false _ A33.out).mono ?_); rintro e w38 ⟨rfl, hb⟩; have n0_ := Aside0.mk (below_step (by repeat (first | (with_reducible first | exact HB.out | apply below_alloc | apply pw_below_drewN | apply below_drew1) | exact HB.out)) hb); clear HB; have HB := n0_; clear n0_; (try clear hb); (try clear hb2); (try clear hk); (try clear hi)))
                          go_ret
                          exact ⟨by first | rfl | (simp [errW_none, errW_some] <;> rfl) | (simp [*, errW_none, errW_some] <;> rfl), by repeat (first | (with_reducible first | exact HB.out | apply below_alloc | apply pw_below_drewN | apply below_drew1) | exact HB.out)⟩
                    · rw [if_neg c30] at H
                      have c30b0 : (a1 == 16) = false := beq_eq_false_iff_ne.mpr c30
                      have c30b1 : (a1 != 16) = true := bne_iff_ne.mpr c30
                      obtain rfl := Option.some.inj H
                      go_wp2_with (first | (go_at_call 58; (with_reducible refine (spec_wbQuote.calls kj9 a1 true _ A26.out).mono ?_); rintro e w39 ⟨rfl, hb⟩; have n0_ := Aside0.mk (below_step (by repeat (first | (with_reducible first | exact HB.out | apply below_alloc | apply pw_below_drewN | apply below_drew1) | exact HB.out)) hb); clear HB; have HB := n0_; clear n0_; (try clear hb); (try clear hb2); (try clear hk); (try clear hi)))
                      go_ret
                      exact ⟨by first | rfl | (simp [errW_none, errW_some] <;> rfl) | (simp [*, errW_none, errW_some] <;> rfl), by repeat (first | (with_reducible first | exact HB.out | apply below_alloc | apply pw_below_drewN | apply below_drew1) | exact HB.out)⟩
                · replace c27 := Bool.eq_false_iff.mpr c27
                  subst c27
                  have H1 : (if a1 = 16 then (if a2 = 15 then (some (a3 == 16)) else ((spec_wbQuote.f kj9 a2).bind fun t155 => (if t155 = true then (some (a3 == 16)) else (some false)))) else (some false)) = some r := by rw [if_neg (show ¬ (false = true) by decide)] at H; exact H
                  clear H
                  have H := H1
                  clear H1
                  by_cases c40 : a1 = 16
                  · rw [if_pos c40] at H
                    have c40b0 : (a1 == 16) = true := beq_iff_eq.mpr c40
                    have c40b1 : (a1 != 16) = false := bne_eq_false_iff_eq.mpr c40
                    clear c40
                    by_cases c41 : a2 = 15
                    · rw [if_pos c41] at H
                      have c41b0 : (a2 == 15) = true := beq_iff_eq.mpr c41
                      have c41b1 : (a2 != 15) = false := bne_eq_false_iff_eq.mpr c41
                      clear c41
                      obtain rfl := Option.some.inj H
                      go_wp2_with (first | (go_at_call 58; (with_reducible refine (spec_wbQuote.calls kj9 a1 false _ A26.out).mono ?_); rintro e w42 ⟨rfl, hb⟩; have n0_ := Aside0.mk (below_step (by repeat (first | (with_reducible first | exact HB.out | apply below_alloc | apply pw_below_drewN | apply below_drew1) | exact HB.out)) hb); clear HB; have HB := n0_; clear n0_; (try clear hb); (try clear hb2); (try clear hk); (try clear hi)))
                      go_ret
                      exact ⟨by first | rfl | (simp [errW_none, errW_some] <;> rfl) | (simp [*, errW_none, errW_some] <;> rfl), by repeat (first | (with_reducible first | exact HB.out | apply below_alloc | apply pw_below_drewN | apply below_drew1) | exact HB.out)⟩
                    · rw [if_neg c41] at H
                      have c41b0 : (a2 == 15) = false := beq_eq_false_iff_ne.mpr c41
                      have c41b1 : (a2 != 15) = true := bne_iff_ne.mpr c41
                      replace H := Option.bind_eq_some_iff.mp H
                      obtain ⟨t155, A430, H⟩ := H
                      replace H : (if t155 = true then (some (a3 == 16)) else (some false)) = some r := H
                      have A43 := Aside0.mk A430
                      clear A430
                      by_cases c44 : t155 = true
                      · subst c44
                        have H1 : (some (a3 == 16)) = some r := by rw [if_pos rfl] at H; exact H
                        clear H
                        have H := H1
                        clear H1
                        obtain rfl := Option.some.inj H
                        go_wp2_with (first | (go_at_call 58; (with_reducible refine (spec_wbQuote.calls kj9 a1 false _ A26.out).mono ?_); rintro e w45 ⟨rfl, hb⟩; have n0_ := Aside0.mk (below_step (by repeat (first | (with_reducible first | exact HB.out | apply below_alloc | apply pw_below_drewN | apply below_drew1) | exact HB.out)) hb); clear HB; have HB := n0_; clear n0_; (try clear hb); (try clear hb2); (try clear hk); (try clear hi)) | (go_at_call 58; (with_reducible refine (spec_wbQuote.calls kj9 a2 true _ A43.out).mono ?_); rintro e w46 ⟨rfl, hb⟩; have n0_ := Aside0.mk (below_step (by repeat (first | (with_reducible first | exact HB.out | apply below_alloc | apply pw_below_drewN | apply below_drew1) | exact HB.out)) hb); clear HB; have HB := n0_; clear n0_; (try clear hb); (try clear hb2); (try clear hk); (try clear hi)))
                        go_ret
                        exact ⟨by first | rfl | (simp [errW_none, errW_some] <;> rfl) | (simp [*, errW_none, errW_some] <;> rfl), by repeat (first | (with_reducible first | exact HB.out | apply below_alloc | apply pw_below_drewN | apply below_drew1) | exact HB.out)⟩
                      · replace c44 := Bool.eq_false_iff.mpr c44
                        subst c44
                        have H1 : (some false) = some r := by rw [if_neg (show ¬ (false = true) by decide)] at H; exact H
                        clear H
                        have H := H1
                        clear H1
                        obtain rfl := Option.some.inj H
                        go_wp2_with (first | (go_at_call 58; (with_reducible refine (spec_wbQuote.calls kj9 a1 false _ A26.out).mono ?_); rintro e w47 ⟨rfl, hb⟩; have n0_ := Aside0.mk (below_step (by repeat (first | (with_reducible first | exact HB.out | apply below_alloc | apply pw_below_drewN | apply below_drew1) | exact HB.out)) hb); clear HB; have HB := n0_; clear n0_; (try clear hb); (try clear hb2); (try clear hk); (try clear hi)) | (go_at_call 58; (with_reducible refine (spec_wbQuote.calls kj9 a2 false _ A43.out).mono ?_); rintro e w48 ⟨rfl, hb⟩; have n0_ := Aside0.mk (below_step (by repeat (first | (with_reducible first | exact HB.out | apply below_alloc | apply pw_below_drewN | apply below_drew1) | exact HB.out)) hb); clear HB; have HB := n0_; clear n0_; (try clear hb); (try clear hb2); (try clear hk); (try clear hi)))
                        go_ret
                        exact ⟨by first | rfl | (simp [errW_none, errW_some] <;> rfl) | (simp [*, errW_none, errW_some] <;> rfl), by repeat (first | (with_reducible first | exact HB.out | apply below_alloc | apply pw_below_drewN | apply below_drew1) | exact HB.out)⟩
                  · rw [if_neg c40] at H
                    have c40b0 : (a1 == 16) = false := beq_eq_false_iff_ne.mpr c40
                    have c40b1 : (a1 != 16) = true := bne_iff_ne.mpr c40
                    obtain rfl := Option.some.inj H
                    go_wp2_with (first | (go_at_call 58; (with_reducible refine (spec_wbQuote.calls kj9 a1 false _ A26.out).mono ?_); rintro e w49 ⟨rfl, hb⟩; have n0_ := Aside0.mk (below_step (by repeat (first | (with_reducible first | exact HB.out | apply below_alloc | apply pw_below_drewN | apply below_drew1) | exact HB.out)) hb); clear HB; have HB := n0_; clear n0_; (try clear hb); (try clear hb2); (try clear hk); (try clear hi)))
                    go_ret
                    exact ⟨by first | rfl | (simp [errW_none, errW_some] <;> rfl) | (simp [*, errW_none, errW_some] <;> rfl), by repeat (first | (with_reducible first | exact HB.out | apply below_alloc | apply pw_below_drewN | apply below_drew1) | exact HB.out)⟩
            · rw [if_neg c17] at H
              have c17b0 : (a0 == 16) = false := beq_eq_false_iff_ne.mpr c17
              have c17b1 : (a0 != 16) = true := bne_iff_ne.mpr c17
              by_cases c50 : a1 = 16
              · rw [if_pos c50] at H
                have c50b0 : (a1 == 16) = true := beq_iff_eq.mpr c50
                have c50b1 : (a1 != 16) = false := bne_eq_false_iff_eq.mpr c50
                clear c50
                by_cases c51 : a2 = 15
                · rw [if_pos c51] at H
                  have c51b0 : (a2 == 15) = true := beq_iff_eq.mpr c51
                  have c51b1 : (a2 != 15) = false := bne_eq_false_iff_eq.mpr c51
                  clear c51
                  obtain rfl := Option.some.inj H
                  go_wp2
                  go_ret
                  exact ⟨by first | rfl | (simp [errW_none, errW_some] <;> rfl) | (simp [*, errW_none, errW_some] <;> rfl), by repeat (first | (with_reducible first | exact HB.out | apply below_alloc | apply pw_below_drewN | apply below_drew1) | exact HB.out)⟩
                · rw [if_neg c51] at H
                  have c51b0 : (a2 == 15) = false := beq_eq_false_iff_ne.mpr c51
                  have c51b1 : (a2 != 15) = true := bne_iff_ne.mpr c51
                  replace H := Option.bind_eq_some_iff.mp H
                  obtain ⟨t156, A520, H⟩ := H
                  replace H : (if t156 = true then (some (a3 == 16)) else (some false)) = some r := H
                  have A52 := Aside0.mk A520
                  clear A520
                  by_cases c53 : t156 = true
                  · subst c53
                    have H1 : (some (a3 == 16)) = some r := by rw [if_pos rfl] at H; exact H
                    clear H
                    have H := H1
                    clear H1
                    obtain rfl := Option.some.inj H
                    go_wp2_with (first | (go_at_call 58; (with_reducible refine (spec_wbQuote.calls kj9 a2 true _ A52.out).mono ?_); rintro e w54 ⟨rfl, hb⟩; have n0_ := Aside0.mk (below_step (by repeat (first | (with_reducible first | exact HB.out | apply below_alloc | apply pw_below_drewN | apply below_drew1) | exact HB.out)) hb); clear HB; have HB := n0_; clear n0_; (try clear hb); (try clear hb2); (try clear hk); (try clear hi)))
                    go_ret
                    exact ⟨by first | rfl | (simp [errW_none, errW_some] <;> rfl) | (simp [*, errW_none, errW_some] <;> rfl), by repeat (first | (with_reducible first | exact HB.out | apply below_alloc | apply pw_below_drewN | apply below_drew1) | exact HB.out)⟩
                  · replace c53 := Bool.eq_false_iff.mpr c53
                    subst c53
                    have H1 : (some false) = some r := by rw [if_neg (show ¬ (false = true) by decide)] at H; exact H
                    clear H
                    have H := H1
                    clear H1
                    obtain rfl := Option.some.inj H
                    go_wp2_with (first | (go_at_call 58; (with_reducible refine (spec_wbQuote.calls kj9 a2 false _ A52.out).mono ?_); rintro e w55 ⟨rfl, hb⟩; have n0_ := Aside0.mk (below_step (by repeat (first | (with_reducible first | exact HB.out | apply below_alloc | apply pw_below_drewN | apply below_drew1) | exact HB.out)) hb); clear HB; have HB := n0_; clear n0_; (try clear hb); (try clear hb2); (try clear hk); (try clear hi)))
                    go_ret
                    exact ⟨by first | rfl | (simp [errW_none, errW_some] <;> rfl) | (simp [*, errW_none, errW_some] <;> rfl), by repeat (first | (with_reducible first | exact HB.out | apply below_alloc | apply pw_below_drewN | apply below_drew1) | exact HB.out)⟩
              · rw [if_neg c50] at H
                have c50b0 : (a1 == 16) = false := beq_eq_false_iff_ne.mpr c50
                have c50b1 : (a1 != 16) = true := bne_iff_ne.mpr c50
                obtain rfl := Option.some.inj H
                go_wp2
                go_ret
                exact ⟨by first | rfl | (simp [errW_none, errW_some] <;> rfl) | (simp [*, errW_none, errW_some] <;> rfl), by repeat (first | (with_reducible first | exact HB.out | apply below_alloc | apply pw_below_drewN | apply below_drew1) | exact HB.out)⟩

/-! ### spec_wbWide: function 36 -/
def spec_wbWide.j0 : Nat → Int → Int → Bool → Option (Bool)
  | 0, _, _, _ => none
  | k + 1, x0, x1, x6 => if x6 = true then (some true) else (if x1 = 17 then ((spec_wbWide_1.f k x0).bind fun t157 => (if t157 = true then (some true) else (if x0 = 17 then (some true) else (some false)))) else (if x0 = 17 then ((spec_wbWide_1.f k x1).bind fun t158 => (some t158)) else (some false)))
def spec_wbWide.f (k : Nat) (a0 : Int) (a1 : Int) : Option (Bool) := if a0 = 8 then (spec_wbWide.j0 k a0 a1 (a1 == 8)) else (spec_wbWide.j0 k a0 a1 false)
theorem spec_wbWide.mono_l : ∀ k, (∀ y0 y1 y2, LeO (spec_wbWide.j0 k y0 y1 y2) (spec_wbWide.j0 (k + 1) y0 y1 y2))
  | 0 => fun _ _ _ r h => by simp [spec_wbWide.j0] at h
  | k + 1 => by
    have ih0 := spec_wbWide.mono_l k
    · intro y0 y1 y2
      unfold spec_wbWide.j0
      repeat' first
      | (with_reducible exact ih0 _ _ _)
      | (with_reducible exact spec_wbWide_1.mono _ _)
      | (with_reducible exact LeO.refl _)
      | (with_reducible exact LeO.none _)
      | (with_reducible refine LeO.ite ?_ ?_)
      | (with_reducible refine LeO.bind ?_ (fun _ => ?_))
      | exact ih0 _ _ _
      | exact spec_wbWide_1.mono _ _
      | exact LeO.none _
      | refine LeO.ite ?_ ?_
      | refine LeO.bind ?_ (fun _ => ?_)
theorem spec_wbWide.mono : ∀ a0 a1 k, LeO (spec_wbWide.f k a0 a1) (spec_wbWide.f (k + 1) a0 a1) := by
  intro a0 a1 k
  have ih0 := spec_wbWide.mono_l k
  unfold spec_wbWide.f
  repeat' first
      | (with_reducible exact ih0 _ _ _)
      | (with_reducible exact spec_wbWide_1.mono _ _)
      | (with_reducible exact LeO.refl _)
      | (with_reducible exact LeO.none _)
      | (with_reducible refine LeO.ite ?_ ?_)
      | (with_reducible refine LeO.bind ?_ (fun _ => ?_))
      | exact ih0 _ _ _
      | exact spec_wbWide_1.mono _ _
      | exact LeO.none _
      | refine LeO.ite ?_ ?_
      | refine LeO.bind ?_ (fun _ => ?_)
set_option maxHeartbeats 8000000 in
set_option maxRecDepth 100000 in
theorem spec_wbWide.calls (k : Nat) (a0 : Int) (a1 : Int) (r : Bool) (w : World) (h : spec_wbWide.f k a0 a1 = some r) :
    Calls Try.prog 36 #[.int .i64 a0, .int .i64 a1] w fun e w' => e = .returned (.bool r) ∧ Below w.heap.size w w' := by
  have HB := Aside0.mk (Below.refl w.heap.size w)
  have H : (if a0 = 8 then (spec_wbWide.j0 k a0 a1 (a1 == 8)) else (spec_wbWide.j0 k a0 a1 false)) = some r := h
  clear h
  have HC3 := Aside0.mk H
  clear H
  go_enter Try.func36, Try.ntmps36
  go_upto_region 2 with (fail)
  go_cut [6] (fun v6 wc => ∃ (kq : Nat) (x6_2 : Bool), v6 = .bool x6_2 ∧ Aside0 (spec_wbWide.j0 kq a0 a1 x6_2 = some r) ∧ Aside0 (kq ≤ k) ∧ Aside0 (Below w.heap.size w wc))
  case first =>
    have H := HC3.out
    clear HC3
    by_cases c4 : a0 = 8
    · rw [if_pos c4] at H
      have c4b0 : (a0 == 8) = true := beq_iff_eq.mpr c4
      have c4b1 : (a0 != 8) = false := bne_eq_false_iff_eq.mpr c4
      clear c4
      (first | rw [c4b0] | (simp only [i64_w, i32_w]; rw [c4b0]) | skip)
      have H' := Aside0.mk H
      clear H
      go_wp2
      go_meet
      case rel => exact ⟨_, ((a1 == 8)), (by first | rfl | (simp; done) | (simp [*]; done)), H', ⟨by first | omega | exact Nat.le_refl _⟩, ⟨by repeat (first | (with_reducible first | exact HB.out | apply below_alloc | apply pw_below_drewN | apply below_drew1) | exact HB.out)⟩⟩
    · rw [if_neg c4] at H
      have c4b0 : (a0 == 8) = false := beq_eq_false_iff_ne.mpr c4
      have c4b1 : (a0 != 8) = true := bne_iff_ne.mpr c4
      (first | rw [c4b0] | (simp only [i64_w, i32_w]; rw [c4b0]) | skip)
      have H' := Aside0.mk H
      clear H
      go_wp2
      go_meet
      case rel => exact ⟨_, (false), (by first | rfl | (simp; done) | (simp [*]; done)), H', ⟨by first | omega | exact Nat.le_refl _⟩, ⟨by repeat (first | (with_reducible first | exact HB.out | apply below_alloc | apply pw_below_drewN | apply below_drew1) | exact HB.out)⟩⟩
  case rest =>
    clear HC3
    try clear p2
    try clear c3
    try clear c4
    try clear c4b0
    try clear c4b1
    obtain ⟨kq, x6_2, rfl, HA, HJ2, HB⟩ := hcut
    cases kq with
    | zero => exact absurd HA.out (by simp [spec_wbWide.j0])
    | succ kj2 =>
      have H := HA.out
      clear HA
      simp only [spec_wbWide.j0] at H
      by_cases c5 : x6_2 = true
      · subst c5
        have H1 : (some true) = some r := by rw [if_pos rfl] at H; exact H
        clear H
        have H := H1
        clear H1
        obtain rfl := Option.some.inj H
        go_wp2
        go_ret
        exact ⟨by first | rfl | (simp [errW_none, errW_some] <;> rfl) | (simp [*, errW_none, errW_some] <;> rfl), by repeat (first | (with_reducible first | exact HB.out | apply below_alloc | apply pw_below_drewN | apply below_drew1) | exact HB.out)⟩
      · replace c5 := Bool.eq_false_iff.mpr c5
        subst c5
        have H1 : (if a1 = 17 then ((spec_wbWide_1.f kj2 a0).bind fun t157 => (if t157 = true then (some true) else (if a0 = 17 then (some true) else (some false)))) else (if a0 = 17 then ((spec_wbWide_1.f kj2 a1).bind fun t158 => (some t158)) else (some false))) = some r := by rw [if_neg (show ¬ (false = true) by decide)] at H; exact H
        clear H
        have H := H1
        clear H1
        by_cases c6 : a1 = 17
        · rw [if_pos c6] at H
          have c6b0 : (a1 == 17) = true := beq_iff_eq.mpr c6
          have c6b1 : (a1 != 17) = false := bne_eq_false_iff_eq.mpr c6
          clear c6
          replace H := Option.bind_eq_some_iff.mp H
          obtain ⟨t157, A70, H⟩ := H
          replace H : (if t157 = true then (some true) else (if a0 = 17 then (some true) else (some false))) = some r := H
          have A7 := Aside0.mk A70
          clear A70
          by_cases c8 : t157 = true
          · subst c8
            have H1 : (some true) = some r := by rw [if_pos rfl] at H; exact H
            clear H
            have H := H1
            clear H1
            obtain rfl := Option.some.inj H
            go_wp2_with (first | (go_at_call 59; (with_reducible refine (spec_wbWide_1.calls kj2 a0 true _ A7.out).mono ?_); rintro e w9 ⟨rfl, hb⟩; have n0_ := Aside0.mk (below_step (by repeat (first | (with_reducible first | exact HB.out | apply below_alloc | apply pw_below_drewN | apply below_drew1) | exact HB.out)) hb); clear HB; have HB := n0_; clear n0_; (try clear hb); (try clear hb2); (try clear hk); (try clear hi)))
            go_ret
            exact ⟨by first | rfl | (simp [errW_none, errW_some] <;> rfl) | (simp [*, errW_none, errW_some] <;> rfl), by repeat (first | (with_reducible first | exact HB.out | apply below_alloc | apply pw_below_drewN | apply below_drew1) | exact HB.out)⟩
          · replace c8 := Bool.eq_false_iff.mpr c8
            subst c8
            have H1 : (if a0 = 17 then (some true) else (some false)) = some r := by rw [if_neg (show ¬ (false = true) by decide)] at H; exact H
            clear H
            have H := H1
            clear H1
            by_cases c10 : a0 = 17
            · rw [if_pos c10] at H
              have c10b0 : (a0 == 17) = true := beq_iff_eq.mpr c10
              have c10b1 : (a0 != 17) = false := bne_eq_false_iff_eq.mpr c10
              clear c10
              obtain rfl := Option.some.inj H
              go_wp2_with (first | (go_at_call 59; (with_reducible refine (spec_wbWide_1.calls kj2 a0 false _ A7.out).mono ?_); rintro e w11 ⟨rfl, hb⟩; have n0_ := Aside0.mk (below_step (by repeat (first | (with_reducible first | exact HB.out | apply below_alloc | apply pw_below_drewN | apply below_drew1) | exact HB.out)) hb); clear HB; have HB := n0_; clear n0_; (try clear hb); (try clear hb2); (try clear hk); (try clear hi)))
              go_ret
              exact ⟨by first | rfl | (simp [errW_none, errW_some] <;> rfl) | (simp [*, errW_none, errW_some] <;> rfl), by repeat (first | (with_reducible first | exact HB.out | apply below_alloc | apply pw_below_drewN | apply below_drew1) | exact HB.out)⟩
            · rw [if_neg c10] at H
              have c10b0 : (a0 == 17) = false := beq_eq_false_iff_ne.mpr c10
              have c10b1 : (a0 != 17) = true := bne_iff_ne.mpr c10
              obtain rfl := Option.some.inj H
              go_wp2_with (first | (go_at_call 59; (with_reducible refine (spec_wbWide_1.calls kj2 a0 false _ A7.out).mono ?_); rintro e w12 ⟨rfl, hb⟩; have n0_ := Aside0.mk (below_step (by repeat (first | (with_reducible first | exact HB.out | apply below_alloc | apply pw_below_drewN | apply below_drew1) | exact HB.out)) hb); clear HB; have HB := n0_; clear n0_; (try clear hb); (try clear hb2); (try clear hk); (try clear hi)))
              go_ret
              exact ⟨by first | rfl | (simp [errW_none, errW_some] <;> rfl) | (simp [*, errW_none, errW_some] <;> rfl), by repeat (first | (with_reducible first | exact HB.out | apply below_alloc | apply pw_below_drewN | apply below_drew1) | exact HB.out)⟩
        · rw [if_neg c6] at H
          have c6b0 : (a1 == 17) = false := beq_eq_false_iff_ne.mpr c6
          have c6b1 : (a1 != 17) = true := bne_iff_ne.mpr c6
          by_cases c13 : a0 = 17
          · rw [if_pos c13] at H
            have c13b0 : (a0 == 17) = true := beq_iff_eq.mpr c13
            have c13b1 : (a0 != 17) = false := bne_eq_false_iff_eq.mpr c13
            clear c13
            replace H := Option.bind_eq_some_iff.mp H
            obtain ⟨t158, A140, H⟩ := H
            replace H : (some t158) = some r := H
            have A14 := Aside0.mk A140
            clear A140
            obtain rfl := Option.some.inj H
            go_wp2_with (first | (go_at_call 59; (with_reducible refine (spec_wbWide_1.calls kj2 a1 t158 _ A14.out).mono ?_); rintro e w15 ⟨rfl, hb⟩; have n0_ := Aside0.mk (below_step (by repeat (first | (with_reducible first | exact HB.out | apply below_alloc | apply pw_below_drewN | apply below_drew1) | exact HB.out)) hb); clear HB; have HB := n0_; clear n0_; (try clear hb); (try clear hb2); (try clear hk); (try clear hi)))
            go_ret
            exact ⟨by first | rfl | (simp [errW_none, errW_some] <;> rfl) | (simp [*, errW_none, errW_some] <;> rfl), by repeat (first | (with_reducible first | exact HB.out | apply below_alloc | apply pw_below_drewN | apply below_drew1) | exact HB.out)⟩
          · rw [if_neg c13] at H
            have c13b0 : (a0 == 17) = false := beq_eq_false_iff_ne.mpr c13
            have c13b1 : (a0 != 17) = true := bne_iff_ne.mpr c13
            obtain rfl := Option.some.inj H
            go_wp2
            go_ret
            exact ⟨by first | rfl | (simp [errW_none, errW_some] <;> rfl) | (simp [*, errW_none, errW_some] <;> rfl), by repeat (first | (with_reducible first | exact HB.out | apply below_alloc | apply pw_below_drewN | apply below_drew1) | exact HB.out)⟩

end Go.Proofs.Ytnanfoahimccpaa.Wd
