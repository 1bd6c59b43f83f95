/- Functions of the translation as Lean functions, and their walks: lines written by a program, a turned copy of the kit's print. -/
import Derived.Test.YtnanfoahimccpaaWdx0
import Derived.Test.YtnanfoahimccpaaWdx1
import Derived.Test.YtnanfoahimccpaaWdx3
namespace Go.Proofs.Ytnanfoahimccpaa.Wd
open Go.RowKit Go.Proofs.YtnanfoahimccpaaW.PrintWords Go.Proofs.YtnanfoahimccpaaW.PrintLast Go.Proofs.YtnanfoahimccpaaW.PrintMore
attribute [local go_sem] max2_int min2_int max_two min_two max_three min_three max_four min_four   -- for this text's walks alone
set_option linter.unusedVariables false
set_option linter.unusedSimpArgs false

/-! ### spec_wbLetters: function 34 -/
mutual
def spec_wbLetters.j0 : Nat → Int → Int → Int → Int → Bool → Option (Bool)
  | 0, _, _, _, _, _ => none
  | k + 1, x0, x1, x2, x3, x9 => if x9 = true then (some true) else ((spec_wbLetter.f k x1).bind fun t142 => (if t142 = true then (if x2 = 14 then ((spec_wbLetter.f k x3).bind fun t143 => (spec_wbLetters.j1 k x0 x1 x2 x3 t143)) else ((spec_wbQuote.f k x2).bind fun t144 => (if t144 = true then ((spec_wbLetter.f k x3).bind fun t145 => (spec_wbLetters.j1 k x0 x1 x2 x3 t145)) else (spec_wbLetters.j1 k x0 x1 x2 x3 false)))) else (spec_wbLetters.j1 k x0 x1 x2 x3 false)))
def spec_wbLetters.j1 : Nat → Int → Int → Int → Int → Bool → Option (Bool)
  | 0, _, _, _, _, _ => none
  | k + 1, x0, x1, x2, x3, x16 => if x16 = true then (some true) else ((spec_wbLetter.f k x0).bind fun t146 => (if t146 = true then (if x1 = 14 then ((spec_wbLetter.f k x2).bind fun t147 => (spec_wbLetters.j2 k x0 x1 x2 x3 t147)) else ((spec_wbQuote.f k x1).bind fun t148 => (if t148 = true then ((spec_wbLetter.f k x2).bind fun t149 => (spec_wbLetters.j2 k x0 x1 x2 x3 t149)) else (spec_wbLetters.j2 k x0 x1 x2 x3 false)))) else (spec_wbLetters.j2 k x0 x1 x2 x3 false)))
def spec_wbLetters.j2 : Nat → Int → Int → Int → Int → Bool → Option (Bool)
  | 0, _, _, _, _, _ => none
  | k + 1, x0, x1, x2, x3, x31 => if x31 = true then (some true) else (if x1 = 9 then (spec_wbLetters.j3 k x0 x1 x2 x3 (x2 == 11)) else (spec_wbLetters.j3 k x0 x1 x2 x3 false))
def spec_wbLetters.j3 : Nat → Int → Int → Int → Int → Bool → Option (Bool)
  | 0, _, _, _, _, _ => none
  | k + 1, x0, x1, x2, x3, x46 => if x46 = true then (some true) else (if x1 = 9 then (if x2 = 12 then (if x3 = 9 then (some true) else (if x0 = 9 then (if x1 = 12 then (some (x2 == 9)) else (some false)) else (some false))) else (if x0 = 9 then (if x1 = 12 then (some (x2 == 9)) else (some false)) else (some false))) else (if x0 = 9 then (if x1 = 12 then (some (x2 == 9)) else (some false)) else (some false)))
end
def spec_wbLetters.f (k : Nat) (a0 : Int) (a1 : Int) (a2 : Int) (a3 : Int) : Option (Bool) := (spec_wbLetter.f k a1).bind fun t140 => (if t140 = true then ((spec_wbLetter.f k a2).bind fun t141 => (spec_wbLetters.j0 k a0 a1 a2 a3 t141)) else (spec_wbLetters.j0 k a0 a1 a2 a3 false))
theorem spec_wbLetters.mono_l : ∀ k, (∀ y0 y1 y2 y3 y4, LeO (spec_wbLetters.j0 k y0 y1 y2 y3 y4) (spec_wbLetters.j0 (k + 1) y0 y1 y2 y3 y4)) ∧ (∀ y0 y1 y2 y3 y4, LeO (spec_wbLetters.j1 k y0 y1 y2 y3 y4) (spec_wbLetters.j1 (k + 1) y0 y1 y2 y3 y4)) ∧ (∀ y0 y1 y2 y3 y4, LeO (spec_wbLetters.j2 k y0 y1 y2 y3 y4) (spec_wbLetters.j2 (k + 1) y0 y1 y2 y3 y4)) ∧ (∀ y0 y1 y2 y3 y4, LeO (spec_wbLetters.j3 k y0 y1 y2 y3 y4) (spec_wbLetters.j3 (k + 1) y0 y1 y2 y3 y4))
  | 0 => ⟨fun _ _ _ _ _ r h => by simp [spec_wbLetters.j0] at h, fun _ _ _ _ _ r h => by simp [spec_wbLetters.j1] at h, fun _ _ _ _ _ r h => by simp [spec_wbLetters.j2] at h, fun _ _ _ _ _ r h => by simp [spec_wbLetters.j3] at h⟩
  | k + 1 => by
    obtain ⟨ih0, ih1, ih2, ih3⟩ := spec_wbLetters.mono_l k
    refine ⟨?_, ?_, ?_, ?_⟩
    · intro y0 y1 y2 y3 y4
      unfold spec_wbLetters.j0
      repeat' first
      | (with_reducible exact ih0 _ _ _ _ _)
      | (with_reducible exact ih1 _ _ _ _ _)
      | (with_reducible exact ih2 _ _ _ _ _)
      | (with_reducible exact ih3 _ _ _ _ _)
      | (with_reducible exact spec_wbLetter.mono _ _)
      | (with_reducible exact spec_wbQuote.mono _ _)
      | (with_reducible exact LeO.refl _)
      | (with_reducible exact LeO.none _)
      | (with_reducible refine LeO.ite ?_ ?_)
      | (with_reducible refine LeO.bind ?_ (fun _ => ?_))
      | exact ih0 _ _ _ _ _
      | exact ih1 _ _ _ _ _
      | exact ih2 _ _ _ _ _
      | exact ih3 _ _ _ _ _
      | exact spec_wbLetter.mono _ _
      | exact spec_wbQuote.mono _ _
      | exact LeO.none _
      | refine LeO.ite ?_ ?_
      | refine LeO.bind ?_ (fun _ => ?_)
    · intro y0 y1 y2 y3 y4
      unfold spec_wbLetters.j1
      repeat' first
      | (with_reducible exact ih0 _ _ _ _ _)
      | (with_reducible exact ih1 _ _ _ _ _)
      | (with_reducible exact ih2 _ _ _ _ _)
      | (with_reducible exact ih3 _ _ _ _ _)
      | (with_reducible exact spec_wbLetter.mono _ _)
      | (with_reducible exact spec_wbQuote.mono _ _)
      | (with_reducible exact LeO.refl _)
      | (with_reducible exact LeO.none _)
      | (with_reducible refine LeO.ite ?_ ?_)
      | (with_reducible refine LeO.bind ?_ (fun _ => ?_))
      | exact ih0 _ _ _ _ _
      | exact ih1 _ _ _ _ _
      | exact ih2 _ _ _ _ _
      | exact ih3 _ _ _ _ _
      | exact spec_wbLetter.mono _ _
      | exact spec_wbQuote.mono _ _
      | exact LeO.none _
      | refine LeO.ite ?_ ?_
      | refine LeO.bind ?_ (fun _ => ?_)
    · intro y0 y1 y2 y3 y4
      unfold spec_wbLetters.j2
      repeat' first
      | (with_reducible exact ih0 _ _ _ _ _)
      | (with_reducible exact ih1 _ _ _ _ _)
      | (with_reducible exact ih2 _ _ _ _ _)
      | (with_reducible exact ih3 _ _ _ _ _)
      | (with_reducible exact spec_wbLetter.mono _ _)
      | (with_reducible exact spec_wbQuote.mono _ _)
      | (with_reducible exact LeO.refl _)
      | (with_reducible exact LeO.none _)
      | (with_reducible refine LeO.ite ?_ ?_)
      | (with_reducible refine LeO.bind ?_ (fun _ => ?_))
      | exact ih0 _ _ _ _ _
      | exact ih1 _ _ _ _ _
      | exact ih2 _ _ _ _ _
      | exact ih3 _ _ _ _ _
      | exact spec_wbLetter.mono _ _
      | exact spec_wbQuote.mono _ _
      | exact LeO.none _
      | refine LeO.ite ?_ ?_
      | refine LeO.bind ?_ (fun _ => ?_)
    · intro y0 y1 y2 y3 y4
      unfold spec_wbLetters.j3
      repeat' first
      | (with_reducible exact ih0 _ _ _ _ _)
      | (with_reducible exact ih1 _ _ _ _ _)
      | (with_reducible exact ih2 _ _ _ _ _)
      | (with_reducible exact ih3 _ _ _ _ _)
      | (with_reducible exact spec_wbLetter.mono _ _)
      | (with_reducible exact spec_wbQuote.mono _ _)
      | (with_reducible exact LeO.refl _)
      | (with_reducible exact LeO.none _)
      | (with_reducible refine LeO.ite ?_ ?_)
      | (with_reducible refine LeO.bind ?_ (fun _ => ?_))
      | exact ih0 _ _ _ _ _
      | exact ih1 _ _ _ _ _
      | exact ih2 _ _ _ _ _
      | exact ih3 _ _ _ _ _
      | exact spec_wbLetter.mono _ _
      | exact spec_wbQuote.mono _ _
      | exact LeO.none _
      | refine LeO.ite ?_ ?_
      | refine LeO.bind ?_ (fun _ => ?_)
theorem spec_wbLetters.mono : ∀ a0 a1 a2 a3 k, LeO (spec_wbLetters.f k a0 a1 a2 a3) (spec_wbLetters.f (k + 1) a0 a1 a2 a3) := by
  intro a0 a1 a2 a3 k
  obtain ⟨ih0, ih1, ih2, ih3⟩ := spec_wbLetters.mono_l k
  unfold spec_wbLetters.f
  repeat' first
      | (with_reducible exact ih0 _ _ _ _ _)
      | (with_reducible exact ih1 _ _ _ _ _)
      | (with_reducible exact ih2 _ _ _ _ _)
      | (with_reducible exact ih3 _ _ _ _ _)
      | (with_reducible exact spec_wbLetter.mono _ _)
      | (with_reducible exact spec_wbQuote.mono _ _)
      | (with_reducible exact LeO.refl _)
      | (with_reducible exact LeO.none _)
      | (with_reducible refine LeO.ite ?_ ?_)
      | (with_reducible refine LeO.bind ?_ (fun _ => ?_))
      | exact ih0 _ _ _ _ _
      | exact ih1 _ _ _ _ _
      | exact ih2 _ _ _ _ _
      | exact ih3 _ _ _ _ _
      | exact spec_wbLetter.mono _ _
      | exact spec_wbQuote.mono _ _
      | exact LeO.none _
      | refine LeO.ite ?_ ?_
      | refine LeO.bind ?_ (fun _ => ?_)
set_option maxHeartbeats 8000000 in
set_option maxRecDepth 100000 in
theorem spec_wbLetters.calls (k : Nat) (a0 : Int) (a1 : Int) (a2 : Int) (a3 : Int) (r : Bool) (w : World) (h : spec_wbLetters.f k a0 a1 a2 a3 = some r) :
    Calls Try.prog 34 #[.int .i64 a0, .int .i64 a1, .int .i64 a2, .int .i64 a3] w fun e w' => e = .returned (.bool r) ∧ Below w.heap.size w w' := by
  have HB := Aside0.mk (Below.refl w.heap.size w)
  have H : ((spec_wbLetter.f k a1).bind fun t140 => (if t140 = true then ((spec_wbLetter.f k a2).bind fun t141 => (spec_wbLetters.j0 k a0 a1 a2 a3 t141)) else (spec_wbLetters.j0 k a0 a1 a2 a3 false))) = some r := h
  clear h
  have HC5 := Aside0.mk H
  clear H
  go_enter Try.func34, Try.ntmps34
  go_upto_region 1 with (fail)
  go_cut [9] (fun v9 wc => ∃ (kq : Nat) (x9_4 : Bool), v9 = .bool x9_4 ∧ Aside0 (spec_wbLetters.j0 kq a0 a1 a2 a3 x9_4 = some r) ∧ Aside0 (kq ≤ k) ∧ Aside0 (Below w.heap.size w wc))
  case first =>
    have H := HC5.out
    clear HC5
    replace H := Option.bind_eq_some_iff.mp H
    obtain ⟨t140, A60, H⟩ := H
    replace H : (if t140 = true then ((spec_wbLetter.f k a2).bind fun t141 => (spec_wbLetters.j0 k a0 a1 a2 a3 t141)) else (spec_wbLetters.j0 k a0 a1 a2 a3 false)) = some r := H
    have A6 := Aside0.mk A60
    clear A60
    by_cases c7 : t140 = true
    · subst c7
      have H1 : ((spec_wbLetter.f k a2).bind fun t141 => (spec_wbLetters.j0 k a0 a1 a2 a3 t141)) = some r := by rw [if_pos rfl] at H; exact H
      clear H
      have H := H1
      clear H1
      replace H := Option.bind_eq_some_iff.mp H
      obtain ⟨t141, A80, H⟩ := H
      replace H : (spec_wbLetters.j0 k a0 a1 a2 a3 t141) = some r := H
      have A8 := Aside0.mk A80
      clear A80
      have H' := Aside0.mk H
      clear H
      go_wp2_with (first | ((with_reducible refine gate_callee (f := 57) rfl ?_); refine goesL_ (some 11) rfl rfl Try.func57 (by kernel_rfl) rfl #[.int .i64 a1] rfl (by (try simp only [List.map_toArray, List.map_cons, List.map_nil]); first | done | rfl | (simp only [List.length_drop, List.length_take]; rfl)) ?_; (with_reducible refine (spec_wbLetter.calls k a1 true _ A6.out).mono ?_); rintro e w9 ⟨rfl, hb⟩; refine ⟨_, rfl, ?_⟩; have n0_ := Aside0.mk (below_step (by repeat (first | (with_reducible first | exact HB.out | apply below_alloc | apply pw_below_drewN | apply below_drew1) | exact HB.out)) hb); clear HB; have HB := n0_; clear n0_; (try clear hb); (try clear hb2); (try clear hk); (try clear hi)) | (go_at_call 57; (with_reducible refine (spec_wbLetter.calls k a2 t141 _ A8.out).mono ?_); rintro e w10 ⟨rfl, hb⟩; have n0_ := Aside0.mk (below_step (by repeat (first | (with_reducible first | exact HB.out | apply below_alloc | apply pw_below_drewN | apply below_drew1) | exact HB.out)) hb); clear HB; have HB := n0_; clear n0_; (try clear hb); (try clear hb2); (try clear hk); (try clear hi)))
      go_meet
      case rel => exact ⟨_, (t141), (by first | rfl | (simp; done) | (simp [*]; done)), H', ⟨by first | omega | exact Nat.le_refl _⟩, ⟨by repeat (first | (with_reducible first | exact HB.out | apply below_alloc | apply pw_below_drewN | apply below_drew1) | exact HB.out)⟩⟩
    · replace c7 := Bool.eq_false_iff.mpr c7
      subst c7
      have H1 : (spec_wbLetters.j0 k a0 a1 a2 a3 false) = some r := by rw [if_neg (show ¬ (false = true) by decide)] at H; exact H
      clear H
      have H := H1
      clear H1
      have H' := Aside0.mk H
      clear H
      go_wp2_with (first | ((with_reducible refine gate_callee (f := 57) rfl ?_); refine goesL_ (some 11) rfl rfl Try.func57 (by kernel_rfl) rfl #[.int .i64 a1] rfl (by (try simp only [List.map_toArray, List.map_cons, List.map_nil]); first | done | rfl | (simp only [List.length_drop, List.length_take]; rfl)) ?_; (with_reducible refine (spec_wbLetter.calls k a1 false _ A6.out).mono ?_); rintro e w11 ⟨rfl, hb⟩; refine ⟨_, rfl, ?_⟩; have n0_ := Aside0.mk (below_step (by repeat (first | (with_reducible first | exact HB.out | apply below_alloc | apply pw_below_drewN | apply below_drew1) | exact HB.out)) hb); clear HB; have HB := n0_; clear n0_; (try clear hb); (try clear hb2); (try clear hk); (try clear hi)))
      go_meet
      case rel => exact ⟨_, (false), (by first | rfl | (simp; done) | (simp [*]; done)), H', ⟨by first | omega | exact Nat.le_refl _⟩, ⟨by repeat (first | (with_reducible first | exact HB.out | apply below_alloc | apply pw_below_drewN | apply below_drew1) | exact HB.out)⟩⟩
  case rest =>
    clear HC5
    try clear p2
    try clear c3
    try clear c5
    try clear c7
    obtain ⟨kq, x9_4, rfl, HA, HJ4, HB⟩ := hcut
    cases kq with
    | zero => exact absurd HA.out (by simp [spec_wbLetters.j0])
    | succ kj4 =>
      have H := HA.out
      clear HA
      simp only [spec_wbLetters.j0] at H
      by_cases c12 : x9_4 = true
      · subst c12
        have H1 : (some true) = some r := by rw [if_pos rfl] at H; exact H
        clear H
        have H := H1
        clear H1
        obtain rfl := Option.some.inj H
        go_wp2
        go_ret
        exact ⟨by first | rfl | (simp [errW_none, errW_some] <;> rfl) | (simp [*, errW_none, errW_some] <;> rfl), by repeat (first | (with_reducible first | exact HB.out | apply below_alloc | apply pw_below_drewN | apply below_drew1) | exact HB.out)⟩
      · replace c12 := Bool.eq_false_iff.mpr c12
        subst c12
        have H1 : ((spec_wbLetter.f kj4 a1).bind fun t142 => (if t142 = true then (if a2 = 14 then ((spec_wbLetter.f kj4 a3).bind fun t143 => (spec_wbLetters.j1 kj4 a0 a1 a2 a3 t143)) else ((spec_wbQuote.f kj4 a2).bind fun t144 => (if t144 = true then ((spec_wbLetter.f kj4 a3).bind fun t145 => (spec_wbLetters.j1 kj4 a0 a1 a2 a3 t145)) else (spec_wbLetters.j1 kj4 a0 a1 a2 a3 false)))) else (spec_wbLetters.j1 kj4 a0 a1 a2 a3 false))) = some r := by rw [if_neg (show ¬ (false = true) by decide)] at H; exact H
        clear H
        have H := H1
        clear H1
        have HC13 := Aside0.mk H
        clear H
        go_upto_region 3 with (fail)
        go_cut [16] (fun v16 wc => ∃ (kq : Nat) (x16_12 : Bool), v16 = .bool x16_12 ∧ Aside0 (spec_wbLetters.j1 kq a0 a1 a2 a3 x16_12 = some r) ∧ Aside0 (kq ≤ kj4) ∧ Aside0 (Below w.heap.size w wc))
        case first =>
          have H := HC13.out
          clear HC13
          replace H := Option.bind_eq_some_iff.mp H
          obtain ⟨t142, A140, H⟩ := H
          replace H : (if t142 = true then (if a2 = 14 then ((spec_wbLetter.f kj4 a3).bind fun t143 => (spec_wbLetters.j1 kj4 a0 a1 a2 a3 t143)) else ((spec_wbQuote.f kj4 a2).bind fun t144 => (if t144 = true then ((spec_wbLetter.f kj4 a3).bind fun t145 => (spec_wbLetters.j1 kj4 a0 a1 a2 a3 t145)) else (spec_wbLetters.j1 kj4 a0 a1 a2 a3 false)))) else (spec_wbLetters.j1 kj4 a0 a1 a2 a3 false)) = some r := H
          have A14 := Aside0.mk A140
          clear A140
          by_cases c15 : t142 = true
          · subst c15
            have H1 : (if a2 = 14 then ((spec_wbLetter.f kj4 a3).bind fun t143 => (spec_wbLetters.j1 kj4 a0 a1 a2 a3 t143)) else ((spec_wbQuote.f kj4 a2).bind fun t144 => (if t144 = true then ((spec_wbLetter.f kj4 a3).bind fun t145 => (spec_wbLetters.j1 kj4 a0 a1 a2 a3 t145)) else (spec_wbLetters.j1 kj4 a0 a1 a2 a3 false)))) = some r := by rw [if_pos rfl] at H; exact H
            clear H
            have H := H1
            clear H1
            by_cases c16 : a2 = 14
            · rw [if_pos c16] at H
              have c16b0 : (a2 == 14) = true := beq_iff_eq.mpr c16
              have c16b1 : (a2 != 14) = false := bne_eq_false_iff_eq.mpr c16
              clear c16
              (first | rw [c16b0] | (simp only [i64_w, i32_w]; rw [c16b0]) | skip)
              replace H := Option.bind_eq_some_iff.mp H
              obtain ⟨t143, A170, H⟩ := H
              replace H : (spec_wbLetters.j1 kj4 a0 a1 a2 a3 t143) = some r := H
              have A17 := Aside0.mk A170
              clear A170
              have H' := Aside0.mk H
              clear H
              go_wp2_with (first | ((with_reducible refine gate_callee (f := 57) rfl ?_); refine goesL_ (some 18) rfl rfl Try.func57 (by kernel_rfl) rfl #[.int .i64 a1] rfl (by (try simp only [List.map_toArray, List.map_cons, List.map_nil]); first | done | rfl | (simp only [List.length_drop, List.length_take]; rfl)) ?_; (with_reducible refine (spec_wbLetter.calls kj4 a1 true _ A14.out).mono ?_); rintro e w18 ⟨rfl, hb⟩; refine ⟨_, rfl, ?_⟩; have n0_ := Aside0.mk (below_step (by repeat (first | (with_reducible first | exact HB.out | apply below_alloc | apply pw_below_drewN | apply below_drew1) | exact HB.out)) hb); clear HB; have HB := n0_; clear n0_; (try clear hb); (try clear hb2); (try clear hk); (try clear hi)) | (go_at_call 57; (with_reducible refine (spec_wbLetter.calls kj4 a3 t143 _ A17.out).mono ?_); rintro e w19 ⟨rfl, hb⟩; have n0_ := Aside0.mk (below_step (by repeat (first | (with_reducible first | exact HB.out | apply below_alloc | apply pw_below_drewN | apply below_drew1) | exact HB.out)) hb); clear HB; have HB := n0_; clear n0_; (try clear hb); (try clear hb2); (try clear hk); (try clear hi)))
              go_meet
              case rel => exact ⟨_, (t143), (by first | rfl | (simp; done) | (simp [*]; done)), H', ⟨by have := HJ4.out; first | omega | exact Nat.le_refl _⟩, ⟨by repeat (first | (with_reducible first | exact HB.out | apply below_alloc | apply pw_below_drewN | apply below_drew1) | exact HB.out)⟩⟩
            · rw [if_neg c16] at H
              have c16b0 : (a2 == 14) = false := beq_eq_false_iff_ne.mpr c16
              have c16b1 : (a2 != 14) = true := bne_iff_ne.mpr c16
              (first | rw [c16b0] | (simp only [i64_w, i32_w]; rw [c16b0]) | skip)
              replace H := Option.bind_eq_some_iff.mp H
              obtain ⟨t144, A200, H⟩ := H
              replace H : (if t144 = true then ((spec_wbLetter.f kj4 a3).bind fun t145 => (spec_wbLetters.j1 kj4 a0 a1 a2 a3 t145)) else (spec_wbLetters.j1 kj4 a0 a1 a2 a3 false)) = some r := H
              have A20 := Aside0.mk A200
              clear A200
              by_cases c21 : t144 = true
              · subst c21
                have H1 : ((spec_wbLetter.f kj4 a3).bind fun t145 => (spec_wbLetters.j1 kj4 a0 a1 a2 a3 t145)) = some r := by rw [if_pos rfl] at H; exact H
                clear H
                have H := H1
                clear H1
                replace H := Option.bind_eq_some_iff.mp H
                obtain ⟨t145, A220, H⟩ := H
                replace H : (spec_wbLetters.j1 kj4 a0 a1 a2 a3 t145) = some r := H
                have A22 := Aside0.mk A220
                clear A220
                have H' := Aside0.mk H
                clear H
                go_wp2_with (first | ((with_reducible refine gate_callee (f := 57) rfl ?_); refine goesL_ (some 18) rfl rfl Try.func57 (by kernel_rfl) rfl #[.int .i64 a1] rfl (by (try simp only [List.map_toArray, List.map_cons, List.map_nil]); first | done | rfl | (simp only [List.length_drop, List.length_take]; rfl)) ?_; (with_reducible refine (spec_wbLetter.calls kj4 a1 true _ A14.out).mono ?_); rintro e w23 ⟨rfl, hb⟩; refine ⟨_, rfl, ?_⟩; have n0_ := Aside0.mk (below_step (by repeat (first | (with_reducible first | exact HB.out | apply below_alloc | apply pw_below_drewN | apply below_drew1) | exact HB.out)) hb); clear HB; have HB := n0_; clear n0_; (try clear hb); (try clear hb2); (try clear hk); (try clear hi)) | (go_at_call 58; (with_reducible refine (spec_wbQuote.calls kj4 a2 true _ A20.out).mono ?_); rintro e w24 ⟨rfl, hb⟩; have n0_ := Aside0.mk (below_step (by repeat (first | (with_reducible first | exact HB.out | apply below_alloc | apply pw_below_drewN | apply below_drew1) | exact HB.out)) hb); clear HB; have HB := n0_; clear n0_; (try clear hb); (try clear hb2); (try clear hk); (try clear hi)) | (go_at_call 57; (with_reducible refine (spec_wbLetter.calls kj4 a3 t145 _ A22.out).mono ?_); rintro e w25 ⟨rfl, hb⟩; have n0_ := Aside0.mk (below_step (by repeat (first | (with_reducible first | exact HB.out | apply below_alloc | apply pw_below_drewN | apply below_drew1) | exact HB.out)) hb); clear HB; have HB := n0_; clear n0_; (try clear hb); (try clear hb2); (try clear hk); (try clear hi)))
                go_meet
                case rel => exact ⟨_, (t145), (by first | rfl | (simp; done) | (simp [*]; done)), H', ⟨by have := HJ4.out; first | omega | exact Nat.le_refl _⟩, ⟨by repeat (first | (with_reducible first | exact HB.out | apply below_alloc | apply pw_below_drewN | apply below_drew1) | exact HB.out)⟩⟩
              · replace c21 := Bool.eq_false_iff.mpr c21
                subst c21
                have H1 : (spec_wbLetters.j1 kj4 a0 a1 a2 a3 false) = some r := by rw [if_neg (show ¬ (false = true) by decide)] at H; exact H
                clear H
                have H := H1
                clear H1
                have H' := Aside0.mk H
                clear H
                go_wp2_with (first | ((with_reducible refine gate_callee (f := 57) rfl ?_); refine goesL_ (some 18) rfl rfl Try.func57 (by kernel_rfl) rfl #[.int .i64 a1] rfl (by (try simp only [List.map_toArray, List.map_cons, List.map_nil]); first | done | rfl | (simp only [List.length_drop, List.length_take]; rfl)) ?_; (with_reducible refine (spec_wbLetter.calls kj4 a1 true _ A14.out).mono ?_); rintro e w26 ⟨rfl, hb⟩; refine ⟨_, rfl, ?_⟩; have n0_ := Aside0.mk (below_step (by repeat (first | (with_reducible first | exact HB.out | apply below_alloc | apply pw_below_drewN | apply below_drew1) | exact HB.out)) hb); clear HB; have HB := n0_; clear n0_; (try clear hb); (try clear hb2); (try clear hk); (try clear hi)) | (go_at_call 58; (with_reducible refine (spec_wbQuote.calls kj4 a2 false _ A20.out).mono ?_); rintro e w27 ⟨rfl, hb⟩; have n0_ := Aside0.mk (below_step (by repeat (first | (with_reducible first | exact HB.out | apply below_alloc | apply pw_below_drewN | apply below_drew1) | exact HB.out)) hb); clear HB; have HB := n0_; clear n0_; (try clear hb); (try clear hb2); (try clear hk); (try clear hi)))
                go_meet
                case rel => exact ⟨_, (false), (by first | rfl | (simp; done) | (simp [*]; done)), H', ⟨by have := HJ4.out; first | omega | exact Nat.le_refl _⟩, ⟨by repeat (first | (with_reducible first | exact HB.out | apply below_alloc | apply pw_below_drewN | apply below_drew1) | exact HB.out)⟩⟩
          · replace c15 := Bool.eq_false_iff.mpr c15
            subst c15
            have H1 : (spec_wbLetters.j1 kj4 a0 a1 a2 a3 false) = some r := by rw [if_neg (show ¬ (false = true) by decide)] at H; exact H
            clear H
            have H := H1
            clear H1
            have H' := Aside0.mk H
            clear H
            go_wp2_with (first | ((with_reducible refine gate_callee (f := 57) rfl ?_); refine goesL_ (some 18) rfl rfl Try.func57 (by kernel_rfl) rfl #[.int .i64 a1] rfl (by (try simp only [List.map_toArray, List.map_cons, List.map_nil]); first | done | rfl | (simp only [List.length_drop, List.length_take]; rfl)) ?_; (with_reducible refine (spec_wbLetter.calls kj4 a1 false _ A14.out).mono ?_); rintro e w28 ⟨rfl, hb⟩; refine ⟨_, rfl, ?_⟩; have n0_ := Aside0.mk (below_step (by repeat (first | (with_reducible first | exact HB.out | apply below_alloc | apply pw_below_drewN | apply below_drew1) | exact HB.out)) hb); clear HB; have HB := n0_; clear n0_; (try clear hb); (try clear hb2); (try clear hk); (try clear hi)))
            go_meet
            case rel => exact ⟨_, (false), (by first | rfl | (simp; done) | (simp [*]; done)), H', ⟨by have := HJ4.out; first | omega | exact Nat.le_refl _⟩, ⟨by repeat (first | (with_reducible first | exact HB.out | apply below_alloc | apply pw_below_drewN | apply below_drew1) | exact HB.out)⟩⟩
        case rest =>
          clear HC13
          try clear c1
          try clear c2
          try clear p2
          try clear c3
          try clear c5
          try clear c7
          try clear c12
          try clear c15
          try clear c16
          try clear c16b0
          try clear c16b1
          try clear c21
          try clear p2
          obtain ⟨kq, x16_12, rfl, HA, HJ12, HB⟩ := hcut
          cases kq with
          | zero => exact absurd HA.out (by simp [spec_wbLetters.j1])
          | succ kj12 =>
            have H := HA.out
            clear HA
            simp only [spec_wbLetters.j1] at H
            by_cases c29 : x16_12 = true
            · subst c29
              have H1 : (some true) = some r := by rw [if_pos rfl] at H; exact H
              clear H
              have H := H1
              clear H1
              obtain rfl := Option.some.inj H
              go_wp2
              go_ret
              exact ⟨by first | rfl | (simp [errW_none, errW_some] <;> rfl) | (simp [*, errW_none, errW_some] <;> rfl), by repeat (first | (with_reducible first | exact HB.out | apply below_alloc | apply pw_below_drewN | apply below_drew1) | exact HB.out)⟩
            · replace c29 := Bool.eq_false_iff.mpr c29
              subst c29
              have H1 : ((spec_wbLetter.f kj12 a0).bind fun t146 => (if t146 = true then (if a1 = 14 then ((spec_wbLetter.f kj12 a2).bind fun t147 => (spec_wbLetters.j2 kj12 a0 a1 a2 a3 t147)) else ((spec_wbQuote.f kj12 a1).bind fun t148 => (if t148 = true then ((spec_wbLetter.f kj12 a2).bind fun t149 => (spec_wbLetters.j2 kj12 a0 a1 a2 a3 t149)) else (spec_wbLetters.j2 kj12 a0 a1 a2 a3 false)))) else (spec_wbLetters.j2 kj12 a0 a1 a2 a3 false))) = some r := by rw [if_neg (show ¬ (false = true) by decide)] at H; exact H
              clear H
              have H := H1
              clear H1
              have HC30 := Aside0.mk H
              clear H
              go_upto_region 5 with (fail)
              go_cut [31] (fun v31 wc => ∃ (kq : Nat) (x31_29 : Bool), v31 = .bool x31_29 ∧ Aside0 (spec_wbLetters.j2 kq a0 a1 a2 a3 x31_29 = some r) ∧ Aside0 (kq ≤ kj12) ∧ Aside0 (Below w.heap.size w wc))
              case first =>
                have H := HC30.out
                clear HC30
                replace H := Option.bind_eq_some_iff.mp H
                obtain ⟨t146, A310, H⟩ := H
                replace H : (if t146 = true then (if a1 = 14 then ((spec_wbLetter.f kj12 a2).bind fun t147 => (spec_wbLetters.j2 kj12 a0 a1 a2 a3 t147)) else ((spec_wbQuote.f kj12 a1).bind fun t148 => (if t148 = true then ((spec_wbLetter.f kj12 a2).bind fun t149 => (spec_wbLetters.j2 kj12 a0 a1 a2 a3 t149)) else (spec_wbLetters.j2 kj12 a0 a1 a2 a3 false)))) else (spec_wbLetters.j2 kj12 a0 a1 a2 a3 false)) = some r := H
                have A31 := Aside0.mk A310
                clear A310
                by_cases c32 : t146 = true
                · subst c32
                  have H1 : (if a1 = 14 then ((spec_wbLetter.f kj12 a2).bind fun t147 => (spec_wbLetters.j2 kj12 a0 a1 a2 a3 t147)) else ((spec_wbQuote.f kj12 a1).bind fun t148 => (if t148 = true then ((spec_wbLetter.f kj12 a2).bind fun t149 => (spec_wbLetters.j2 kj12 a0 a1 a2 a3 t149)) else (spec_wbLetters.j2 kj12 a0 a1 a2 a3 false)))) = some r := by rw [if_pos rfl] at H; exact H
                  clear H
                  have H := H1
                  clear H1
                  by_cases c33 : a1 = 14
                  · rw [if_pos c33] at H
                    have c33b0 : (a1 == 14) = true := beq_iff_eq.mpr c33
                    have c33b1 : (a1 != 14) = false := bne_eq_false_iff_eq.mpr c33
                    clear c33
                    (first | rw [c33b0] | (simp only [i64_w, i32_w]; rw [c33b0]) | skip)
                    replace H := Option.bind_eq_some_iff.mp H
                    obtain ⟨t147, A340, H⟩ := H
                    replace H : (spec_wbLetters.j2 kj12 a0 a1 a2 a3 t147) = some r := H
                    have A34 := Aside0.mk A340
                    clear A340
                    have H' := Aside0.mk H
                    clear H
                    go_wp2_with (first | ((with_reducible refine gate_callee (f := 57) rfl ?_); refine goesL_ (some 33) rfl rfl Try.func57 (by kernel_rfl) rfl #[.int .i64 a0] rfl (by (try simp only [List.map_toArray, List.map_cons, List.map_nil]); first | done | rfl | (simp only [List.length_drop, List.length_take]; rfl)) ?_; (with_reducible refine (spec_wbLetter.calls kj12 a0 true _ A31.out).mono ?_); rintro e w35 ⟨rfl, hb⟩; refine ⟨_, rfl, ?_⟩; have n0_ := Aside0.mk (below_step (by repeat (first | (with_reducible first | exact HB.out | apply below_alloc | apply pw_below_drewN | apply below_drew1) | exact HB.out)) hb); clear HB; have HB := n0_; clear n0_; (try clear hb); (try clear hb2); (try clear hk); (try clear hi)) | (go_at_call 57; (with_reducible refine (spec_wbLetter.calls kj12 a2 t147 _ A34.out).mono ?_); rintro e w36 ⟨rfl, hb⟩; have n0_ := Aside0.mk (below_step (by repeat (first | (with_reducible first | exact HB.out | apply below_alloc | apply pw_below_drewN | apply below_drew1) | exact HB.out)) hb); clear HB; have HB := n0_; clear n0_; (try clear hb); (try clear hb2); (try clear hk); (try clear hi)))
                    go_meet
                    case rel => exact ⟨_, (t147), (by first | rfl | (simp; done) | (simp [*]; done)), H', ⟨by have := HJ4.out; have := HJ12.out; first | omega | exact Nat.le_refl _⟩, ⟨by repeat (first | (with_reducible first | exact HB.out | apply below_alloc | apply pw_below_drewN | apply below_drew1) | exact HB.out)⟩⟩
                  · rw [if_neg c33] at H
                    have c33b0 : (a1 == 14) = false := beq_eq_false_iff_ne.mpr c33
                    have c33b1 : (a1 != 14) = true := bne_iff_ne.mpr c33
                    (first | rw [c33b0] | (simp only [i64_w, i32_w]; rw [c33b0]) | skip)
                    replace H := Option.bind_eq_some_iff.mp H
                    obtain ⟨t148, A370, H⟩ := H
                    replace H : (if t148 = true then ((spec_wbLetter.f kj12 a2).bind fun t149 => (spec_wbLetters.j2 kj12 a0 a1 a2 a3 t149)) else (spec_wbLetters.j2 kj12 a0 a1 a2 a3 false)) = some r := H
                    have A37 := Aside0.mk A370
                    clear A370
                    by_cases c38 : t148 = true
                    · subst c38
                      have H1 : ((spec_wbLetter.f kj12 a2).bind fun t149 => (spec_wbLetters.j2 kj12 a0 a1 a2 a3 t149)) = some r := by rw [if_pos rfl] at H; exact H
                      clear H
                      have H := H1
                      clear H1
                      replace H := Option.bind_eq_some_iff.mp H
                      obtain ⟨t149, A390, H⟩ := H
                      replace H : (spec_wbLetters.j2 kj12 a0 a1 a2 a3 t149) = some r := H
                      have A39 := Aside0.mk A390
                      clear A390
                      have H' := Aside0.mk H
                      clear H
                      go_wp2_with (first | ((with_reducible refine gate_callee (f := 57) rfl ?_); refine goesL_ (some 33) rfl rfl Try.func57 (by kernel_rfl) rfl #[.int .i64 a0] rfl (by (try simp only [List.map_toArray, List.map_cons, List.map_nil]); first | done | rfl | (simp only [List.length_drop, List.length_take]; rfl)) ?_; (with_reducible refine (spec_wbLetter.calls kj12 a0 true _ A31.out).mono ?_); rintro e w40 ⟨rfl, hb⟩; refine ⟨_, rfl, ?_⟩; have n0_ := Aside0.mk (below_step (by repeat (first | (with_reducible first | exact HB.out | apply below_alloc | apply pw_below_drewN | apply below_drew1) | exact HB.out)) hb); clear HB; have HB := n0_; clear n0_; (try clear hb); (try clear hb2); (try clear hk); (try clear hi)) | (go_at_call 58; (with_reducible refine (spec_wbQuote.calls kj12 a1 true _ A37.out).mono ?_); rintro e w41 ⟨rfl, hb⟩; have n0_ := Aside0.mk (below_step (by repeat (first | (with_reducible first | exact HB.out | apply below_alloc | apply pw_below_drewN | apply below_drew1) | exact HB.out)) hb); clear HB; have HB := n0_; clear n0_; (try clear hb); (try clear hb2); (try clear hk); (try clear hi)) | (go_at_call 57; (with_reducible refine (spec_wbLetter.calls kj12 a2 t149 _ A39.out).mono ?_); rintro e w42 ⟨rfl, hb⟩; have n0_ := Aside0.mk (below_step (by repeat (first | (with_reducible first | exact HB.out | apply below_alloc | apply pw_below_drewN | apply below_drew1) | exact HB.out)) hb); clear HB; have HB := n0_; clear n0_; (try clear hb); (try clear hb2); (try clear hk); (try clear hi)))
                      go_meet
                      case rel => exact ⟨_, (t149), (by first | rfl | (simp; done) | (simp [*]; done)), H', ⟨by have := HJ4.out; have := HJ12.out; first | omega | exact Nat.le_refl _⟩, ⟨by repeat (first | (with_reducible first | exact HB.out | apply below_alloc | apply pw_below_drewN | apply below_drew1) | exact HB.out)⟩⟩
                    · replace c38 := Bool.eq_false_iff.mpr c38
                      subst c38
                      have H1 : (spec_wbLetters.j2 kj12 a0 a1 a2 a3 false) = some r := by rw [if_neg (show ¬ (false = true) by decide)] at H; exact H
                      clear H
                      have H := H1
                      clear H1
                      have H' := Aside0.mk H
                      clear H
                      go_wp2_with (first | ((with_reducible refine gate_callee (f := 57) rfl ?_); refine goesL_ (some 33) rfl rfl Try.func57 (by kernel_rfl) rfl #[.int .i64 a0] rfl (by (try simp only [List.map_toArray, List.map_cons, List.map_nil]); first | done | rfl | (simp only [List.length_drop, List.length_take]; rfl)) ?_; (with_reducible refine (spec_wbLetter.calls kj12 a0 true _ A31.out).mono ?_); rintro e w43 ⟨rfl, hb⟩; refine ⟨_, rfl, ?_⟩; have n0_ := Aside0.mk (below_step (by repeat (first | (with_reducible first | exact HB.out | apply below_alloc | apply pw_below_drewN | apply below_drew1) | exact HB.out)) hb); clear HB; have HB := n0_; clear n0_; (try clear hb); (try clear hb2); (try clear hk); (try clear hi)) | (go_at_call 58; (with_reducible refine (spec_wbQuote.calls kj12 a1 false _ A37.out).mono ?_); rintro e w44 ⟨rfl, hb⟩; have n0_ := Aside0.mk (below_step (by repeat (first | (with_reducible first | exact HB.out | apply below_alloc | apply pw_below_drewN | apply below_drew1) | exact HB.out)) hb); clear HB; have HB := n0_; clear n0_; (try clear hb); (try clear hb2); (try clear hk); (try clear hi)))
                      go_meet
                      case rel => exact ⟨_, (false), (by first | rfl | (simp; done) | (simp [*]; done)), H', ⟨by have := HJ4.out; have := HJ12.out; first | omega | exact Nat.le_refl _⟩, ⟨by repeat (first | (with_reducible first | exact HB.out | apply below_alloc | apply pw_below_drewN | apply below_drew1) | exact HB.out)⟩⟩
                · replace c32 := Bool.eq_false_iff.mpr c32
                  subst c32
                  have H1 : (spec_wbLetters.j2 kj12 a0 a1 a2 a3 false) = some r := by rw [if_neg (show ¬ (false = true) by decide)] at H; exact H
                  clear H
                  have H := H1
                  clear H1
                  have H' := Aside0.mk H
                  clear H
                  go_wp2_with (first | ((with_reducible refine gate_callee (f := 57) rfl ?_); refine goesL_ (some 33) rfl rfl Try.func57 (by kernel_rfl) rfl #[.int .i64 a0] rfl (by (try simp only [List.map_toArray, List.map_cons, List.map_nil]); first | done | rfl | (simp only [List.length_drop, List.length_take]; rfl)) ?_; (with_reducible refine (spec_wbLetter.calls kj12 a0 false _ A31.out).mono ?_); rintro e w45 ⟨rfl, hb⟩; refine ⟨_, rfl, ?_⟩; have n0_ := Aside0.mk (below_step (by repeat (first | (with_reducible first | exact HB.out | apply below_alloc | apply pw_below_drewN | apply below_drew1) | exact HB.out)) hb); clear HB; have HB := n0_; clear n0_; (try clear hb); (try clear hb2); (try clear hk); (try clear hi)))
                  go_meet
                  case rel => exact ⟨_, (false), (by first | rfl | (simp; done) | (simp [*]; done)), H', ⟨by have := HJ4.out; have := HJ12.out; first | omega | exact Nat.le_refl _⟩, ⟨by repeat (first | (with_reducible first | exact HB.out | apply below_alloc | apply pw_below_drewN | apply below_drew1) | exact HB.out)⟩⟩
              case rest =>
                clear HC30
                try clear c1
                try clear c2
                try clear p2
                try clear c3
                try clear c5
                try clear c7
                try clear c12
                try clear c15
                try clear c16
                try clear c16b0
                try clear c16b1
                try clear c21
                try clear c29
                try clear c32
                try clear c33
                try clear c33b0
                try clear c33b1
                try clear c34
                try clear c38
                try clear p2
                obtain ⟨kq, x31_29, rfl, HA, HJ29, HB⟩ := hcut
                cases kq with
                | zero => exact absurd HA.out (by simp [spec_wbLetters.j2])
                | succ kj29 =>
                  have H := HA.out
                  clear HA
                  simp only [spec_wbLetters.j2] at H
                  by_cases c46 : x31_29 = true
                  · subst c46
                    have H1 : (some true) = some r := by rw [if_pos rfl] at H; exact H
                    clear H
                    have H := H1
                    clear H1
                    obtain rfl := Option.some.inj H
                    go_wp2
                    go_ret
                    exact ⟨by first | rfl | (simp [errW_none, errW_some] <;> rfl) | (simp [*, errW_none, errW_some] <;> rfl), by repeat (first | (with_reducible first | exact HB.out | apply below_alloc | apply pw_below_drewN | apply below_drew1) | exact HB.out)⟩
                  · replace c46 := Bool.eq_false_iff.mpr c46
                    subst c46
                    have H1 : (if a1 = 9 then (spec_wbLetters.j3 kj29 a0 a1 a2 a3 (a2 == 11)) else (spec_wbLetters.j3 kj29 a0 a1 a2 a3 false)) = some r := by rw [if_neg (show ¬ (false = true) by decide)] at H; exact H
                    clear H
                    have H := H1
                    clear H1
                    have HC47 := Aside0.mk H
                    clear H
                    go_upto_region 7 with (fail)
                    go_cut [46] (fun v46 wc => ∃ (kq : Nat) (x46_46 : Bool), v46 = .bool x46_46 ∧ Aside0 (spec_wbLetters.j3 kq a0 a1 a2 a3 x46_46 = some r) ∧ Aside0 (kq ≤ kj29) ∧ Aside0 (Below w.heap.size w wc))
                    case first =>
                      have H := HC47.out
                      clear HC47
                      by_cases c48 : a1 = 9
                      · rw [if_pos c48] at H
                        have c48b0 : (a1 == 9) = true := beq_iff_eq.mpr c48
                        have c48b1 : (a1 != 9) = false := bne_eq_false_iff_eq.mpr c48
                        clear c48
                        (first | rw [c48b0] | (simp only [i64_w, i32_w]; rw [c48b0]) | skip)
                        have H' := Aside0.mk H
                        clear H
                        go_wp2
                        go_meet
                        case rel => exact ⟨_, ((a2 == 11)), (by first | rfl | (simp; done) | (simp [*]; done)), H', ⟨by have := HJ4.out; have := HJ12.out; have := HJ29.out; first | omega | exact Nat.le_refl _⟩, ⟨by repeat (first | (with_reducible first | exact HB.out | apply below_alloc | apply pw_below_drewN | apply below_drew1) | exact HB.out)⟩⟩
                      · rw [if_neg c48] at H
                        have c48b0 : (a1 == 9) = false := beq_eq_false_iff_ne.mpr c48
                        have c48b1 : (a1 != 9) = true := bne_iff_ne.mpr c48
                        (first | rw [c48b0] | (simp only [i64_w, i32_w]; rw [c48b0]) | skip)
                        have H' := Aside0.mk H
                        clear H
                        go_wp2
                        go_meet
                        case rel => exact ⟨_, (false), (by first | rfl | (simp; done) | (simp [*]; done)), H', ⟨by have := HJ4.out; have := HJ12.out; have := HJ29.out; first | omega | exact Nat.le_refl _⟩, ⟨by repeat (first | (with_reducible first | exact HB.out | apply below_alloc | apply pw_below_drewN | apply below_drew1) | exact HB.out)⟩⟩
                    case rest =>
                      clear HC47
                      try clear c1
                      try clear c2
                      try clear p2
                      try clear c3
                      try clear c4
                      try clear c5
                      try clear c7
                      try clear c12
                      try clear c15
                      try clear c16
                      try clear c16b0
                      try clear c16b1
                      try clear c21
                      try clear c29
                      try clear c32
                      try clear c33
                      try clear c33b0
                      try clear c33b1
                      try clear c34
                      try clear c38
                      try clear c46
                      try clear c48
                      try clear c48b0
                      try clear c48b1
                      try clear p2
                      obtain ⟨kq, x46_46, rfl, HA, HJ46, HB⟩ := hcut
                      cases kq with
                      | zero => exact absurd HA.out (by simp [spec_wbLetters.j3])
                      | succ kj46 =>
                        have H := HA.out
                        clear HA
                        simp only [spec_wbLetters.j3] at H
                        by_cases c49 : x46_46 = true
                        · subst c49
                          have H1 : (some true) = some r := by rw [if_pos rfl] at H; exact H
                          clear H
                          have H := H1
                          clear H1
                          obtain rfl := Option.some.inj H
                          go_wp2
                          go_ret
                          exact ⟨by first | rfl | (simp [errW_none, errW_some] <;> rfl) | (simp [*, errW_none, errW_some] <;> rfl), by repeat (first | (with_reducible first | exact HB.out | apply below_alloc | apply pw_below_drewN | apply below_drew1) | exact HB.out)⟩
                        · replace c49 := Bool.eq_false_iff.mpr c49
                          subst c49
                          have H1 : (if a1 = 9 then (if a2 = 12 then (if a3 = 9 then (some true) else (if a0 = 9 then (if a1 = 12 then (some (a2 == 9)) else (some false)) else (some false))) else (if a0 = 9 then (if a1 = 12 then (some (a2 == 9)) else (some false)) else (some false))) else (if a0 = 9 then (if a1 = 12 then (some (a2 == 9)) else (some false)) else (some false))) = some r := by rw [if_neg (show ¬ (false = true) by decide)] at H; exact H
                          clear H
                          have H := H1
                          clear H1
                          by_cases c50 : a1 = 9
                          · rw [if_pos c50] at H
                            have c50b0 : (a1 == 9) = true := beq_iff_eq.mpr c50
                            have c50b1 : (a1 != 9) = false := bne_eq_false_iff_eq.mpr c50
                            clear c50
                            by_cases c51 : a2 = 12
                            · rw [if_pos c51] at H
                              have c51b0 : (a2 == 12) = true := beq_iff_eq.mpr c51
                              have c51b1 : (a2 != 12) = false := bne_eq_false_iff_eq.mpr c51
                              clear c51
                              by_cases c52 : a3 = 9
                              · rw [if_pos c52] at H
                                have c52b0 : (a3 == 9) = true := beq_iff_eq.mpr c52
                                have c52b1 : (a3 != 9) = false := bne_eq_false_iff_eq.mpr c52
                                clear c52
                                obtain rfl := Option.some.inj H
                                go_wp2
                                go_ret
                                exact ⟨by first | rfl | (simp [errW_none, errW_some] <;> rfl) | (simp [*, errW_none, errW_some] <;> rfl), by repeat (first | (with_reducible first | exact HB.out | apply below_alloc | apply pw_below_drewN | apply below_drew1) | exact HB.out)⟩
                              · rw [if_neg c52] at H
                                have c52b0 : (a3 == 9) = false := beq_eq_false_iff_ne.mpr c52
                                have c52b1 : (a3 != 9) = true := bne_iff_ne.mpr c52
                                by_cases c53 : a0 = 9
                                · rw [if_pos c53] at H
                                  have c53b0 : (a0 == 9) = true := beq_iff_eq.mpr c53
                                  have c53b1 : (a0 != 9) = false := bne_eq_false_iff_eq.mpr c53
                                  clear c53
                                  by_cases c54 : a1 = 12
                                  · rw [if_pos c54] at H
                                    have c54b0 : (a1 == 12) = true := beq_iff_eq.mpr c54
                                    have c54b1 : (a1 != 12) = false := bne_eq_false_iff_eq.mpr c54
                                    clear c54
                                    obtain rfl := Option.some.inj H
                                    go_wp2
                                    go_ret
                                    exact ⟨by first | rfl | (simp [errW_none, errW_some] <;> rfl) | (simp [*, errW_none, errW_some] <;> rfl), by repeat (first | (with_reducible first | exact HB.out | apply below_alloc | apply pw_below_drewN | apply below_drew1) | exact HB.out)⟩
                                  · rw [if_neg c54] at H
                                    have c54b0 : (a1 == 12) = false := beq_eq_false_iff_ne.mpr c54
                                    have c54b1 : (a1 != 12) = true := bne_iff_ne.mpr c54
                                    obtain rfl := Option.some.inj H
                                    go_wp2
                                    go_ret
                                    exact ⟨by first | rfl | (simp [errW_none, errW_some] <;> rfl) | (simp [*, errW_none, errW_some] <;> rfl), by repeat (first | (with_reducible first | exact HB.out | apply below_alloc | apply pw_below_drewN | apply below_drew1) | exact HB.out)⟩
                                · rw [if_neg c53] at H
                                  have c53b0 : (a0 == 9) = false := beq_eq_false_iff_ne.mpr c53
                                  have c53b1 : (a0 != 9) = true := bne_iff_ne.mpr c53
                                  obtain rfl := Option.some.inj H
                                  go_wp2
                                  go_ret
                                  exact ⟨by first | rfl | (simp [errW_none, errW_some] <;> rfl) | (simp [*, errW_none, errW_some] <;> rfl), by repeat (first | (with_reducible first | exact HB.out | apply below_alloc | apply pw_below_drewN | apply below_drew1) | exact HB.out)⟩
                            · rw [if_neg c51] at H
                              have c51b0 : (a2 == 12) = false := beq_eq_false_iff_ne.mpr c51
                              have c51b1 : (a2 != 12) = true := bne_iff_ne.mpr c51
                              by_cases c55 : a0 = 9
                              · rw [if_pos c55] at H
                                have c55b0 : (a0 == 9) = true := beq_iff_eq.mpr c55
                                have c55b1 : (a0 != 9) = false := bne_eq_false_iff_eq.mpr c55
                                clear c55
                                by_cases c56 : a1 = 12
                                · rw [if_pos c56] at H
                                  have c56b0 : (a1 == 12) = true := beq_iff_eq.mpr c56
                                  have c56b1 : (a1 != 12) = false := bne_eq_false_iff_eq.mpr c56
                                  clear c56
                                  obtain rfl := Option.some.inj H
                                  go_wp2
                                  go_ret
                                  exact ⟨by first | rfl | (simp [errW_none, errW_some] <;> rfl) | (simp [*, errW_none, errW_some] <;> rfl), by repeat (first | (with_reducible first | exact HB.out | apply below_alloc | apply pw_below_drewN | apply below_drew1) | exact HB.out)⟩
                                · rw [if_neg c56] at H
                                  have c56b0 : (a1 == 12) = false := beq_eq_false_iff_ne.mpr c56
                                  have c56b1 : (a1 != 12) = true := bne_iff_ne.mpr c56
                                  obtain rfl := Option.some.inj H
                                  go_wp2
                                  go_ret
                                  exact ⟨by first | rfl | (simp [errW_none, errW_some] <;> rfl) | (simp [*, errW_none, errW_some] <;> rfl), by repeat (first | (with_reducible first | exact HB.out | apply below_alloc | apply pw_below_drewN | apply below_drew1) | exact HB.out)⟩
                              · rw [if_neg c55] at H
                                have c55b0 : (a0 == 9) = false := beq_eq_false_iff_ne.mpr c55
                                have c55b1 : (a0 != 9) = true := bne_iff_ne.mpr c55
                                obtain rfl := Option.some.inj H
                                go_wp2
                                go_ret
                                exact ⟨by first | rfl | (simp [errW_none, errW_some] <;> rfl) | (simp [*, errW_none, errW_some] <;> rfl), by repeat (first | (with_reducible first | exact HB.out | apply below_alloc | apply pw_below_drewN | apply below_drew1) | exact HB.out)⟩
                          · rw [if_neg c50] at H
                            have c50b0 : (a1 == 9) = false := beq_eq_false_iff_ne.mpr c50
                            have c50b1 : (a1 != 9) = true := bne_iff_ne.mpr c50
                            by_cases c57 : a0 = 9
                            · rw [if_pos c57] at H
                              have c57b0 : (a0 == 9) = true := beq_iff_eq.mpr c57
                              have c57b1 : (a0 != 9) = false := bne_eq_false_iff_eq.mpr c57
                              clear c57
                              by_cases c58 : a1 = 12
                              · rw [if_pos c58] at H
                                have c58b0 : (a1 == 12) = true := beq_iff_eq.mpr c58
                                have c58b1 : (a1 != 12) = false := bne_eq_false_iff_eq.mpr c58
                                clear c58
                                obtain rfl := Option.some.inj H
                                go_wp2
                                go_ret
                                exact ⟨by first | rfl | (simp [errW_none, errW_some] <;> rfl) | (simp [*, errW_none, errW_some] <;> rfl), by repeat (first | (with_reducible first | exact HB.out | apply below_alloc | apply pw_below_drewN | apply below_drew1) | exact HB.out)⟩
                              · rw [if_neg c58] at H
                                have c58b0 : (a1 == 12) = false := beq_eq_false_iff_ne.mpr c58
                                have c58b1 : (a1 != 12) = true := bne_iff_ne.mpr c58
                                obtain rfl := Option.some.inj H
                                go_wp2
                                go_ret
                                exact ⟨by first | rfl | (simp [errW_none, errW_some] <;> rfl) | (simp [*, errW_none, errW_some] <;> rfl), by repeat (first | (with_reducible first | exact HB.out | apply below_alloc | apply pw_below_drewN | apply below_drew1) | exact HB.out)⟩
                            · rw [if_neg c57] at H
                              have c57b0 : (a0 == 9) = false := beq_eq_false_iff_ne.mpr c57
                              have c57b1 : (a0 != 9) = true := bne_iff_ne.mpr c57
                              obtain rfl := Option.some.inj H
                              go_wp2
                              go_ret
                              exact ⟨by first | rfl | (simp [errW_none, errW_some] <;> rfl) | (simp [*, errW_none, errW_some] <;> rfl), by repeat (first | (with_reducible first | exact HB.out | apply below_alloc | apply pw_below_drewN | apply below_drew1) | exact HB.out)⟩

end Go.Proofs.Ytnanfoahimccpaa.Wd
