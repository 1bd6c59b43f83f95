/- Functions of the translation as Lean functions, and their walks: lines written by a program, a turned copy of the kit's print. -/
import Derived.Test.YtnanfoahimccpaaWdx0
namespace Go.Proofs.Ytnanfoahimccpaa.Wd
open Go.RowKit Go.Proofs.YtnanfoahimccpaaW.PrintWords Go.Proofs.YtnanfoahimccpaaW.PrintLast Go.Proofs.YtnanfoahimccpaaW.PrintMore
attribute [local go_sem] max2_int min2_int max_two min_two max_three min_three max_four min_four   -- for this text's walks alone
set_option linter.unusedVariables false
set_option linter.unusedSimpArgs false

/-! ### spec_among: function 42 -/
def spec_among.l0 : Nat → Int → List Int → Int → Int → Option (Bool)
  | 0, _, _, _, _ => none
  | k + 1, x0, x7, x8, x9 => if x9 < x8 then (if 0 ≤ x9 then (if x9 < (x7.length : Int) then (if x0 = (rd x7 x9) then (some true) else (spec_among.l0 k x0 x7 x8 (wrap64 (x9 + 1)))) else (none)) else (none)) else (some false)
def spec_among.f (k : Nat) (a0 : Int) (l1 : List Int) : Option (Bool) := spec_among.l0 k a0 l1 (l1.length : Int) 0
theorem spec_among.mono_l : ∀ k, (∀ y0 y1 y2 y3, LeO (spec_among.l0 k y0 y1 y2 y3) (spec_among.l0 (k + 1) y0 y1 y2 y3))
  | 0 => fun _ _ _ _ r h => by simp [spec_among.l0] at h
  | k + 1 => by
    have ih0 := spec_among.mono_l k
    · intro y0 y1 y2 y3
      unfold spec_among.l0
      repeat' first
      | (with_reducible exact ih0 _ _ _ _)
      | (with_reducible exact LeO.refl _)
      | (with_reducible exact LeO.none _)
      | (with_reducible refine LeO.ite ?_ ?_)
      | (with_reducible refine LeO.bind ?_ (fun _ => ?_))
      | exact ih0 _ _ _ _
      | exact LeO.none _
      | refine LeO.ite ?_ ?_
      | refine LeO.bind ?_ (fun _ => ?_)
theorem spec_among.mono : ∀ a0 a1 k, LeO (spec_among.f k a0 a1) (spec_among.f (k + 1) a0 a1) := by
  intro a0 a1 k
  have ih0 := spec_among.mono_l k
  unfold spec_among.f
  repeat' first
      | (with_reducible exact ih0 _ _ _ _)
      | (with_reducible exact LeO.refl _)
      | (with_reducible exact LeO.none _)
      | (with_reducible refine LeO.ite ?_ ?_)
      | (with_reducible refine LeO.bind ?_ (fun _ => ?_))
      | exact ih0 _ _ _ _
      | exact LeO.none _
      | refine LeO.ite ?_ ?_
      | refine LeO.bind ?_ (fun _ => ?_)
set_option maxHeartbeats 8000000 in
set_option maxRecDepth 100000 in
theorem spec_among.calls (k : Nat) (a0 : Int) (A1 : Option Addr) (c1 : Nat) (l1 : List Int) (r : Bool) (w : World) (hr1 : Kd.C (Kd.int .i64) w A1 l1.length l1) (hc1 : l1.length ≤ c1) (h : spec_among.f k a0 l1 = some r) :
    Calls Try.prog 42 #[.int .i64 a0, .slice A1 l1.length c1] w fun e w' => e = .returned (.bool r) ∧ Drawn0 w w' := by
  have HR1 := Aside0.mk hr1
  have HC1 := Aside0.mk hc1
  clear hr1 hc1
  have H : (spec_among.l0 k a0 l1 (l1.length : Int) 0) = some r := h
  clear h
  have H' := Aside0.mk H
  clear H
  go_enter Try.func42, Try.ntmps42
  go_wp2
  go_loopg [9] k (fun kq v9 w' => ∃ (x9_1 : Int), v9 = .int .i64 x9_1 ∧ Aside0 (spec_among.l0 kq a0 l1 (l1.length : Int) x9_1 = some r) ∧ Aside0 (kq ≤ k) ∧ Drawn0 w w')
  case atStart => exact ⟨(0), (by first | rfl | (simp; done) | (simp [*]; done)), H', ⟨Nat.le_refl _⟩, by repeat (first | exact Drawn0.refl _ | apply Drawn0.step)⟩
  case round =>
    clear H'
    try clear c1
    try clear p2
    obtain ⟨x9_1, rfl, HA, HK1, ⟨m1, rfl⟩⟩ := hrel
    cases gk with
    | zero => exact absurd HA.out (by simp [spec_among.l0])
    | succ k1 =>
      have H := HA.out
      clear HA
      simp only [spec_among.l0] at H
      by_cases c3 : x9_1 < (l1.length : Int)
      · rw [if_pos c3] at H
        have c3b0 : decide (x9_1 < (l1.length : Int)) = true := decide_eq_true c3
        clear c3
        by_cases c4 : 0 ≤ x9_1
        · rw [if_pos c4] at H
          have c4b0 : decide (0 ≤ x9_1) = true := decide_eq_true c4
          clear c4
          by_cases c5 : x9_1 < (l1.length : Int)
          · rw [if_pos c5] at H
            have c5b0 : decide (x9_1 < (l1.length : Int)) = true := decide_eq_true c5
            clear c5
            by_cases c6 : a0 = (rd l1 x9_1)
            · rw [if_pos c6] at H
              have c6b0 : (a0 == (rd l1 x9_1)) = true := beq_iff_eq.mpr c6
              have c6b1 : (a0 != (rd l1 x9_1)) = false := bne_eq_false_iff_eq.mpr c6
              clear c6
              obtain rfl := Option.some.inj H
              have p101 : 0 ≤ (x9_1 : Int) := of_decide_eq_true (by first | (with_reducible assumption) | assumption)
              have q101 : x9_1 < (l1.length : Int) := of_decide_eq_true (by first | (with_reducible assumption) | assumption)
              obtain ⟨ad101, e101, hx101_0⟩ := Kd.at_int HR1.out x9_1 p101 q101
              cases e101
              replace p101 := eq_true p101
              replace q101 := eq_true q101
              go_wp2
              go_ret
              exact ⟨by first | rfl | (simp; done) | (simp [*]; done), by repeat (first | exact Drawn0.refl _ | apply Drawn0.step)⟩
            · rw [if_neg c6] at H
              have c6b0 : (a0 == (rd l1 x9_1)) = false := beq_eq_false_iff_ne.mpr c6
              have c6b1 : (a0 != (rd l1 x9_1)) = true := bne_iff_ne.mpr c6
              have H' := Aside0.mk H
              clear H
              have p101 : 0 ≤ (x9_1 : Int) := of_decide_eq_true (by first | (with_reducible assumption) | assumption)
              have q101 : x9_1 < (l1.length : Int) := of_decide_eq_true (by first | (with_reducible assumption) | assumption)
              obtain ⟨ad101, e101, hx101_0⟩ := Kd.at_int HR1.out x9_1 p101 q101
              cases e101
              replace p101 := eq_true p101
              replace q101 := eq_true q101
              go_wp2
              go_roundg k1
              case measure => have := HK1.out; omega
              case rel => exact ⟨(wrap64 (x9_1 + 1)), (by first | rfl | (simp; done) | (simp [*]; done)), H', ⟨by have := HK1.out; omega⟩, by repeat (first | exact Drawn0.refl _ | apply Drawn0.step)⟩
          · rw [if_neg c5] at H
            exact absurd H (by simp)
        · rw [if_neg c4] at H
          exact absurd H (by simp)
      · rw [if_neg c3] at H
        have c3b0 : decide (x9_1 < (l1.length : Int)) = false := decide_eq_false c3
        clear c3
        obtain rfl := Option.some.inj H
        go_wp2
        go_ret
        exact ⟨by first | rfl | (simp; done) | (simp [*]; done), by repeat (first | exact Drawn0.refl _ | apply Drawn0.step)⟩

/-! ### spec_wbLetter: function 57 -/
def spec_wbLetter.f (k : Nat) (a0 : Int) : Option (Bool) := (spec_among.f k a0 (([10, 9] : List Int))).bind fun t105 => (some t105)
theorem spec_wbLetter.mono : ∀ a0 k, LeO (spec_wbLetter.f k a0) (spec_wbLetter.f (k + 1) a0) := by
  intro a0 k
  unfold spec_wbLetter.f
  repeat' first
      | (with_reducible exact spec_among.mono _ _ _)
      | (with_reducible exact LeO.refl _)
      | (with_reducible exact LeO.none _)
      | (with_reducible refine LeO.ite ?_ ?_)
      | (with_reducible refine LeO.bind ?_ (fun _ => ?_))
      | exact spec_among.mono _ _ _
      | exact LeO.none _
      | refine LeO.ite ?_ ?_
      | refine LeO.bind ?_ (fun _ => ?_)
set_option maxHeartbeats 8000000 in
set_option maxRecDepth 100000 in
theorem spec_wbLetter.calls (k : Nat) (a0 : Int) (r : Bool) (w : World) (h : spec_wbLetter.f k a0 = some r) :
    Calls Try.prog 57 #[.int .i64 a0] w fun e w' => e = .returned (.bool r) ∧ Below w.heap.size w w' := by
  have HB := Aside0.mk (Below.refl w.heap.size w)
  have H : ((spec_among.f k a0 (([10, 9] : List Int))).bind fun t105 => (some t105)) = some r := h
  clear h
  obtain ⟨y102, hy102⟩ : ∃ y_ : List Int, y_ = (([10, 9] : List Int)) := ⟨_, rfl⟩
  replace H : ((spec_among.f k a0 y102).bind fun t105 => (some t105)) = some r := by first | (rw [hy102]; with_reducible exact H) | (have H2_ := (Option.bind_some _ _).symm.trans H; rw [hy102]; with_reducible exact H2_) | (have H2_ := (Option.bind_some _ _).symm.trans H; with_reducible exact H2_) | with_reducible exact H | (rw [hy102]; exact H) | exact H
  have Ny102 := Aside0.mk hy102
  clear hy102
  replace H := Option.bind_eq_some_iff.mp H
  obtain ⟨t105, A20, H⟩ := H
  replace H : (some t105) = some r := H
  have A2 := Aside0.mk A20
  clear A20
  obtain rfl := Option.some.inj H
  go_enter Try.func57, Try.ntmps57
  go_wp2_with (first | ((with_reducible refine gate_dst (N := 4) rfl ?_); refine Kd.R_lit (Kd.int .i64) _ 3 ?hg (N := 4) ?hd (xs := ([10, 9] : List Int)) (inner := [.int .i64 10, .int .i64 9]) (ok := fun _ => True) (okp := fun _ => True) ?hr ?hp (fun _ hk => hk) trivial (Below.refl _ _) (Nat.le_refl _) (by simp) ?_; (case hd => rfl); (case hg => rfl); (case hr => first | (go_simp; done) | (go_simp; rfl)); (case hp => exact (Reps.one (show Kd.M (Kd.int .i64) _ _ _ 10 [.int .i64 10] from rfl) (Reps.one (show Kd.M (Kd.int .i64) _ _ _ 9 [.int .i64 9] from rfl) (Reps.none _ _)))); intro v103 w3 ho4 hb hg_ hnew_; clear hg_ hnew_; (first | rw [← Ny102.out] at ho4 | (simp only [Int.reduceToNat] at ho4; rw [← Ny102.out] at ho4)); have n0_ := Aside0.mk (Kd.R_lower ho4 (below_size (by repeat (first | (with_reducible first | exact HB.out | apply below_alloc | apply pw_below_drewN | apply below_drew1) | exact HB.out)))); have n1_ := Aside0.mk (below_step (by repeat (first | (with_reducible first | exact HB.out | apply below_alloc | apply pw_below_drewN | apply below_drew1) | exact HB.out)) hb); clear HB; have HO104 := n0_; have HB := n1_; clear n0_ n1_; clear hb ho4; obtain ⟨Ao5, co5, eo5⟩ := Kd.R_slice HO104.out; subst eo5) | ((with_reducible refine gate_callee (f := 42) rfl ?_); refine goesL_ (some 5) rfl rfl Try.func42 (by kernel_rfl) rfl #[.int .i64 a0, .slice Ao5 y102.length co5] rfl (by (try simp only [List.map_toArray, List.map_cons, List.map_nil]); first | done | rfl | (simp only [List.length_drop, List.length_take]; rfl)) ?_; (with_reducible refine (spec_among.calls k a0 _ _ y102 t105 _ ?side1 ?side2 A2.out).mono ?_); (case side1 => repeat (first | exact (Kd.R_reads' HO104.out).2.2 | (with_reducible refine Kd.C_alloc ?_ _) | (with_reducible refine Kd.C_drewN ?_ _) | (with_reducible refine Kd.C_drew ?_))); (case side2 => exact (Kd.R_reads' HO104.out).2.1); rintro e w' ⟨rfl, ⟨nd, rfl⟩⟩; refine ⟨_, rfl, ?_⟩))
  go_ret
  exact ⟨by first | rfl | (simp [errW_none, errW_some] <;> rfl) | (simp [*, errW_none, errW_some] <;> rfl), by repeat (first | (with_reducible first | exact HB.out | apply below_alloc | apply pw_below_drewN | apply below_drew1) | exact HB.out)⟩

/-! ### spec_wbWide_1: function 59 -/
def spec_wbWide_1.f (k : Nat) (a0 : Int) : Option (Bool) := (spec_wbLetter.f k a0).bind fun t106 => (if t106 = true then (some true) else ((spec_among.f k a0 (([16, 8] : List Int))).bind fun t110 => (some t110)))
theorem spec_wbWide_1.mono : ∀ a0 k, LeO (spec_wbWide_1.f k a0) (spec_wbWide_1.f (k + 1) a0) := by
  intro a0 k
  unfold spec_wbWide_1.f
  repeat' first
      | (with_reducible exact spec_among.mono _ _ _)
      | (with_reducible exact spec_wbLetter.mono _ _)
      | (with_reducible exact LeO.refl _)
      | (with_reducible exact LeO.none _)
      | (with_reducible refine LeO.ite ?_ ?_)
      | (with_reducible refine LeO.bind ?_ (fun _ => ?_))
      | exact spec_among.mono _ _ _
      | exact spec_wbLetter.mono _ _
      | exact LeO.none _
      | refine LeO.ite ?_ ?_
      | refine LeO.bind ?_ (fun _ => ?_)
set_option maxHeartbeats 8000000 in
set_option maxRecDepth 100000 in
theorem spec_wbWide_1.calls (k : Nat) (a0 : Int) (r : Bool) (w : World) (h : spec_wbWide_1.f k a0 = some r) :
    Calls Try.prog 59 #[.int .i64 a0] w fun e w' => e = .returned (.bool r) ∧ Below w.heap.size w w' := by
  have HB := Aside0.mk (Below.refl w.heap.size w)
  have H : ((spec_wbLetter.f k a0).bind fun t106 => (if t106 = true then (some true) else ((spec_among.f k a0 (([16, 8] : List Int))).bind fun t110 => (some t110)))) = some r := h
  clear h
  replace H := Option.bind_eq_some_iff.mp H
  obtain ⟨t106, A20, H⟩ := H
  replace H : (if t106 = true then (some true) else ((spec_among.f k a0 (([16, 8] : List Int))).bind fun t110 => (some t110))) = some r := H
  have A2 := Aside0.mk A20
  clear A20
  by_cases c3 : t106 = true
  · subst c3
    have H1 : (some true) = some r := by rw [if_pos rfl] at H; exact H
    clear H
    have H := H1
    clear H1
    obtain rfl := Option.some.inj H
    go_enter Try.func59, Try.ntmps59
    go_wp2_with (first | ((with_reducible refine gate_callee (f := 57) rfl ?_); refine goesL_ (some 4) rfl rfl Try.func57 (by kernel_rfl) rfl #[.int .i64 a0] rfl (by (try simp only [List.map_toArray, List.map_cons, List.map_nil]); first | done | rfl | (simp only [List.length_drop, List.length_take]; rfl)) ?_; (with_reducible refine (spec_wbLetter.calls k a0 true _ A2.out).mono ?_); rintro e w4 ⟨rfl, hb⟩; refine ⟨_, rfl, ?_⟩; have n0_ := Aside0.mk (below_step (by repeat (first | (with_reducible first | exact HB.out | apply below_alloc | apply pw_below_drewN | apply below_drew1) | exact HB.out)) hb); clear HB; have HB := n0_; clear n0_; (try clear hb); (try clear hb2); (try clear hk); (try clear hi)))
    go_ret
    exact ⟨by first | rfl | (simp [errW_none, errW_some] <;> rfl) | (simp [*, errW_none, errW_some] <;> rfl), by repeat (first | (with_reducible first | exact HB.out | apply below_alloc | apply pw_below_drewN | apply below_drew1) | exact HB.out)⟩
  · replace c3 := Bool.eq_false_iff.mpr c3
    subst c3
    have H1 : ((spec_among.f k a0 (([16, 8] : List Int))).bind fun t110 => (some t110)) = some r := by rw [if_neg (show ¬ (false = true) by decide)] at H; exact H
    clear H
    have H := H1
    clear H1
    obtain ⟨y107, hy107⟩ : ∃ y_ : List Int, y_ = (([16, 8] : List Int)) := ⟨_, rfl⟩
    replace H : ((spec_among.f k a0 y107).bind fun t110 => (some t110)) = some r := by first | (rw [hy107]; with_reducible exact H) | (have H2_ := (Option.bind_some _ _).symm.trans H; rw [hy107]; with_reducible exact H2_) | (have H2_ := (Option.bind_some _ _).symm.trans H; with_reducible exact H2_) | with_reducible exact H | (rw [hy107]; exact H) | exact H
    have Ny107 := Aside0.mk hy107
    clear hy107
    replace H := Option.bind_eq_some_iff.mp H
    obtain ⟨t110, A50, H⟩ := H
    replace H : (some t110) = some r := H
    have A5 := Aside0.mk A50
    clear A50
    obtain rfl := Option.some.inj H
    go_enter Try.func59, Try.ntmps59
    go_wp2_with (first | ((with_reducible refine gate_callee (f := 57) rfl ?_); refine goesL_ (some 4) rfl rfl Try.func57 (by kernel_rfl) rfl #[.int .i64 a0] rfl (by (try simp only [List.map_toArray, List.map_cons, List.map_nil]); first | done | rfl | (simp only [List.length_drop, List.length_take]; rfl)) ?_; (with_reducible refine (spec_wbLetter.calls k a0 false _ A2.out).mono ?_); rintro e w6 ⟨rfl, hb⟩; refine ⟨_, rfl, ?_⟩; have n0_ := Aside0.mk (below_step (by repeat (first | (with_reducible first | exact HB.out | apply below_alloc | apply pw_below_drewN | apply below_drew1) | exact HB.out)) hb); clear HB; have HB := n0_; clear n0_; (try clear hb); (try clear hb2); (try clear hk); (try clear hi)) | ((with_reducible refine gate_dst (N := 7) rfl ?_); (try (refine gate_guard (by rfl) ?_; dsimp only)); refine Kd.R_lit (Kd.int .i64) _ 3 ?hg (N := 7) ?hd (xs := ([16, 8] : List Int)) (inner := [.int .i64 16, .int .i64 8]) (ok := fun _ => True) (okp := fun _ => True) ?hr ?hp (fun _ hk => hk) trivial (Below.refl _ _) (Nat.le_refl _) (by simp) ?_; (case hd => rfl); (case hg => rfl); (case hr => first | (go_simp; done) | (go_simp; rfl)); (case hp => exact (Reps.one (show Kd.M (Kd.int .i64) _ _ _ 16 [.int .i64 16] from rfl) (Reps.one (show Kd.M (Kd.int .i64) _ _ _ 8 [.int .i64 8] from rfl) (Reps.none _ _)))); intro v108 w7 ho8 hb hg_ hnew_; clear hg_ hnew_; (first | rw [← Ny107.out] at ho8 | (simp only [Int.reduceToNat] at ho8; rw [← Ny107.out] at ho8)); have n0_ := Aside0.mk (Kd.R_lower ho8 (below_size (by repeat (first | (with_reducible first | exact HB.out | apply below_alloc | apply pw_below_drewN | apply below_drew1) | exact HB.out)))); have n1_ := Aside0.mk (below_step (by repeat (first | (with_reducible first | exact HB.out | apply below_alloc | apply pw_below_drewN | apply below_drew1) | exact HB.out)) hb); clear HB; have HO109 := n0_; have HB := n1_; clear n0_ n1_; clear hb ho8; obtain ⟨Ao9, co9, eo9⟩ := Kd.R_slice HO109.out; subst eo9) | (go_at_call 42; (with_reducible refine (spec_among.calls k a0 _ _ y107 t110 _ ?side1 ?side2 A5.out).mono ?_); (case side1 => repeat (first | exact (Kd.R_reads' HO109.out).2.2 | (with_reducible refine Kd.C_alloc ?_ _) | (with_reducible refine Kd.C_drewN ?_ _) | (with_reducible refine Kd.C_drew ?_))); (case side2 => exact (Kd.R_reads' HO109.out).2.1); rintro e w' ⟨rfl, ⟨nd, rfl⟩⟩))
    go_ret
    exact ⟨by first | rfl | (simp [errW_none, errW_some] <;> rfl) | (simp [*, errW_none, errW_some] <;> rfl), by repeat (first | (with_reducible first | exact HB.out | apply below_alloc | apply pw_below_drewN | apply below_drew1) | exact HB.out)⟩

/-- THE ONE PURE STATEMENT of spec_wbWide_1: yours. -/
def spec_wbWide_1.Pure : Prop := ∀ (a0 : Int), (Lit.int .i64 a0).wf = true → ∃ k, spec_wbWide_1.f k a0 = some true
theorem spec_wbWide_1.walk (P : spec_wbWide_1.Pure) (a0 : Int) (w : World) (w0 : (Lit.int .i64 a0).wf = true) :
    Calls Try.prog 59 #[.int .i64 a0] w fun e w' => e = .returned (.bool true) ∧ Below w.heap.size w w' := by
  obtain ⟨k, h⟩ := P a0 w0
  refine (spec_wbWide_1.calls k a0 true w h).mono ?_
  rintro e w' ⟨rfl, hd⟩
  exact ⟨rfl, hd⟩

/-! ### spec_wbMute: function 30 -/
def spec_wbMute.f (k : Nat) (a0 : Int) : Option (Bool) := (spec_among.f k a0 (([4, 6, 5] : List Int))).bind fun t114 => (some t114)
theorem spec_wbMute.mono : ∀ a0 k, LeO (spec_wbMute.f k a0) (spec_wbMute.f (k + 1) a0) := by
  intro a0 k
  unfold spec_wbMute.f
  repeat' first
      | (with_reducible exact spec_among.mono _ _ _)
      | (with_reducible exact LeO.refl _)
      | (with_reducible exact LeO.none _)
      | (with_reducible refine LeO.ite ?_ ?_)
      | (with_reducible refine LeO.bind ?_ (fun _ => ?_))
      | exact spec_among.mono _ _ _
      | exact LeO.none _
      | refine LeO.ite ?_ ?_
      | refine LeO.bind ?_ (fun _ => ?_)
set_option maxHeartbeats 8000000 in
set_option maxRecDepth 100000 in
theorem spec_wbMute.calls (k : Nat) (a0 : Int) (r : Bool) (w : World) (h : spec_wbMute.f k a0 = some r) :
    Calls Try.prog 30 #[.int .i64 a0] w fun e w' => e = .returned (.bool r) ∧ Below w.heap.size w w' := by
  have HB := Aside0.mk (Below.refl w.heap.size w)
  have H : ((spec_among.f k a0 (([4, 6, 5] : List Int))).bind fun t114 => (some t114)) = some r := h
  clear h
  obtain ⟨y111, hy111⟩ : ∃ y_ : List Int, y_ = (([4, 6, 5] : List Int)) := ⟨_, rfl⟩
  replace H : ((spec_among.f k a0 y111).bind fun t114 => (some t114)) = some r := by first | (rw [hy111]; with_reducible exact H) | (have H2_ := (Option.bind_some _ _).symm.trans H; rw [hy111]; with_reducible exact H2_) | (have H2_ := (Option.bind_some _ _).symm.trans H; with_reducible exact H2_) | with_reducible exact H | (rw [hy111]; exact H) | exact H
  have Ny111 := Aside0.mk hy111
  clear hy111
  replace H := Option.bind_eq_some_iff.mp H
  obtain ⟨t114, A20, H⟩ := H
  replace H : (some t114) = some r := H
  have A2 := Aside0.mk A20
  clear A20
  obtain rfl := Option.some.inj H
  go_enter Try.func30, Try.ntmps30
  go_wp2_with (first | ((with_reducible refine gate_dst (N := 4) rfl ?_); refine Kd.R_lit (Kd.int .i64) _ 3 ?hg (N := 4) ?hd (xs := ([4, 6, 5] : List Int)) (inner := [.int .i64 4, .int .i64 6, .int .i64 5]) (ok := fun _ => True) (okp := fun _ => True) ?hr ?hp (fun _ hk => hk) trivial (Below.refl _ _) (Nat.le_refl _) (by simp) ?_; (case hd => rfl); (case hg => rfl); (case hr => first | (go_simp; done) | (go_simp; rfl)); (case hp => exact (Reps.one (show Kd.M (Kd.int .i64) _ _ _ 4 [.int .i64 4] from rfl) (Reps.one (show Kd.M (Kd.int .i64) _ _ _ 6 [.int .i64 6] from rfl) (Reps.one (show Kd.M (Kd.int .i64) _ _ _ 5 [.int .i64 5] from rfl) (Reps.none _ _))))); intro v112 w3 ho4 hb hg_ hnew_; clear hg_ hnew_; (first | rw [← Ny111.out] at ho4 | (simp only [Int.reduceToNat] at ho4; rw [← Ny111.out] at ho4)); have n0_ := Aside0.mk (Kd.R_lower ho4 (below_size (by repeat (first | (with_reducible first | exact HB.out | apply below_alloc | apply pw_below_drewN | apply below_drew1) | exact HB.out)))); have n1_ := Aside0.mk (below_step (by repeat (first | (with_reducible first | exact HB.out | apply below_alloc | apply pw_below_drewN | apply below_drew1) | exact HB.out)) hb); clear HB; have HO113 := n0_; have HB := n1_; clear n0_ n1_; clear hb ho4; obtain ⟨Ao5, co5, eo5⟩ := Kd.R_slice HO113.out; subst eo5) | ((with_reducible refine gate_callee (f := 42) rfl ?_); refine goesL_ (some 5) rfl rfl Try.func42 (by kernel_rfl) rfl #[.int .i64 a0, .slice Ao5 y111.length co5] rfl (by (try simp only [List.map_toArray, List.map_cons, List.map_nil]); first | done | rfl | (simp only [List.length_drop, List.length_take]; rfl)) ?_; (with_reducible refine (spec_among.calls k a0 _ _ y111 t114 _ ?side1 ?side2 A2.out).mono ?_); (case side1 => repeat (first | exact (Kd.R_reads' HO113.out).2.2 | (with_reducible refine Kd.C_alloc ?_ _) | (with_reducible refine Kd.C_drewN ?_ _) | (with_reducible refine Kd.C_drew ?_))); (case side2 => exact (Kd.R_reads' HO113.out).2.1); rintro e w' ⟨rfl, ⟨nd, rfl⟩⟩; refine ⟨_, rfl, ?_⟩))
  go_ret
  exact ⟨by first | rfl | (simp [errW_none, errW_some] <;> rfl) | (simp [*, errW_none, errW_some] <;> rfl), by repeat (first | (with_reducible first | exact HB.out | apply below_alloc | apply pw_below_drewN | apply below_drew1) | exact HB.out)⟩

/-! ### spec_wbNewline: function 55 -/
def spec_wbNewline.f (k : Nat) (a0 : Int) : Option (Bool) := (spec_among.f k a0 (([1, 2, 3] : List Int))).bind fun t118 => (some t118)
theorem spec_wbNewline.mono : ∀ a0 k, LeO (spec_wbNewline.f k a0) (spec_wbNewline.f (k + 1) a0) := by
  intro a0 k
  unfold spec_wbNewline.f
  repeat' first
      | (with_reducible exact spec_among.mono _ _ _)
      | (with_reducible exact LeO.refl _)
      | (with_reducible exact LeO.none _)
      | (with_reducible refine LeO.ite ?_ ?_)
      | (with_reducible refine LeO.bind ?_ (fun _ => ?_))
      | exact spec_among.mono _ _ _
      | exact LeO.none _
      | refine LeO.ite ?_ ?_
      | refine LeO.bind ?_ (fun _ => ?_)
set_option maxHeartbeats 8000000 in
set_option maxRecDepth 100000 in
theorem spec_wbNewline.calls (k : Nat) (a0 : Int) (r : Bool) (w : World) (h : spec_wbNewline.f k a0 = some r) :
    Calls Try.prog 55 #[.int .i64 a0] w fun e w' => e = .returned (.bool r) ∧ Below w.heap.size w w' := by
  have HB := Aside0.mk (Below.refl w.heap.size w)
  have H : ((spec_among.f k a0 (([1, 2, 3] : List Int))).bind fun t118 => (some t118)) = some r := h
  clear h
  obtain ⟨y115, hy115⟩ : ∃ y_ : List Int, y_ = (([1, 2, 3] : List Int)) := ⟨_, rfl⟩
  replace H : ((spec_among.f k a0 y115).bind fun t118 => (some t118)) = some r := by first | (rw [hy115]; with_reducible exact H) | (have H2_ := (Option.bind_some _ _).symm.trans H; rw [hy115]; with_reducible exact H2_) | (have H2_ := (Option.bind_some _ _).symm.trans H; with_reducible exact H2_) | with_reducible exact H | (rw [hy115]; exact H) | exact H
  have Ny115 := Aside0.mk hy115
  clear hy115
  replace H := Option.bind_eq_some_iff.mp H
  obtain ⟨t118, A20, H⟩ := H
  replace H : (some t118) = some r := H
  have A2 := Aside0.mk A20
  clear A20
  obtain rfl := Option.some.inj H
  go_enter Try.func55, Try.ntmps55
  go_wp2_with (first | ((with_reducible refine gate_dst (N := 4) rfl ?_); refine Kd.R_lit (Kd.int .i64) _ 3 ?hg (N := 4) ?hd (xs := ([1, 2, 3] : List Int)) (inner := [.int .i64 1, .int .i64 2, .int .i64 3]) (ok := fun _ => True) (okp := fun _ => True) ?hr ?hp (fun _ hk => hk) trivial (Below.refl _ _) (Nat.le_refl _) (by simp) ?_; (case hd => rfl); (case hg => rfl); (case hr => first | (go_simp; done) | (go_simp; rfl)); (case hp => exact (Reps.one (show Kd.M (Kd.int .i64) _ _ _ 1 [.int .i64 1] from rfl) (Reps.one (show Kd.M (Kd.int .i64) _ _ _ 2 [.int .i64 2] from rfl) (Reps.one (show Kd.M (Kd.int .i64) _ _ _ 3 [.int .i64 3] from rfl) (Reps.none _ _))))); intro v116 w3 ho4 hb hg_ hnew_; clear hg_ hnew_; (first | rw [← Ny115.out] at ho4 | (simp only [Int.reduceToNat] at ho4; rw [← Ny115.out] at ho4)); have n0_ := Aside0.mk (Kd.R_lower ho4 (below_size (by repeat (first | (with_reducible first | exact HB.out | apply below_alloc | apply pw_below_drewN | apply below_drew1) | exact HB.out)))); have n1_ := Aside0.mk (below_step (by repeat (first | (with_reducible first | exact HB.out | apply below_alloc | apply pw_below_drewN | apply below_drew1) | exact HB.out)) hb); clear HB; have HO117 := n0_; have HB := n1_; clear n0_ n1_; clear hb ho4; obtain ⟨Ao5, co5, eo5⟩ := Kd.R_slice HO117.out; subst eo5) | ((with_reducible refine gate_callee (f := 42) rfl ?_); refine goesL_ (some 5) rfl rfl Try.func42 (by kernel_rfl) rfl #[.int .i64 a0, .slice Ao5 y115.length co5] rfl (by (try simp only [List.map_toArray, List.map_cons, List.map_nil]); first | done | rfl | (simp only [List.length_drop, List.length_take]; rfl)) ?_; (with_reducible refine (spec_among.calls k a0 _ _ y115 t118 _ ?side1 ?side2 A2.out).mono ?_); (case side1 => repeat (first | exact (Kd.R_reads' HO117.out).2.2 | (with_reducible refine Kd.C_alloc ?_ _) | (with_reducible refine Kd.C_drewN ?_ _) | (with_reducible refine Kd.C_drew ?_))); (case side2 => exact (Kd.R_reads' HO117.out).2.1); rintro e w' ⟨rfl, ⟨nd, rfl⟩⟩; refine ⟨_, rfl, ?_⟩))
  go_ret
  exact ⟨by first | rfl | (simp [errW_none, errW_some] <;> rfl) | (simp [*, errW_none, errW_some] <;> rfl), by repeat (first | (with_reducible first | exact HB.out | apply below_alloc | apply pw_below_drewN | apply below_drew1) | exact HB.out)⟩

end Go.Proofs.Ytnanfoahimccpaa.Wd
