/- Functions of the translation as Lean functions, and their walks: lines written by a program, a turned copy of the kit's print. -/
import Derived.Test.YtnanfoahimccpaaLnx0
import Derived.Test.YtnanfoahimccpaaLnx1
namespace Go.Proofs.Ytnanfoahimccpaa.Ln
open Go.RowKit Go.Proofs.YtnanfoahimccpaaW.PrintWords Go.Proofs.YtnanfoahimccpaaW.PrintLast Go.Proofs.YtnanfoahimccpaaW.PrintMore
attribute [local go_sem] max2_int max_two
set_option linter.unusedVariables false
set_option linter.unusedSimpArgs false

def spec_lbHard.f (k : Nat) (a0 : Int) : Option (Bool) := (spec_among.f k a0 (([1, 3, 5, 6] : List Int))).bind fun t152 => (some t152)
set_option maxHeartbeats 8000000 in
set_option maxRecDepth 100000 in
theorem spec_lbHard.calls (k : Nat) (a0 : Int) (r : Bool) (w : World) (h : spec_lbHard.f k a0 = some r) :
  Calls Try.prog 81 #[.int .i64 a0] w fun e w' => e = .returned (.bool r) ∧ Below w.heap.size w w' := by
 have HB := Aside0.mk (Below.refl w.heap.size w)
 have H : ((spec_among.f k a0 (([1, 3, 5, 6] : List Int))).bind fun t152 => (some t152)) = some r := h
 clear h
 obtain ⟨y149, hy149⟩ : ∃ y_ : List Int, y_ = (([1, 3, 5, 6] : List Int)) := ⟨_, rfl⟩
 first | rw [← hy149] at H | simp only [← hy149] at H
 have Ny149 := Aside0.mk hy149
 clear hy149
 replace H := Option.bind_eq_some_iff.mp H
 obtain ⟨t152, A20, H⟩ := H
 try dsimp only at H
 have A2 := Aside0.mk A20
 clear A20
 obtain rfl := Option.some.inj H
 go_enter Try.func81, Try.ntmps81
 go_wp2_with (first | ((with_reducible refine gate_dst (N := 4) rfl ?_); refine Kd.R_lit (Kd.int .i64) _ 3 ?hg (N := 4) ?hd (xs := ([1, 3, 5, 6] : List Int)) (inner := [.int .i64 1, .int .i64 3, .int .i64 5, .int .i64 6]) (ok := fun _ => True) (okp := fun _ => True) ?hr ?hp (fun _ hk => hk) trivial (Below.refl _ _) (Nat.le_refl _) (by simp) ?_; (case hd => rfl); (case hg => rfl); (case hr => first | (go_simp; done) | (go_simp; rfl)); (case hp => exact (Reps.one (show Kd.M (Kd.int .i64) _ _ _ 1 [.int .i64 1] from rfl) (Reps.one (show Kd.M (Kd.int .i64) _ _ _ 3 [.int .i64 3] from rfl) (Reps.one (show Kd.M (Kd.int .i64) _ _ _ 5 [.int .i64 5] from rfl) (Reps.one (show Kd.M (Kd.int .i64) _ _ _ 6 [.int .i64 6] from rfl) (Reps.none _ _)))))); intro v150 w3 ho4 hb hg_ hnew_; clear hg_ hnew_; (first | rw [← Ny149.out] at ho4 | (simp only [Int.reduceToNat] at ho4; rw [← Ny149.out] at ho4)); have n0_ := Aside0.mk (Kd.R_lower ho4 (below_size bz)); have n1_ := Aside0.mk (below_step bz hb); clear HB; have HO151 := n0_; have HB := n1_; clear n0_ n1_; clear hb ho4; obtain ⟨Ao5, co5, eo5⟩ := Kd.R_slice HO151.out; subst eo5) | ((with_reducible refine gate_callee (f := 42) rfl ?_); refine goesL_ (some 5) rfl rfl Try.func42 (by kernel_rfl) rfl #[.int .i64 a0, .slice Ao5 y149.length co5] rfl mz ?_; (with_reducible refine (spec_among.calls k a0 _ _ y149 t152 _ ?side1 ?side2 A2.out).mono ?_); (case side1 => repeat (first | exact (Kd.R_reads' HO151.out).2.2 | (with_reducible refine Kd.C_alloc ?_ _) | (with_reducible refine Kd.C_drewN ?_ _) | (with_reducible refine Kd.C_drew ?_))); (case side2 => exact (Kd.R_reads' HO151.out).2.1); rintro e w' ⟨rfl, ⟨nd, rfl⟩⟩; refine ⟨_, rfl, ?_⟩))
 go_ret
 exact ⟨ez, bz⟩

def spec_lbBare.f (k : Nat) (a0 : Int) : Option (Bool) := (spec_lbHard.f k a0).bind fun t153 => (if t153 = true then (some true) else ((spec_among.f k a0 (([7, 9] : List Int))).bind fun t157 => (some t157)))
set_option maxHeartbeats 8000000 in
set_option maxRecDepth 100000 in
theorem spec_lbBare.calls (k : Nat) (a0 : Int) (r : Bool) (w : World) (h : spec_lbBare.f k a0 = some r) :
  Calls Try.prog 82 #[.int .i64 a0] w fun e w' => e = .returned (.bool r) ∧ Below w.heap.size w w' := by
 have HB := Aside0.mk (Below.refl w.heap.size w)
 have H : ((spec_lbHard.f k a0).bind fun t153 => (if t153 = true then (some true) else ((spec_among.f k a0 (([7, 9] : List Int))).bind fun t157 => (some t157)))) = some r := h
 clear h
 replace H := Option.bind_eq_some_iff.mp H
 obtain ⟨t153, A20, H⟩ := H
 try dsimp only at H
 have A2 := Aside0.mk A20
 clear A20
 by_cases c3 : t153 = true
 ·subst c3
  rw [if_pos rfl] at H
  obtain rfl := Option.some.inj H
  go_enter Try.func82, Try.ntmps82
  go_wp2_with (first | ((with_reducible refine gate_callee (f := 81) rfl ?_); refine goesL_ (some 4) rfl rfl Try.func81 (by kernel_rfl) rfl #[.int .i64 a0] rfl mz ?_; (with_reducible refine (spec_lbHard.calls k a0 true _ A2.out).mono ?_); rintro e w4 ⟨rfl, hb⟩; refine ⟨_, rfl, ?_⟩; have n0_ := Aside0.mk (below_step bz hb); clear HB; have HB := n0_; clear n0_; (try clear hb); (try clear hb2); (try clear hk); (try clear hi)))
  go_ret
  exact ⟨ez, bz⟩
 ·replace c3 := Bool.eq_false_iff.mpr c3
  subst c3
  rw [if_neg (show ¬ (false = true) by decide)] at H
  obtain ⟨y154, hy154⟩ : ∃ y_ : List Int, y_ = (([7, 9] : List Int)) := ⟨_, rfl⟩
  first | rw [← hy154] at H | simp only [← hy154] at H
  have Ny154 := Aside0.mk hy154
  clear hy154
  replace H := Option.bind_eq_some_iff.mp H
  obtain ⟨t157, A50, H⟩ := H
  try dsimp only at H
  have A5 := Aside0.mk A50
  clear A50
  obtain rfl := Option.some.inj H
  go_enter Try.func82, Try.ntmps82
  go_wp2_with (first | ((with_reducible refine gate_callee (f := 81) rfl ?_); refine goesL_ (some 4) rfl rfl Try.func81 (by kernel_rfl) rfl #[.int .i64 a0] rfl mz ?_; (with_reducible refine (spec_lbHard.calls k a0 false _ A2.out).mono ?_); rintro e w6 ⟨rfl, hb⟩; refine ⟨_, rfl, ?_⟩; have n0_ := Aside0.mk (below_step bz hb); clear HB; have HB := n0_; clear n0_; (try clear hb); (try clear hb2); (try clear hk); (try clear hi)) | ((with_reducible refine gate_dst (N := 7) rfl ?_); (try (refine gate_guard (by rfl) ?_; dsimp only)); refine Kd.R_lit (Kd.int .i64) _ 3 ?hg (N := 7) ?hd (xs := ([7, 9] : List Int)) (inner := [.int .i64 7, .int .i64 9]) (ok := fun _ => True) (okp := fun _ => True) ?hr ?hp (fun _ hk => hk) trivial (Below.refl _ _) (Nat.le_refl _) (by simp) ?_; (case hd => rfl); (case hg => rfl); (case hr => first | (go_simp; done) | (go_simp; rfl)); (case hp => exact (Reps.one (show Kd.M (Kd.int .i64) _ _ _ 7 [.int .i64 7] from rfl) (Reps.one (show Kd.M (Kd.int .i64) _ _ _ 9 [.int .i64 9] from rfl) (Reps.none _ _)))); intro v155 w7 ho8 hb hg_ hnew_; clear hg_ hnew_; (first | rw [← Ny154.out] at ho8 | (simp only [Int.reduceToNat] at ho8; rw [← Ny154.out] at ho8)); have n0_ := Aside0.mk (Kd.R_lower ho8 (below_size bz)); have n1_ := Aside0.mk (below_step bz hb); clear HB; have HO156 := n0_; have HB := n1_; clear n0_ n1_; clear hb ho8; obtain ⟨Ao9, co9, eo9⟩ := Kd.R_slice HO156.out; subst eo9) | (go_at_call 42; (with_reducible refine (spec_among.calls k a0 _ _ y154 t157 _ ?side1 ?side2 A5.out).mono ?_); (case side1 => repeat (first | exact (Kd.R_reads' HO156.out).2.2 | (with_reducible refine Kd.C_alloc ?_ _) | (with_reducible refine Kd.C_drewN ?_ _) | (with_reducible refine Kd.C_drew ?_))); (case side2 => exact (Kd.R_reads' HO156.out).2.1); rintro e w' ⟨rfl, ⟨nd, rfl⟩⟩))
  go_ret
  exact ⟨ez, bz⟩

end Go.Proofs.Ytnanfoahimccpaa.Ln
