/- Functions of the translation as Lean functions, and their walks: lines written by a program, a turned copy of the kit's print. -/
import Derived.Test.YtnanfoahimccpaaLnx0
namespace Go.Proofs.Ytnanfoahimccpaa.Ln
open Go.RowKit Go.Proofs.YtnanfoahimccpaaW.PrintWords Go.Proofs.YtnanfoahimccpaaW.PrintLast Go.Proofs.YtnanfoahimccpaaW.PrintMore
attribute [local go_sem] max2_int max_two
set_option linter.unusedVariables false
set_option linter.unusedSimpArgs false

def spec_lbAt_1.f (a0 : Int) (l1 : List (S64)) : Option (Int) := if a0 < 0 then (some (-1)) else (if a0 ≥ (l1.length : Int) then (some (-1)) else (if 0 ≤ a0 then (if a0 < (l1.length : Int) then (some ((rd_T64 l1 a0).f0)) else (none)) else (none)))
set_option maxHeartbeats 8000000 in
set_option maxRecDepth 100000 in
theorem spec_lbAt_1.calls (a0 : Int) (A1 : Option Addr) (c1 : Nat) (l1 : List (S64)) (r : Int) (b_ : Nat) (w : World) (hb_ : w.cell? ⟨b_, 0, none⟩ = some (.slice A1 l1.length c1)) (hr1 : Kd.C k64 w A1 l1.length l1) (hc1 : l1.length ≤ c1) (h : spec_lbAt_1.f a0 l1 = some r) :
  Calls Try.prog 83 #[.int .i64 a0, .pointer (some ⟨b_, 0, none⟩)] w fun e w' => e = .returned (.int .i64 r) ∧ Drawn0 w w' := by
 have HR1 := Aside0.mk hr1
 have HC1 := Aside0.mk hc1
 clear hr1 hc1
 have H : (if a0 < 0 then (some (-1)) else (if a0 ≥ (l1.length : Int) then (some (-1)) else (if 0 ≤ a0 then (if a0 < (l1.length : Int) then (some ((rd_T64 l1 a0).f0)) else (none)) else (none)))) = some r := h
 clear h
 by_cases c3 : a0 < 0
 ·rw [if_pos c3] at H
  have c3b0 : decide (a0 < 0) = true := decide_eq_true c3
  clear c3
  obtain rfl := Option.some.inj H
  go_enter Try.func83, Try.ntmps83
  go_wp2
  go_ret
  exact ⟨vz, by repeat (first | exact Drawn0.refl _ | apply Drawn0.step)⟩
 ·rw [if_neg c3] at H
  have c3b0 : decide (a0 < 0) = false := decide_eq_false c3
  clear c3
  by_cases c4 : a0 ≥ (l1.length : Int)
  ·rw [if_pos c4] at H
   have c4b0 : decide ((l1.length : Int) ≤ a0) = true := decide_eq_true c4
   clear c4
   obtain rfl := Option.some.inj H
   go_enter Try.func83, Try.ntmps83
   go_wp2
   go_ret
   exact ⟨vz, by repeat (first | exact Drawn0.refl _ | apply Drawn0.step)⟩
  ·rw [if_neg c4] at H
   have c4b0 : decide ((l1.length : Int) ≤ a0) = false := decide_eq_false c4
   clear c4
   by_cases c5 : 0 ≤ a0
   ·rw [if_pos c5] at H
    have c5b0 : decide (0 ≤ a0) = true := decide_eq_true c5
    clear c5
    by_cases c6 : a0 < (l1.length : Int)
    ·rw [if_pos c6] at H
     have c6b0 : decide (a0 < (l1.length : Int)) = true := decide_eq_true c6
     clear c6
     obtain rfl := Option.some.inj H
     have p101 : 0 ≤ (a0 : Int) := of_decide_eq_true az
     have q101 : a0 < (l1.length : Int) := of_decide_eq_true az
     obtain ⟨ad101, e101, hx101_0, hx101_1, hx101_2, hx101_3⟩ := at_T64 HR1.out a0 p101 q101
     cases e101
     replace p101 := eq_true p101
     replace q101 := eq_true q101
     go_enter Try.func83, Try.ntmps83
     go_wp2
     go_ret
     exact ⟨vz, by repeat (first | exact Drawn0.refl _ | apply Drawn0.step)⟩
    ·rw [if_neg c6] at H
     exact absurd H (by simp)
   ·rw [if_neg c5] at H
    exact absurd H (by simp)

def spec_among.l0 : Nat → Int → List Int → Int → Int → Option (Bool)
 | 0, _, _, _, _ => none
 | k + 1, x0, x7, x8, x9 => if x9 < x8 then (if 0 ≤ x9 then (if x9 < (x7.length : Int) then (if x0 = (rd x7 x9) then (some true) else (spec_among.l0 k x0 x7 x8 (wrap64 (x9 + 1)))) else (none)) else (none)) else (some false)
def spec_among.f (k : Nat) (a0 : Int) (l1 : List Int) : Option (Bool) := spec_among.l0 k a0 l1 (l1.length : Int) 0
set_option maxHeartbeats 8000000 in
set_option maxRecDepth 100000 in
theorem spec_among.calls (k : Nat) (a0 : Int) (A1 : Option Addr) (c1 : Nat) (l1 : List Int) (r : Bool) (w : World) (hr1 : Kd.C (Kd.int .i64) w A1 l1.length l1) (hc1 : l1.length ≤ c1) (h : spec_among.f k a0 l1 = some r) :
  Calls Try.prog 42 #[.int .i64 a0, .slice A1 l1.length c1] w fun e w' => e = .returned (.bool r) ∧ Drawn0 w w' := by
 have HR1 := Aside0.mk hr1
 have HC1 := Aside0.mk hc1
 clear hr1 hc1
 have H : (spec_among.l0 k a0 l1 (l1.length : Int) 0) = some r := h
 clear h
 have H' := Aside0.mk H
 clear H
 go_enter Try.func42, Try.ntmps42
 go_wp2
 go_loopg [9] k (fun kq v9 w' => ∃ (x9_1 : Int), v9 = .int .i64 x9_1 ∧ Aside0 (spec_among.l0 kq a0 l1 (l1.length : Int) x9_1 = some r) ∧ Aside0 (kq ≤ k) ∧ Drawn0 w w')
 case atStart => exact ⟨(0), vz, H', ⟨Nat.le_refl _⟩, by repeat (first | exact Drawn0.refl _ | apply Drawn0.step)⟩
 case round =>
  clear H'
  obtain ⟨x9_1, rfl, HA, HK1, ⟨m1, rfl⟩⟩ := hrel
  cases gk with
  | zero => exact absurd HA.out (by simp [spec_among.l0])
  | succ k1 =>
   have H := HA.out
   clear HA
   simp only [spec_among.l0] at H
   by_cases c3 : x9_1 < (l1.length : Int)
   ·rw [if_pos c3] at H
    have c3b0 : decide (x9_1 < (l1.length : Int)) = true := decide_eq_true c3
    clear c3
    by_cases c4 : 0 ≤ x9_1
    ·rw [if_pos c4] at H
     have c4b0 : decide (0 ≤ x9_1) = true := decide_eq_true c4
     clear c4
     by_cases c5 : x9_1 < (l1.length : Int)
     ·rw [if_pos c5] at H
      have c5b0 : decide (x9_1 < (l1.length : Int)) = true := decide_eq_true c5
      clear c5
      by_cases c6 : a0 = (rd l1 x9_1)
      ·rw [if_pos c6] at H
       have c6b0 : (a0 == (rd l1 x9_1)) = true := beq_iff_eq.mpr c6
       have c6b1 : (a0 != (rd l1 x9_1)) = false := bne_eq_false_iff_eq.mpr c6
       clear c6
       obtain rfl := Option.some.inj H
       have p102 : 0 ≤ (x9_1 : Int) := of_decide_eq_true az
       have q102 : x9_1 < (l1.length : Int) := of_decide_eq_true az
       obtain ⟨ad102, e102, hx102_0⟩ := Kd.at_int HR1.out x9_1 p102 q102
       cases e102
       replace p102 := eq_true p102
       replace q102 := eq_true q102
       go_wp2
       go_ret
       exact ⟨vz, by repeat (first | exact Drawn0.refl _ | apply Drawn0.step)⟩
      ·rw [if_neg c6] at H
       have c6b0 : (a0 == (rd l1 x9_1)) = false := beq_eq_false_iff_ne.mpr c6
       have c6b1 : (a0 != (rd l1 x9_1)) = true := bne_iff_ne.mpr c6
       have H' := Aside0.mk H
       clear H
       have p102 : 0 ≤ (x9_1 : Int) := of_decide_eq_true az
       have q102 : x9_1 < (l1.length : Int) := of_decide_eq_true az
       obtain ⟨ad102, e102, hx102_0⟩ := Kd.at_int HR1.out x9_1 p102 q102
       cases e102
       replace p102 := eq_true p102
       replace q102 := eq_true q102
       go_wp2
       go_roundg k1
       case measure => have := HK1.out; omega
       case rel => exact ⟨(wrap64 (x9_1 + 1)), vz, H', ⟨by have := HK1.out; omega⟩, by repeat (first | exact Drawn0.refl _ | apply Drawn0.step)⟩
     ·rw [if_neg c5] at H
      exact absurd H (by simp)
    ·rw [if_neg c4] at H
     exact absurd H (by simp)
   ·rw [if_neg c3] at H
    have c3b0 : decide (x9_1 < (l1.length : Int)) = false := decide_eq_false c3
    clear c3
    obtain rfl := Option.some.inj H
    go_wp2
    go_ret
    exact ⟨vz, by repeat (first | exact Drawn0.refl _ | apply Drawn0.step)⟩

def spec_lbHyphens_1.f (k : Nat) (a0 : Int) : Option (Bool) := (spec_among.f k a0 (([37, 36] : List Int))).bind fun t106 => (some t106)
set_option maxHeartbeats 8000000 in
set_option maxRecDepth 100000 in
theorem spec_lbHyphens_1.calls (k : Nat) (a0 : Int) (r : Bool) (w : World) (h : spec_lbHyphens_1.f k a0 = some r) :
  Calls Try.prog 84 #[.int .i64 a0] w fun e w' => e = .returned (.bool r) ∧ Below w.heap.size w w' := by
 have HB := Aside0.mk (Below.refl w.heap.size w)
 have H : ((spec_among.f k a0 (([37, 36] : List Int))).bind fun t106 => (some t106)) = some r := h
 clear h
 obtain ⟨y103, hy103⟩ : ∃ y_ : List Int, y_ = (([37, 36] : List Int)) := ⟨_, rfl⟩
 first | rw [← hy103] at H | simp only [← hy103] at H
 have Ny103 := Aside0.mk hy103
 clear hy103
 replace H := Option.bind_eq_some_iff.mp H
 obtain ⟨t106, A20, H⟩ := H
 try dsimp only at H
 have A2 := Aside0.mk A20
 clear A20
 obtain rfl := Option.some.inj H
 go_enter Try.func84, Try.ntmps84
 go_wp2_with (first | ((with_reducible refine gate_dst (N := 4) rfl ?_); refine Kd.R_lit (Kd.int .i64) _ 3 ?hg (N := 4) ?hd (xs := ([37, 36] : List Int)) (inner := [.int .i64 37, .int .i64 36]) (ok := fun _ => True) (okp := fun _ => True) ?hr ?hp (fun _ hk => hk) trivial (Below.refl _ _) (Nat.le_refl _) (by simp) ?_; (case hd => rfl); (case hg => rfl); (case hr => first | (go_simp; done) | (go_simp; rfl)); (case hp => exact (Reps.one (show Kd.M (Kd.int .i64) _ _ _ 37 [.int .i64 37] from rfl) (Reps.one (show Kd.M (Kd.int .i64) _ _ _ 36 [.int .i64 36] from rfl) (Reps.none _ _)))); intro v104 w3 ho4 hb hg_ hnew_; clear hg_ hnew_; (first | rw [← Ny103.out] at ho4 | (simp only [Int.reduceToNat] at ho4; rw [← Ny103.out] at ho4)); have n0_ := Aside0.mk (Kd.R_lower ho4 (below_size bz)); have n1_ := Aside0.mk (below_step bz hb); clear HB; have HO105 := n0_; have HB := n1_; clear n0_ n1_; clear hb ho4; obtain ⟨Ao5, co5, eo5⟩ := Kd.R_slice HO105.out; subst eo5) | ((with_reducible refine gate_callee (f := 42) rfl ?_); refine goesL_ (some 5) rfl rfl Try.func42 (by kernel_rfl) rfl #[.int .i64 a0, .slice Ao5 y103.length co5] rfl mz ?_; (with_reducible refine (spec_among.calls k a0 _ _ y103 t106 _ ?side1 ?side2 A2.out).mono ?_); (case side1 => repeat (first | exact (Kd.R_reads' HO105.out).2.2 | (with_reducible refine Kd.C_alloc ?_ _) | (with_reducible refine Kd.C_drewN ?_ _) | (with_reducible refine Kd.C_drew ?_))); (case side2 => exact (Kd.R_reads' HO105.out).2.1); rintro e w' ⟨rfl, ⟨nd, rfl⟩⟩; refine ⟨_, rfl, ?_⟩))
 go_ret
 exact ⟨ez, bz⟩

def spec_lbHyphens_2.f (k : Nat) (a0 : Int) : Option (Bool) := (spec_among.f k a0 (([27, 20, 21] : List Int))).bind fun t110 => (some t110)
set_option maxHeartbeats 8000000 in
set_option maxRecDepth 100000 in
theorem spec_lbHyphens_2.calls (k : Nat) (a0 : Int) (r : Bool) (w : World) (h : spec_lbHyphens_2.f k a0 = some r) :
  Calls Try.prog 85 #[.int .i64 a0] w fun e w' => e = .returned (.bool r) ∧ Below w.heap.size w w' := by
 have HB := Aside0.mk (Below.refl w.heap.size w)
 have H : ((spec_among.f k a0 (([27, 20, 21] : List Int))).bind fun t110 => (some t110)) = some r := h
 clear h
 obtain ⟨y107, hy107⟩ : ∃ y_ : List Int, y_ = (([27, 20, 21] : List Int)) := ⟨_, rfl⟩
 first | rw [← hy107] at H | simp only [← hy107] at H
 have Ny107 := Aside0.mk hy107
 clear hy107
 replace H := Option.bind_eq_some_iff.mp H
 obtain ⟨t110, A20, H⟩ := H
 try dsimp only at H
 have A2 := Aside0.mk A20
 clear A20
 obtain rfl := Option.some.inj H
 go_enter Try.func85, Try.ntmps85
 go_wp2_with (first | ((with_reducible refine gate_dst (N := 4) rfl ?_); refine Kd.R_lit (Kd.int .i64) _ 3 ?hg (N := 4) ?hd (xs := ([27, 20, 21] : List Int)) (inner := [.int .i64 27, .int .i64 20, .int .i64 21]) (ok := fun _ => True) (okp := fun _ => True) ?hr ?hp (fun _ hk => hk) trivial (Below.refl _ _) (Nat.le_refl _) (by simp) ?_; (case hd => rfl); (case hg => rfl); (case hr => first | (go_simp; done) | (go_simp; rfl)); (case hp => exact (Reps.one (show Kd.M (Kd.int .i64) _ _ _ 27 [.int .i64 27] from rfl) (Reps.one (show Kd.M (Kd.int .i64) _ _ _ 20 [.int .i64 20] from rfl) (Reps.one (show Kd.M (Kd.int .i64) _ _ _ 21 [.int .i64 21] from rfl) (Reps.none _ _))))); intro v108 w3 ho4 hb hg_ hnew_; clear hg_ hnew_; (first | rw [← Ny107.out] at ho4 | (simp only [Int.reduceToNat] at ho4; rw [← Ny107.out] at ho4)); have n0_ := Aside0.mk (Kd.R_lower ho4 (below_size bz)); have n1_ := Aside0.mk (below_step bz hb); clear HB; have HO109 := n0_; have HB := n1_; clear n0_ n1_; clear hb ho4; obtain ⟨Ao5, co5, eo5⟩ := Kd.R_slice HO109.out; subst eo5) | ((with_reducible refine gate_callee (f := 42) rfl ?_); refine goesL_ (some 5) rfl rfl Try.func42 (by kernel_rfl) rfl #[.int .i64 a0, .slice Ao5 y107.length co5] rfl mz ?_; (with_reducible refine (spec_among.calls k a0 _ _ y107 t110 _ ?side1 ?side2 A2.out).mono ?_); (case side1 => repeat (first | exact (Kd.R_reads' HO109.out).2.2 | (with_reducible refine Kd.C_alloc ?_ _) | (with_reducible refine Kd.C_drewN ?_ _) | (with_reducible refine Kd.C_drew ?_))); (case side2 => exact (Kd.R_reads' HO109.out).2.1); rintro e w' ⟨rfl, ⟨nd, rfl⟩⟩; refine ⟨_, rfl, ?_⟩))
 go_ret
 exact ⟨ez, bz⟩

def spec_lbHangul_1.f (k : Nat) (a0 : Int) : Option (Bool) := (spec_among.f k a0 (([30, 32, 31, 23, 24] : List Int))).bind fun t114 => (some t114)
set_option maxHeartbeats 8000000 in
set_option maxRecDepth 100000 in
theorem spec_lbHangul_1.calls (k : Nat) (a0 : Int) (r : Bool) (w : World) (h : spec_lbHangul_1.f k a0 = some r) :
  Calls Try.prog 87 #[.int .i64 a0] w fun e w' => e = .returned (.bool r) ∧ Below w.heap.size w w' := by
 have HB := Aside0.mk (Below.refl w.heap.size w)
 have H : ((spec_among.f k a0 (([30, 32, 31, 23, 24] : List Int))).bind fun t114 => (some t114)) = some r := h
 clear h
 obtain ⟨y111, hy111⟩ : ∃ y_ : List Int, y_ = (([30, 32, 31, 23, 24] : List Int)) := ⟨_, rfl⟩
 first | rw [← hy111] at H | simp only [← hy111] at H
 have Ny111 := Aside0.mk hy111
 clear hy111
 replace H := Option.bind_eq_some_iff.mp H
 obtain ⟨t114, A20, H⟩ := H
 try dsimp only at H
 have A2 := Aside0.mk A20
 clear A20
 obtain rfl := Option.some.inj H
 go_enter Try.func87, Try.ntmps87
 go_wp2_with (first | ((with_reducible refine gate_dst (N := 4) rfl ?_); refine Kd.R_lit (Kd.int .i64) _ 3 ?hg (N := 4) ?hd (xs := ([30, 32, 31, 23, 24] : List Int)) (inner := [.int .i64 30, .int .i64 32, .int .i64 31, .int .i64 23, .int .i64 24]) (ok := fun _ => True) (okp := fun _ => True) ?hr ?hp (fun _ hk => hk) trivial (Below.refl _ _) (Nat.le_refl _) (by simp) ?_; (case hd => rfl); (case hg => rfl); (case hr => first | (go_simp; done) | (go_simp; rfl)); (case hp => exact (Reps.one (show Kd.M (Kd.int .i64) _ _ _ 30 [.int .i64 30] from rfl) (Reps.one (show Kd.M (Kd.int .i64) _ _ _ 32 [.int .i64 32] from rfl) (Reps.one (show Kd.M (Kd.int .i64) _ _ _ 31 [.int .i64 31] from rfl) (Reps.one (show Kd.M (Kd.int .i64) _ _ _ 23 [.int .i64 23] from rfl) (Reps.one (show Kd.M (Kd.int .i64) _ _ _ 24 [.int .i64 24] from rfl) (Reps.none _ _))))))); intro v112 w3 ho4 hb hg_ hnew_; clear hg_ hnew_; (first | rw [← Ny111.out] at ho4 | (simp only [Int.reduceToNat] at ho4; rw [← Ny111.out] at ho4)); have n0_ := Aside0.mk (Kd.R_lower ho4 (below_size bz)); have n1_ := Aside0.mk (below_step bz hb); clear HB; have HO113 := n0_; have HB := n1_; clear n0_ n1_; clear hb ho4; obtain ⟨Ao5, co5, eo5⟩ := Kd.R_slice HO113.out; subst eo5) | ((with_reducible refine gate_callee (f := 42) rfl ?_); refine goesL_ (some 5) rfl rfl Try.func42 (by kernel_rfl) rfl #[.int .i64 a0, .slice Ao5 y111.length co5] rfl mz ?_; (with_reducible refine (spec_among.calls k a0 _ _ y111 t114 _ ?side1 ?side2 A2.out).mono ?_); (case side1 => repeat (first | exact (Kd.R_reads' HO113.out).2.2 | (with_reducible refine Kd.C_alloc ?_ _) | (with_reducible refine Kd.C_drewN ?_ _) | (with_reducible refine Kd.C_drew ?_))); (case side2 => exact (Kd.R_reads' HO113.out).2.1); rintro e w' ⟨rfl, ⟨nd, rfl⟩⟩; refine ⟨_, rfl, ?_⟩))
 go_ret
 exact ⟨ez, bz⟩

def spec_lbLetter.f (k : Nat) (a0 : Int) : Option (Bool) := (spec_among.f k a0 (([12, 25] : List Int))).bind fun t118 => (some t118)
set_option maxHeartbeats 8000000 in
set_option maxRecDepth 100000 in
theorem spec_lbLetter.calls (k : Nat) (a0 : Int) (r : Bool) (w : World) (h : spec_lbLetter.f k a0 = some r) :
  Calls Try.prog 86 #[.int .i64 a0] w fun e w' => e = .returned (.bool r) ∧ Below w.heap.size w w' := by
 have HB := Aside0.mk (Below.refl w.heap.size w)
 have H : ((spec_among.f k a0 (([12, 25] : List Int))).bind fun t118 => (some t118)) = some r := h
 clear h
 obtain ⟨y115, hy115⟩ : ∃ y_ : List Int, y_ = (([12, 25] : List Int)) := ⟨_, rfl⟩
 first | rw [← hy115] at H | simp only [← hy115] at H
 have Ny115 := Aside0.mk hy115
 clear hy115
 replace H := Option.bind_eq_some_iff.mp H
 obtain ⟨t118, A20, H⟩ := H
 try dsimp only at H
 have A2 := Aside0.mk A20
 clear A20
 obtain rfl := Option.some.inj H
 go_enter Try.func86, Try.ntmps86
 go_wp2_with (first | ((with_reducible refine gate_dst (N := 4) rfl ?_); refine Kd.R_lit (Kd.int .i64) _ 3 ?hg (N := 4) ?hd (xs := ([12, 25] : List Int)) (inner := [.int .i64 12, .int .i64 25]) (ok := fun _ => True) (okp := fun _ => True) ?hr ?hp (fun _ hk => hk) trivial (Below.refl _ _) (Nat.le_refl _) (by simp) ?_; (case hd => rfl); (case hg => rfl); (case hr => first | (go_simp; done) | (go_simp; rfl)); (case hp => exact (Reps.one (show Kd.M (Kd.int .i64) _ _ _ 12 [.int .i64 12] from rfl) (Reps.one (show Kd.M (Kd.int .i64) _ _ _ 25 [.int .i64 25] from rfl) (Reps.none _ _)))); intro v116 w3 ho4 hb hg_ hnew_; clear hg_ hnew_; (first | rw [← Ny115.out] at ho4 | (simp only [Int.reduceToNat] at ho4; rw [← Ny115.out] at ho4)); have n0_ := Aside0.mk (Kd.R_lower ho4 (below_size bz)); have n1_ := Aside0.mk (below_step bz hb); clear HB; have HO117 := n0_; have HB := n1_; clear n0_ n1_; clear hb ho4; obtain ⟨Ao5, co5, eo5⟩ := Kd.R_slice HO117.out; subst eo5) | ((with_reducible refine gate_callee (f := 42) rfl ?_); refine goesL_ (some 5) rfl rfl Try.func42 (by kernel_rfl) rfl #[.int .i64 a0, .slice Ao5 y115.length co5] rfl mz ?_; (with_reducible refine (spec_among.calls k a0 _ _ y115 t118 _ ?side1 ?side2 A2.out).mono ?_); (case side1 => repeat (first | exact (Kd.R_reads' HO117.out).2.2 | (with_reducible refine Kd.C_alloc ?_ _) | (with_reducible refine Kd.C_drewN ?_ _) | (with_reducible refine Kd.C_drew ?_))); (case side2 => exact (Kd.R_reads' HO117.out).2.1); rintro e w' ⟨rfl, ⟨nd, rfl⟩⟩; refine ⟨_, rfl, ?_⟩))
 go_ret
 exact ⟨ez, bz⟩

def spec_lbLast_1.f (k : Nat) (a0 : Int) : Option (Bool) := (spec_lbLetter.f k a0).bind fun t119 => (if t119 = true then (some true) else (some (a0 == 34)))
set_option maxHeartbeats 8000000 in
set_option maxRecDepth 100000 in
theorem spec_lbLast_1.calls (k : Nat) (a0 : Int) (r : Bool) (w : World) (h : spec_lbLast_1.f k a0 = some r) :
  Calls Try.prog 88 #[.int .i64 a0] w fun e w' => e = .returned (.bool r) ∧ Below w.heap.size w w' := by
 have HB := Aside0.mk (Below.refl w.heap.size w)
 have H : ((spec_lbLetter.f k a0).bind fun t119 => (if t119 = true then (some true) else (some (a0 == 34)))) = some r := h
 clear h
 replace H := Option.bind_eq_some_iff.mp H
 obtain ⟨t119, A20, H⟩ := H
 try dsimp only at H
 have A2 := Aside0.mk A20
 clear A20
 by_cases c3 : t119 = true
 ·subst c3
  rw [if_pos rfl] at H
  obtain rfl := Option.some.inj H
  go_enter Try.func88, Try.ntmps88
  go_wp2_with (first | ((with_reducible refine gate_callee (f := 86) rfl ?_); refine goesL_ (some 4) rfl rfl Try.func86 (by kernel_rfl) rfl #[.int .i64 a0] rfl mz ?_; (with_reducible refine (spec_lbLetter.calls k a0 true _ A2.out).mono ?_); rintro e w4 ⟨rfl, hb⟩; refine ⟨_, rfl, ?_⟩; have n0_ := Aside0.mk (below_step bz hb); clear HB; have HB := n0_; clear n0_; (try clear hb); (try clear hb2); (try clear hk); (try clear hi)))
  go_ret
  exact ⟨ez, bz⟩
 ·replace c3 := Bool.eq_false_iff.mpr c3
  subst c3
  rw [if_neg (show ¬ (false = true) by decide)] at H
  obtain rfl := Option.some.inj H
  go_enter Try.func88, Try.ntmps88
  go_wp2_with (first | ((with_reducible refine gate_callee (f := 86) rfl ?_); refine goesL_ (some 4) rfl rfl Try.func86 (by kernel_rfl) rfl #[.int .i64 a0] rfl mz ?_; (with_reducible refine (spec_lbLetter.calls k a0 false _ A2.out).mono ?_); rintro e w5 ⟨rfl, hb⟩; refine ⟨_, rfl, ?_⟩; have n0_ := Aside0.mk (below_step bz hb); clear HB; have HB := n0_; clear n0_; (try clear hb); (try clear hb2); (try clear hk); (try clear hi)))
  go_ret
  exact ⟨ez, bz⟩

def spec_lbLast_2.f (k : Nat) (a0_0 : Int) (a0_1 : Int) (a0_2 : Int) (a0_3 : Bool) : Option (Bool) := (spec_among.f k a0_2 (([4, 5, 3] : List Int))).bind fun t124 => (some t124)
set_option maxHeartbeats 8000000 in
set_option maxRecDepth 100000 in
theorem spec_lbLast_2.calls (k : Nat) (a0_0 : Int) (a0_1 : Int) (a0_2 : Int) (a0_3 : Bool) (r : Bool) (w : World) (h : spec_lbLast_2.f k a0_0 a0_1 a0_2 a0_3 = some r) :
  Calls Try.prog 89 #[.agg #[.int .i64 a0_0, .int .i64 a0_1, .int .i64 a0_2, .bool a0_3]] w fun e w' => e = .returned (.bool r) ∧ Below w.heap.size w w' := by
 have hu64 := Try.underlying64
 have HB := Aside0.mk (Below.refl w.heap.size w)
 have H : ((spec_among.f k a0_2 (([4, 5, 3] : List Int))).bind fun t124 => (some t124)) = some r := h
 clear h
 obtain ⟨y121, hy121⟩ : ∃ y_ : List Int, y_ = (([4, 5, 3] : List Int)) := ⟨_, rfl⟩
 first | rw [← hy121] at H | simp only [← hy121] at H
 have Ny121 := Aside0.mk hy121
 clear hy121
 replace H := Option.bind_eq_some_iff.mp H
 obtain ⟨t124, A20, H⟩ := H
 try dsimp only at H
 have A2 := Aside0.mk A20
 clear A20
 obtain rfl := Option.some.inj H
 go_enter Try.func89, Try.ntmps89
 go_wp2_with (first | ((with_reducible refine gate_dst (N := 1) rfl ?_); refine box_event ?hg (N := 1) ?hd (cs := #[.int .i64 a0_0, .int .i64 a0_1, .int .i64 a0_2, .bool a0_3]) (t := 64) ?hr ?_; (case hd => rfl); (case hg => rfl); (case hr => first | (go_simp; done) | (go_simp; rfl)); intro gb120 hg w3 hbox hb; have n0_ := Aside0.mk (below_step bz hb); have n1_ := Aside0.mk (hbox); have n2_ := Aside0.mk ((by rw [hg]; exact (below_size bz) : w.heap.size ≤ gb120)); have n3_ := Aside0.mk ((by rw [hg]; exact (below_size bz) : w.heap.size ≤ gb120)); clear HB; have HB := n0_; have BK120 := n1_; have GW120 := n2_; have GE120 := n3_; clear n0_ n1_ n2_ n3_; clear hb hbox hg; have hcz4_0 : w3.cell? ⟨gb120, 0, none⟩ = some (.int .i64 a0_0) := (blk_cell BK120.out 0).trans rfl; have hcz4_1 : w3.cell? ⟨gb120, 1, none⟩ = some (.int .i64 a0_1) := (blk_cell BK120.out 1).trans rfl; have hcz4_2 : w3.cell? ⟨gb120, 2, none⟩ = some (.int .i64 a0_2) := (blk_cell BK120.out 2).trans rfl; have hcz4_3 : w3.cell? ⟨gb120, 3, none⟩ = some (.bool a0_3) := (blk_cell BK120.out 3).trans rfl; have hfz4_0 := blk_frozen BK120.out 0; have hfz4_1 := blk_frozen BK120.out 1; have hfz4_2 := blk_frozen BK120.out 2; have hfz4_3 := blk_frozen BK120.out 3) | ((with_reducible refine gate_dst (N := 5) rfl ?_); refine Kd.R_lit (Kd.int .i64) _ 3 ?hg (N := 5) ?hd (xs := ([4, 5, 3] : List Int)) (inner := [.int .i64 4, .int .i64 5, .int .i64 3]) (ok := fun _ => True) (okp := fun _ => True) ?hr ?hp (fun _ hk => hk) trivial (Below.refl _ _) (Nat.le_refl _) (by simp) ?_; (case hd => rfl); (case hg => rfl); (case hr => first | (go_simp; done) | (go_simp; rfl)); (case hp => exact (Reps.one (show Kd.M (Kd.int .i64) _ _ _ 4 [.int .i64 4] from rfl) (Reps.one (show Kd.M (Kd.int .i64) _ _ _ 5 [.int .i64 5] from rfl) (Reps.one (show Kd.M (Kd.int .i64) _ _ _ 3 [.int .i64 3] from rfl) (Reps.none _ _))))); intro v122 w5 ho6 hb hg_ hnew_; clear hg_ hnew_; (first | rw [← Ny121.out] at ho6 | (simp only [Int.reduceToNat] at ho6; rw [← Ny121.out] at ho6)); have n0_ := Aside0.mk (Kd.R_lower ho6 (below_size bs)); have n1_ := Aside0.mk (blk_below (g := gb120) (o := .cells #[.int .i64 a0_0, .int .i64 a0_1, .int .i64 a0_2, .bool a0_3] 64 (0, 0)) kz hb); have n2_ := Aside0.mk (below_step bs hb); clear BK120; clear HB; have HO123 := n0_; have BK120 := n1_; have HB := n2_; clear n0_ n1_ n2_; clear hb ho6; obtain ⟨Ao7, co7, eo7⟩ := Kd.R_slice HO123.out; subst eo7) | ((with_reducible refine gate_callee (f := 42) rfl ?_); refine goesL_ (some 6) rfl rfl Try.func42 (by kernel_rfl) rfl #[.int .i64 a0_2, .slice Ao7 y121.length co7] rfl mz ?_; (with_reducible refine (spec_among.calls k a0_2 _ _ y121 t124 _ ?side1 ?side2 A2.out).mono ?_); (case side1 => repeat (first | exact (Kd.R_reads' HO123.out).2.2 | (with_reducible refine Kd.C_alloc ?_ _) | (with_reducible refine Kd.C_drewN ?_ _) | (with_reducible refine Kd.C_drew ?_))); (case side2 => exact (Kd.R_reads' HO123.out).2.1); rintro e w' ⟨rfl, ⟨nd, rfl⟩⟩; refine ⟨_, rfl, ?_⟩))
 go_ret
 exact ⟨ez, bs⟩

def spec_lbSigned_1.f (k : Nat) (a0 : Int) : Option (Bool) := (spec_among.f k a0 (([29, 42] : List Int))).bind fun t128 => (some t128)
set_option maxHeartbeats 8000000 in
set_option maxRecDepth 100000 in
theorem spec_lbSigned_1.calls (k : Nat) (a0 : Int) (r : Bool) (w : World) (h : spec_lbSigned_1.f k a0 = some r) :
  Calls Try.prog 91 #[.int .i64 a0] w fun e w' => e = .returned (.bool r) ∧ Below w.heap.size w w' := by
 have HB := Aside0.mk (Below.refl w.heap.size w)
 have H : ((spec_among.f k a0 (([29, 42] : List Int))).bind fun t128 => (some t128)) = some r := h
 clear h
 obtain ⟨y125, hy125⟩ : ∃ y_ : List Int, y_ = (([29, 42] : List Int)) := ⟨_, rfl⟩
 first | rw [← hy125] at H | simp only [← hy125] at H
 have Ny125 := Aside0.mk hy125
 clear hy125
 replace H := Option.bind_eq_some_iff.mp H
 obtain ⟨t128, A20, H⟩ := H
 try dsimp only at H
 have A2 := Aside0.mk A20
 clear A20
 obtain rfl := Option.some.inj H
 go_enter Try.func91, Try.ntmps91
 go_wp2_with (first | ((with_reducible refine gate_dst (N := 4) rfl ?_); refine Kd.R_lit (Kd.int .i64) _ 3 ?hg (N := 4) ?hd (xs := ([29, 42] : List Int)) (inner := [.int .i64 29, .int .i64 42]) (ok := fun _ => True) (okp := fun _ => True) ?hr ?hp (fun _ hk => hk) trivial (Below.refl _ _) (Nat.le_refl _) (by simp) ?_; (case hd => rfl); (case hg => rfl); (case hr => first | (go_simp; done) | (go_simp; rfl)); (case hp => exact (Reps.one (show Kd.M (Kd.int .i64) _ _ _ 29 [.int .i64 29] from rfl) (Reps.one (show Kd.M (Kd.int .i64) _ _ _ 42 [.int .i64 42] from rfl) (Reps.none _ _)))); intro v126 w3 ho4 hb hg_ hnew_; clear hg_ hnew_; (first | rw [← Ny125.out] at ho4 | (simp only [Int.reduceToNat] at ho4; rw [← Ny125.out] at ho4)); have n0_ := Aside0.mk (Kd.R_lower ho4 (below_size bz)); have n1_ := Aside0.mk (below_step bz hb); clear HB; have HO127 := n0_; have HB := n1_; clear n0_ n1_; clear hb ho4; obtain ⟨Ao5, co5, eo5⟩ := Kd.R_slice HO127.out; subst eo5) | ((with_reducible refine gate_callee (f := 42) rfl ?_); refine goesL_ (some 5) rfl rfl Try.func42 (by kernel_rfl) rfl #[.int .i64 a0, .slice Ao5 y125.length co5] rfl mz ?_; (with_reducible refine (spec_among.calls k a0 _ _ y125 t128 _ ?side1 ?side2 A2.out).mono ?_); (case side1 => repeat (first | exact (Kd.R_reads' HO127.out).2.2 | (with_reducible refine Kd.C_alloc ?_ _) | (with_reducible refine Kd.C_drewN ?_ _) | (with_reducible refine Kd.C_drew ?_))); (case side2 => exact (Kd.R_reads' HO127.out).2.1); rintro e w' ⟨rfl, ⟨nd, rfl⟩⟩; refine ⟨_, rfl, ?_⟩))
 go_ret
 exact ⟨ez, bz⟩

def impl_lines.f  : Option (List Int) := some (([0, 40, 38, 3, 55, 4, 54, 41, 67, 64, 14, 56, 44, 65, 39, 57, 74, 70, 53, 48, 69, 76, 42, 71, 72, 58, 50, 68, 66, 49, 60, 62, 61, 63, 52, 47, 46, 45, 43, 75, 59, 73, 51] : List Int))
set_option maxHeartbeats 8000000 in
set_option maxRecDepth 100000 in
theorem impl_lines.calls  (r : List Int) (w : World) (h : impl_lines.f  = some r) :
  Calls Try.prog 48 #[] w fun e w' => ∃ v0_ : Value, e = .returned (v0_) ∧ Kd.R (Kd.int .i64) 3 w' w.heap.size (fun _ => True) v0_ r ∧ Below w.heap.size w w' := by
 have HB := Aside0.mk (Below.refl w.heap.size w)
 have H : (some (([0, 40, 38, 3, 55, 4, 54, 41, 67, 64, 14, 56, 44, 65, 39, 57, 74, 70, 53, 48, 69, 76, 42, 71, 72, 58, 50, 68, 66, 49, 60, 62, 61, 63, 52, 47, 46, 45, 43, 75, 59, 73, 51] : List Int))) = some r := h
 clear h
 obtain ⟨y129, hy129⟩ : ∃ y_ : List Int, y_ = (([0, 40, 38, 3, 55, 4, 54, 41, 67, 64, 14, 56, 44, 65, 39, 57, 74, 70, 53, 48, 69, 76, 42, 71, 72, 58, 50, 68, 66, 49, 60, 62, 61, 63, 52, 47, 46, 45, 43, 75, 59, 73, 51] : List Int)) := ⟨_, rfl⟩
 first | rw [← hy129] at H | simp only [← hy129] at H
 have Ny129 := Aside0.mk hy129
 clear hy129
 obtain rfl := Option.some.inj H
 go_enter Try.func48, Try.ntmps48
 go_wp2_with (first | ((with_reducible refine gate_dst (N := 1) rfl ?_); refine Kd.R_lit (Kd.int .i64) _ 3 ?hg (N := 1) ?hd (xs := ([0, 40, 38, 3, 55, 4, 54, 41, 67, 64, 14, 56, 44, 65, 39, 57, 74, 70, 53, 48, 69, 76, 42, 71, 72, 58, 50, 68, 66, 49, 60, 62, 61, 63, 52, 47, 46, 45, 43, 75, 59, 73, 51] : List Int)) (inner := [.int .i64 0, .int .i64 40, .int .i64 38, .int .i64 3, .int .i64 55, .int .i64 4, .int .i64 54, .int .i64 41, .int .i64 67, .int .i64 64, .int .i64 14, .int .i64 56, .int .i64 44, .int .i64 65, .int .i64 39, .int .i64 57, .int .i64 74, .int .i64 70, .int .i64 53, .int .i64 48, .int .i64 69, .int .i64 76, .int .i64 42, .int .i64 71, .int .i64 72, .int .i64 58, .int .i64 50, .int .i64 68, .int .i64 66, .int .i64 49, .int .i64 60, .int .i64 62, .int .i64 61, .int .i64 63, .int .i64 52, .int .i64 47, .int .i64 46, .int .i64 45, .int .i64 43, .int .i64 75, .int .i64 59, .int .i64 73, .int .i64 51]) (ok := fun _ => True) (okp := fun _ => True) ?hr ?hp (fun _ hk => hk) trivial (Below.refl _ _) (Nat.le_refl _) (by simp) ?_; (case hd => rfl); (case hg => rfl); (case hr => first | (go_simp; done) | (go_simp; rfl)); (case hp => exact (Reps.one (show Kd.M (Kd.int .i64) _ _ _ 0 [.int .i64 0] from rfl) (Reps.one (show Kd.M (Kd.int .i64) _ _ _ 40 [.int .i64 40] from rfl) (Reps.one (show Kd.M (Kd.int .i64) _ _ _ 38 [.int .i64 38] from rfl) (Reps.one (show Kd.M (Kd.int .i64) _ _ _ 3 [.int .i64 3] from rfl) (Reps.one (show Kd.M (Kd.int .i64) _ _ _ 55 [.int .i64 55] from rfl) (Reps.one (show Kd.M (Kd.int .i64) _ _ _ 4 [.int .i64 4] from rfl) (Reps.one (show Kd.M (Kd.int .i64) _ _ _ 54 [.int .i64 54] from rfl) (Reps.one (show Kd.M (Kd.int .i64) _ _ _ 41 [.int .i64 41] from rfl) (Reps.one (show Kd.M (Kd.int .i64) _ _ _ 67 [.int .i64 67] from rfl) (Reps.one (show Kd.M (Kd.int .i64) _ _ _ 64 [.int .i64 64] from rfl) (Reps.one (show Kd.M (Kd.int .i64) _ _ _ 14 [.int .i64 14] from rfl) (Reps.one (show Kd.M (Kd.int .i64) _ _ _ 56 [.int .i64 56] from rfl) (Reps.one (show Kd.M (Kd.int .i64) _ _ _ 44 [.int .i64 44] from rfl) (Reps.one (show Kd.M (Kd.int .i64) _ _ _ 65 [.int .i64 65] from rfl) (Reps.one (show Kd.M (Kd.int .i64) _ _ _ 39 [.int .i64 39] from rfl) (Reps.one (show Kd.M (Kd.int .i64) _ _ _ 57 [.int .i64 57] from rfl) (Reps.one (show Kd.M (Kd.int .i64) _ _ _ 74 [.int .i64 74] from rfl) (Reps.one (show Kd.M (Kd.int .i64) _ _ _ 70 [.int .i64 70] from rfl) (Reps.one (show Kd.M (Kd.int .i64) _ _ _ 53 [.int .i64 53] from rfl) (Reps.one (show Kd.M (Kd.int .i64) _ _ _ 48 [.int .i64 48] from rfl) (Reps.one (show Kd.M (Kd.int .i64) _ _ _ 69 [.int .i64 69] from rfl) (Reps.one (show Kd.M (Kd.int .i64) _ _ _ 76 [.int .i64 76] from rfl) (Reps.one (show Kd.M (Kd.int .i64) _ _ _ 42 [.int .i64 42] from rfl) (Reps.one (show Kd.M (Kd.int .i64) _ _ _ 71 [.int .i64 71] from rfl) (Reps.one (show Kd.M (Kd.int .i64) _ _ _ 72 [.int .i64 72] from rfl) (Reps.one (show Kd.M (Kd.int .i64) _ _ _ 58 [.int .i64 58] from rfl) (Reps.one (show Kd.M (Kd.int .i64) _ _ _ 50 [.int .i64 50] from rfl) (Reps.one (show Kd.M (Kd.int .i64) _ _ _ 68 [.int .i64 68] from rfl) (Reps.one (show Kd.M (Kd.int .i64) _ _ _ 66 [.int .i64 66] from rfl) (Reps.one (show Kd.M (Kd.int .i64) _ _ _ 49 [.int .i64 49] from rfl) (Reps.one (show Kd.M (Kd.int .i64) _ _ _ 60 [.int .i64 60] from rfl) (Reps.one (show Kd.M (Kd.int .i64) _ _ _ 62 [.int .i64 62] from rfl) (Reps.one (show Kd.M (Kd.int .i64) _ _ _ 61 [.int .i64 61] from rfl) (Reps.one (show Kd.M (Kd.int .i64) _ _ _ 63 [.int .i64 63] from rfl) (Reps.one (show Kd.M (Kd.int .i64) _ _ _ 52 [.int .i64 52] from rfl) (Reps.one (show Kd.M (Kd.int .i64) _ _ _ 47 [.int .i64 47] from rfl) (Reps.one (show Kd.M (Kd.int .i64) _ _ _ 46 [.int .i64 46] from rfl) (Reps.one (show Kd.M (Kd.int .i64) _ _ _ 45 [.int .i64 45] from rfl) (Reps.one (show Kd.M (Kd.int .i64) _ _ _ 43 [.int .i64 43] from rfl) (Reps.one (show Kd.M (Kd.int .i64) _ _ _ 75 [.int .i64 75] from rfl) (Reps.one (show Kd.M (Kd.int .i64) _ _ _ 59 [.int .i64 59] from rfl) (Reps.one (show Kd.M (Kd.int .i64) _ _ _ 73 [.int .i64 73] from rfl) (Reps.one (show Kd.M (Kd.int .i64) _ _ _ 51 [.int .i64 51] from rfl) (Reps.none _ _))))))))))))))))))))))))))))))))))))))))))))); intro v130 w1 ho2 hb hg_ hnew_; clear hg_ hnew_; (first | rw [← Ny129.out] at ho2 | (simp only [Int.reduceToNat] at ho2; rw [← Ny129.out] at ho2)); have n0_ := Aside0.mk (Kd.R_lower ho2 (below_size bz)); have n1_ := Aside0.mk (below_step bz hb); clear HB; have HO131 := n0_; have HB := n1_; clear n0_ n1_; clear hb ho2))
 go_ret
 exact ⟨_, ez, by (with_reducible repeat (first | apply Kd.R_alloc | apply Kd.R_drewN | apply Kd.R_drew)); exact HO131.out, bz⟩

def impl_generals.f  : Option (List Int) := some (([(-1), 22, 28, 16, 19] : List Int))
set_option maxHeartbeats 8000000 in
set_option maxRecDepth 100000 in
theorem impl_generals.calls  (r : List Int) (w : World) (h : impl_generals.f  = some r) :
  Calls Try.prog 50 #[] w fun e w' => ∃ v0_ : Value, e = .returned (v0_) ∧ Kd.R (Kd.int .i64) 3 w' w.heap.size (fun _ => True) v0_ r ∧ Below w.heap.size w w' := by
 have HB := Aside0.mk (Below.refl w.heap.size w)
 have H : (some (([(-1), 22, 28, 16, 19] : List Int))) = some r := h
 clear h
 obtain ⟨y132, hy132⟩ : ∃ y_ : List Int, y_ = (([(-1), 22, 28, 16, 19] : List Int)) := ⟨_, rfl⟩
 first | rw [← hy132] at H | simp only [← hy132] at H
 have Ny132 := Aside0.mk hy132
 clear hy132
 obtain rfl := Option.some.inj H
 go_enter Try.func50, Try.ntmps50
 go_wp2_with (first | ((with_reducible refine gate_dst (N := 1) rfl ?_); refine Kd.R_lit (Kd.int .i64) _ 3 ?hg (N := 1) ?hd (xs := ([(-1), 22, 28, 16, 19] : List Int)) (inner := [.int .i64 (-1), .int .i64 22, .int .i64 28, .int .i64 16, .int .i64 19]) (ok := fun _ => True) (okp := fun _ => True) ?hr ?hp (fun _ hk => hk) trivial (Below.refl _ _) (Nat.le_refl _) (by simp) ?_; (case hd => rfl); (case hg => rfl); (case hr => first | (go_simp; done) | (go_simp; rfl)); (case hp => exact (Reps.one (show Kd.M (Kd.int .i64) _ _ _ (-1) [.int .i64 (-1)] from rfl) (Reps.one (show Kd.M (Kd.int .i64) _ _ _ 22 [.int .i64 22] from rfl) (Reps.one (show Kd.M (Kd.int .i64) _ _ _ 28 [.int .i64 28] from rfl) (Reps.one (show Kd.M (Kd.int .i64) _ _ _ 16 [.int .i64 16] from rfl) (Reps.one (show Kd.M (Kd.int .i64) _ _ _ 19 [.int .i64 19] from rfl) (Reps.none _ _))))))); intro v133 w1 ho2 hb hg_ hnew_; clear hg_ hnew_; (first | rw [← Ny132.out] at ho2 | (simp only [Int.reduceToNat] at ho2; rw [← Ny132.out] at ho2)); have n0_ := Aside0.mk (Kd.R_lower ho2 (below_size bz)); have n1_ := Aside0.mk (below_step bz hb); clear HB; have HO134 := n0_; have HB := n1_; clear n0_ n1_; clear hb ho2))
 go_ret
 exact ⟨_, ez, by (with_reducible repeat (first | apply Kd.R_alloc | apply Kd.R_drewN | apply Kd.R_drew)); exact HO134.out, bz⟩

def impl_easts.f  : Option (List Int) := some (([77, 78, 79, 81, 82, 80] : List Int))
set_option maxHeartbeats 8000000 in
set_option maxRecDepth 100000 in
theorem impl_easts.calls  (r : List Int) (w : World) (h : impl_easts.f  = some r) :
  Calls Try.prog 51 #[] w fun e w' => ∃ v0_ : Value, e = .returned (v0_) ∧ Kd.R (Kd.int .i64) 3 w' w.heap.size (fun _ => True) v0_ r ∧ Below w.heap.size w w' := by
 have HB := Aside0.mk (Below.refl w.heap.size w)
 have H : (some (([77, 78, 79, 81, 82, 80] : List Int))) = some r := h
 clear h
 obtain ⟨y135, hy135⟩ : ∃ y_ : List Int, y_ = (([77, 78, 79, 81, 82, 80] : List Int)) := ⟨_, rfl⟩
 first | rw [← hy135] at H | simp only [← hy135] at H
 have Ny135 := Aside0.mk hy135
 clear hy135
 obtain rfl := Option.some.inj H
 go_enter Try.func51, Try.ntmps51
 go_wp2_with (first | ((with_reducible refine gate_dst (N := 1) rfl ?_); refine Kd.R_lit (Kd.int .i64) _ 3 ?hg (N := 1) ?hd (xs := ([77, 78, 79, 81, 82, 80] : List Int)) (inner := [.int .i64 77, .int .i64 78, .int .i64 79, .int .i64 81, .int .i64 82, .int .i64 80]) (ok := fun _ => True) (okp := fun _ => True) ?hr ?hp (fun _ hk => hk) trivial (Below.refl _ _) (Nat.le_refl _) (by simp) ?_; (case hd => rfl); (case hg => rfl); (case hr => first | (go_simp; done) | (go_simp; rfl)); (case hp => exact (Reps.one (show Kd.M (Kd.int .i64) _ _ _ 77 [.int .i64 77] from rfl) (Reps.one (show Kd.M (Kd.int .i64) _ _ _ 78 [.int .i64 78] from rfl) (Reps.one (show Kd.M (Kd.int .i64) _ _ _ 79 [.int .i64 79] from rfl) (Reps.one (show Kd.M (Kd.int .i64) _ _ _ 81 [.int .i64 81] from rfl) (Reps.one (show Kd.M (Kd.int .i64) _ _ _ 82 [.int .i64 82] from rfl) (Reps.one (show Kd.M (Kd.int .i64) _ _ _ 80 [.int .i64 80] from rfl) (Reps.none _ _)))))))); intro v136 w1 ho2 hb hg_ hnew_; clear hg_ hnew_; (first | rw [← Ny135.out] at ho2 | (simp only [Int.reduceToNat] at ho2; rw [← Ny135.out] at ho2)); have n0_ := Aside0.mk (Kd.R_lower ho2 (below_size bz)); have n1_ := Aside0.mk (below_step bz hb); clear HB; have HO137 := n0_; have HB := n1_; clear n0_ n1_; clear hb ho2))
 go_ret
 exact ⟨_, ez, by (with_reducible repeat (first | apply Kd.R_alloc | apply Kd.R_drewN | apply Kd.R_drew)); exact HO137.out, bz⟩

def impl_graphemes.f  : Option (List Int) := some (([1, 2, 3, 4, 5, 6, 7, 8, 9, 10, 11, 12, 13, 14, 15] : List Int))
set_option maxHeartbeats 8000000 in
set_option maxRecDepth 100000 in
theorem impl_graphemes.calls  (r : List Int) (w : World) (h : impl_graphemes.f  = some r) :
  Calls Try.prog 21 #[] w fun e w' => ∃ v0_ : Value, e = .returned (v0_) ∧ Kd.R (Kd.int .i64) 3 w' w.heap.size (fun _ => True) v0_ r ∧ Below w.heap.size w w' := by
 have HB := Aside0.mk (Below.refl w.heap.size w)
 have H : (some (([1, 2, 3, 4, 5, 6, 7, 8, 9, 10, 11, 12, 13, 14, 15] : List Int))) = some r := h
 clear h
 obtain ⟨y138, hy138⟩ : ∃ y_ : List Int, y_ = (([1, 2, 3, 4, 5, 6, 7, 8, 9, 10, 11, 12, 13, 14, 15] : List Int)) := ⟨_, rfl⟩
 first | rw [← hy138] at H | simp only [← hy138] at H
 have Ny138 := Aside0.mk hy138
 clear hy138
 obtain rfl := Option.some.inj H
 go_enter Try.func21, Try.ntmps21
 go_wp2_with (first | ((with_reducible refine gate_dst (N := 1) rfl ?_); refine Kd.R_lit (Kd.int .i64) _ 3 ?hg (N := 1) ?hd (xs := ([1, 2, 3, 4, 5, 6, 7, 8, 9, 10, 11, 12, 13, 14, 15] : List Int)) (inner := [.int .i64 1, .int .i64 2, .int .i64 3, .int .i64 4, .int .i64 5, .int .i64 6, .int .i64 7, .int .i64 8, .int .i64 9, .int .i64 10, .int .i64 11, .int .i64 12, .int .i64 13, .int .i64 14, .int .i64 15]) (ok := fun _ => True) (okp := fun _ => True) ?hr ?hp (fun _ hk => hk) trivial (Below.refl _ _) (Nat.le_refl _) (by simp) ?_; (case hd => rfl); (case hg => rfl); (case hr => first | (go_simp; done) | (go_simp; rfl)); (case hp => exact (Reps.one (show Kd.M (Kd.int .i64) _ _ _ 1 [.int .i64 1] from rfl) (Reps.one (show Kd.M (Kd.int .i64) _ _ _ 2 [.int .i64 2] from rfl) (Reps.one (show Kd.M (Kd.int .i64) _ _ _ 3 [.int .i64 3] from rfl) (Reps.one (show Kd.M (Kd.int .i64) _ _ _ 4 [.int .i64 4] from rfl) (Reps.one (show Kd.M (Kd.int .i64) _ _ _ 5 [.int .i64 5] from rfl) (Reps.one (show Kd.M (Kd.int .i64) _ _ _ 6 [.int .i64 6] from rfl) (Reps.one (show Kd.M (Kd.int .i64) _ _ _ 7 [.int .i64 7] from rfl) (Reps.one (show Kd.M (Kd.int .i64) _ _ _ 8 [.int .i64 8] from rfl) (Reps.one (show Kd.M (Kd.int .i64) _ _ _ 9 [.int .i64 9] from rfl) (Reps.one (show Kd.M (Kd.int .i64) _ _ _ 10 [.int .i64 10] from rfl) (Reps.one (show Kd.M (Kd.int .i64) _ _ _ 11 [.int .i64 11] from rfl) (Reps.one (show Kd.M (Kd.int .i64) _ _ _ 12 [.int .i64 12] from rfl) (Reps.one (show Kd.M (Kd.int .i64) _ _ _ 13 [.int .i64 13] from rfl) (Reps.one (show Kd.M (Kd.int .i64) _ _ _ 14 [.int .i64 14] from rfl) (Reps.one (show Kd.M (Kd.int .i64) _ _ _ 15 [.int .i64 15] from rfl) (Reps.none _ _))))))))))))))))); intro v139 w1 ho2 hb hg_ hnew_; clear hg_ hnew_; (first | rw [← Ny138.out] at ho2 | (simp only [Int.reduceToNat] at ho2; rw [← Ny138.out] at ho2)); have n0_ := Aside0.mk (Kd.R_lower ho2 (below_size bz)); have n1_ := Aside0.mk (below_step bz hb); clear HB; have HO140 := n0_; have HB := n1_; clear n0_ n1_; clear hb ho2))
 go_ret
 exact ⟨_, ez, by (with_reducible repeat (first | apply Kd.R_alloc | apply Kd.R_drewN | apply Kd.R_drew)); exact HO140.out, bz⟩

def impl_numberOf.f (l0 : List Int) (a1 : Int) : Option (Int) := if a1 < 0 then (if 0 < (l0.length : Int) then (some (rd l0 0)) else (none)) else (if a1 ≥ (l0.length : Int) then (if 0 < (l0.length : Int) then (some (rd l0 0)) else (none)) else (if 0 ≤ a1 then (if a1 < (l0.length : Int) then (some (rd l0 a1)) else (none)) else (none)))
set_option maxHeartbeats 8000000 in
set_option maxRecDepth 100000 in
theorem impl_numberOf.calls (A0 : Option Addr) (c0 : Nat) (l0 : List Int) (a1 : Int) (r : Int) (w : World) (hr0 : Kd.C (Kd.int .i64) w A0 l0.length l0) (hc0 : l0.length ≤ c0) (h : impl_numberOf.f l0 a1 = some r) :
  Calls Try.prog 23 #[.slice A0 l0.length c0, .int .i64 a1] w fun e w' => e = .returned (.int .i64 r) ∧ Drawn0 w w' := by
 have HR0 := Aside0.mk hr0
 have HC0 := Aside0.mk hc0
 clear hr0 hc0
 have H : (if a1 < 0 then (if 0 < (l0.length : Int) then (some (rd l0 0)) else (none)) else (if a1 ≥ (l0.length : Int) then (if 0 < (l0.length : Int) then (some (rd l0 0)) else (none)) else (if 0 ≤ a1 then (if a1 < (l0.length : Int) then (some (rd l0 a1)) else (none)) else (none)))) = some r := h
 clear h
 by_cases c3 : a1 < 0
 ·rw [if_pos c3] at H
  have c3b0 : decide (a1 < 0) = true := decide_eq_true c3
  clear c3
  by_cases c4 : 0 < (l0.length : Int)
  ·rw [if_pos c4] at H
   have c4b0 : decide (0 < (l0.length : Int)) = true := decide_eq_true c4
   have c4b1 : decide (0 < l0.length) = true := decide_eq_true (by omega)
   clear c4
   obtain rfl := Option.some.inj H
   have p141 : 0 ≤ (0 : Int) := (by omega)
   have q141 : 0 < (l0.length : Int) := of_decide_eq_true az
   obtain ⟨ad141, e141, hx141_0⟩ := Kd.at_int HR0.out 0 p141 q141
   cases e141
   have qi141 : (0 < l0.length) = True := eq_true (by omega)
   (try rw [show ((0 : Int)).toNat = 0 from rfl] at hx141_0)
   (try rw [Addr.add_zero'] at hx141_0)
   replace p141 := eq_true p141
   replace q141 := eq_true q141
   go_enter Try.func23, Try.ntmps23
   go_wp2
   go_ret
   exact ⟨vz, by repeat (first | exact Drawn0.refl _ | apply Drawn0.step)⟩
  ·rw [if_neg c4] at H
   exact absurd H (by simp)
 ·rw [if_neg c3] at H
  have c3b0 : decide (a1 < 0) = false := decide_eq_false c3
  clear c3
  by_cases c5 : a1 ≥ (l0.length : Int)
  ·rw [if_pos c5] at H
   have c5b0 : decide ((l0.length : Int) ≤ a1) = true := decide_eq_true c5
   clear c5
   by_cases c6 : 0 < (l0.length : Int)
   ·rw [if_pos c6] at H
    have c6b0 : decide (0 < (l0.length : Int)) = true := decide_eq_true c6
    have c6b1 : decide (0 < l0.length) = true := decide_eq_true (by omega)
    clear c6
    obtain rfl := Option.some.inj H
    have p142 : 0 ≤ (0 : Int) := (by omega)
    have q142 : 0 < (l0.length : Int) := of_decide_eq_true az
    obtain ⟨ad142, e142, hx142_0⟩ := Kd.at_int HR0.out 0 p142 q142
    cases e142
    have qi142 : (0 < l0.length) = True := eq_true (by omega)
    (try rw [show ((0 : Int)).toNat = 0 from rfl] at hx142_0)
    (try rw [Addr.add_zero'] at hx142_0)
    replace p142 := eq_true p142
    replace q142 := eq_true q142
    go_enter Try.func23, Try.ntmps23
    go_wp2
    go_ret
    exact ⟨vz, by repeat (first | exact Drawn0.refl _ | apply Drawn0.step)⟩
   ·rw [if_neg c6] at H
    exact absurd H (by simp)
  ·rw [if_neg c5] at H
   have c5b0 : decide ((l0.length : Int) ≤ a1) = false := decide_eq_false c5
   clear c5
   by_cases c7 : 0 ≤ a1
   ·rw [if_pos c7] at H
    have c7b0 : decide (0 ≤ a1) = true := decide_eq_true c7
    clear c7
    by_cases c8 : a1 < (l0.length : Int)
    ·rw [if_pos c8] at H
     have c8b0 : decide (a1 < (l0.length : Int)) = true := decide_eq_true c8
     clear c8
     obtain rfl := Option.some.inj H
     have p143 : 0 ≤ (a1 : Int) := of_decide_eq_true az
     have q143 : a1 < (l0.length : Int) := of_decide_eq_true az
     obtain ⟨ad143, e143, hx143_0⟩ := Kd.at_int HR0.out a1 p143 q143
     cases e143
     replace p143 := eq_true p143
     replace q143 := eq_true q143
     go_enter Try.func23, Try.ntmps23
     go_wp2
     go_ret
     exact ⟨vz, by repeat (first | exact Drawn0.refl _ | apply Drawn0.step)⟩
    ·rw [if_neg c8] at H
     exact absurd H (by simp)
   ·rw [if_neg c7] at H
    exact absurd H (by simp)

def spec_lbMark.f (k : Nat) (a0 : Int) : Option (Bool) := (spec_among.f k a0 (([2, 10] : List Int))).bind fun t147 => (some t147)
set_option maxHeartbeats 8000000 in
set_option maxRecDepth 100000 in
theorem spec_lbMark.calls (k : Nat) (a0 : Int) (r : Bool) (w : World) (h : spec_lbMark.f k a0 = some r) :
  Calls Try.prog 75 #[.int .i64 a0] w fun e w' => e = .returned (.bool r) ∧ Below w.heap.size w w' := by
 have HB := Aside0.mk (Below.refl w.heap.size w)
 have H : ((spec_among.f k a0 (([2, 10] : List Int))).bind fun t147 => (some t147)) = some r := h
 clear h
 obtain ⟨y144, hy144⟩ : ∃ y_ : List Int, y_ = (([2, 10] : List Int)) := ⟨_, rfl⟩
 first | rw [← hy144] at H | simp only [← hy144] at H
 have Ny144 := Aside0.mk hy144
 clear hy144
 replace H := Option.bind_eq_some_iff.mp H
 obtain ⟨t147, A20, H⟩ := H
 try dsimp only at H
 have A2 := Aside0.mk A20
 clear A20
 obtain rfl := Option.some.inj H
 go_enter Try.func75, Try.ntmps75
 go_wp2_with (first | ((with_reducible refine gate_dst (N := 4) rfl ?_); refine Kd.R_lit (Kd.int .i64) _ 3 ?hg (N := 4) ?hd (xs := ([2, 10] : List Int)) (inner := [.int .i64 2, .int .i64 10]) (ok := fun _ => True) (okp := fun _ => True) ?hr ?hp (fun _ hk => hk) trivial (Below.refl _ _) (Nat.le_refl _) (by simp) ?_; (case hd => rfl); (case hg => rfl); (case hr => first | (go_simp; done) | (go_simp; rfl)); (case hp => exact (Reps.one (show Kd.M (Kd.int .i64) _ _ _ 2 [.int .i64 2] from rfl) (Reps.one (show Kd.M (Kd.int .i64) _ _ _ 10 [.int .i64 10] from rfl) (Reps.none _ _)))); intro v145 w3 ho4 hb hg_ hnew_; clear hg_ hnew_; (first | rw [← Ny144.out] at ho4 | (simp only [Int.reduceToNat] at ho4; rw [← Ny144.out] at ho4)); have n0_ := Aside0.mk (Kd.R_lower ho4 (below_size bz)); have n1_ := Aside0.mk (below_step bz hb); clear HB; have HO146 := n0_; have HB := n1_; clear n0_ n1_; clear hb ho4; obtain ⟨Ao5, co5, eo5⟩ := Kd.R_slice HO146.out; subst eo5) | ((with_reducible refine gate_callee (f := 42) rfl ?_); refine goesL_ (some 5) rfl rfl Try.func42 (by kernel_rfl) rfl #[.int .i64 a0, .slice Ao5 y144.length co5] rfl mz ?_; (with_reducible refine (spec_among.calls k a0 _ _ y144 t147 _ ?side1 ?side2 A2.out).mono ?_); (case side1 => repeat (first | exact (Kd.R_reads' HO146.out).2.2 | (with_reducible refine Kd.C_alloc ?_ _) | (with_reducible refine Kd.C_drewN ?_ _) | (with_reducible refine Kd.C_drew ?_))); (case side2 => exact (Kd.R_reads' HO146.out).2.1); rintro e w' ⟨rfl, ⟨nd, rfl⟩⟩; refine ⟨_, rfl, ?_⟩))
 go_ret
 exact ⟨ez, bz⟩

def spec_lbResolved.j0 : Nat → Int → Bool → Int → Int → Int → Bool → Option (Int)
 | 0, _, _, _, _, _, _ => none
 | k + 1, x4, x5, x149000, x149001, x149002, x149003 => if x5 = true then (some 12) else (if x4 = 40 then (if x149001 = 1 then (some 2) else (some 12)) else (if x4 = 17 then (some 33) else (some x149000)))
def spec_lbResolved.f (k : Nat) (a0_0 : Int) (a0_1 : Int) (a0_2 : Int) (a0_3 : Bool) : Option (Int) := if a0_0 = 11 then (spec_lbResolved.j0 k a0_0 (a0_0 == 11) a0_0 a0_1 a0_2 a0_3) else (if a0_0 = 41 then (spec_lbResolved.j0 k a0_0 (a0_0 == 41) a0_0 a0_1 a0_2 a0_3) else (spec_lbResolved.j0 k a0_0 (a0_0 == 0) a0_0 a0_1 a0_2 a0_3))
set_option maxHeartbeats 8000000 in
set_option maxRecDepth 100000 in
theorem spec_lbResolved.calls (k : Nat) (a0_0 : Int) (a0_1 : Int) (a0_2 : Int) (a0_3 : Bool) (r : Int) (w : World) (h : spec_lbResolved.f k a0_0 a0_1 a0_2 a0_3 = some r) :
  Calls Try.prog 76 #[.agg #[.int .i64 a0_0, .int .i64 a0_1, .int .i64 a0_2, .bool a0_3]] w fun e w' => e = .returned (.int .i64 r) ∧ Below w.heap.size w w' := by
 have hu64 := Try.underlying64
 have HB := Aside0.mk (Below.refl w.heap.size w)
 have H : (if a0_0 = 11 then (spec_lbResolved.j0 k a0_0 (a0_0 == 11) a0_0 a0_1 a0_2 a0_3) else (if a0_0 = 41 then (spec_lbResolved.j0 k a0_0 (a0_0 == 41) a0_0 a0_1 a0_2 a0_3) else (spec_lbResolved.j0 k a0_0 (a0_0 == 0) a0_0 a0_1 a0_2 a0_3))) = some r := h
 clear h
 have HC2 := Aside0.mk H
 clear H
 go_enter Try.func76, Try.ntmps76
 go_upto_if 5 with (first | ((with_reducible refine gate_dst (N := 1) rfl ?_); refine box_event ?hg (N := 1) ?hd (cs := #[.int .i64 a0_0, .int .i64 a0_1, .int .i64 a0_2, .bool a0_3]) (t := 64) ?hr ?_; (case hd => rfl); (case hg => rfl); (case hr => first | (go_simp; done) | (go_simp; rfl)); intro gb148 hg w3 hbox hb; have n0_ := Aside0.mk (below_step bz hb); have n1_ := Aside0.mk (hbox); have n2_ := Aside0.mk ((by rw [hg]; exact (below_size bz) : w.heap.size ≤ gb148)); have n3_ := Aside0.mk ((by rw [hg]; exact (below_size bz) : w.heap.size ≤ gb148)); clear HB; have HB := n0_; have BK148 := n1_; have GW148 := n2_; have GE148 := n3_; clear n0_ n1_ n2_ n3_; clear hb hbox hg; have hcz4_0 : w3.cell? ⟨gb148, 0, none⟩ = some (.int .i64 a0_0) := (blk_cell BK148.out 0).trans rfl; have hcz4_1 : w3.cell? ⟨gb148, 1, none⟩ = some (.int .i64 a0_1) := (blk_cell BK148.out 1).trans rfl; have hcz4_2 : w3.cell? ⟨gb148, 2, none⟩ = some (.int .i64 a0_2) := (blk_cell BK148.out 2).trans rfl; have hcz4_3 : w3.cell? ⟨gb148, 3, none⟩ = some (.bool a0_3) := (blk_cell BK148.out 3).trans rfl; have hfz4_0 := blk_frozen BK148.out 0; have hfz4_1 := blk_frozen BK148.out 1; have hfz4_2 := blk_frozen BK148.out 2; have hfz4_3 := blk_frozen BK148.out 3))
 (try simp only [Act.put, List.setIfInBounds_toArray, List.set_cons_zero, List.set_cons_succ])
 go_cut [5] (fun v5 wc => ∃ (kq : Nat) (x5_1 : Bool), v5 = .bool x5_1 ∧ Aside0 (spec_lbResolved.j0 kq a0_0 x5_1 a0_0 a0_1 a0_2 a0_3 = some r) ∧ Aside0 (kq ≤ k) ∧ Aside0 (wc.heap[gb148]? = some (.cells #[.int .i64 a0_0, .int .i64 a0_1, .int .i64 a0_2, .bool a0_3] 64 (0, 0))) ∧ Aside0 (Below w.heap.size w wc))
 case first =>
  have H := HC2.out
  clear HC2
  by_cases c5 : a0_0 = 11
  ·rw [if_pos c5] at H
   have c5b0 : (a0_0 == 11) = true := beq_iff_eq.mpr c5
   have c5b1 : (a0_0 != 11) = false := bne_eq_false_iff_eq.mpr c5
   clear c5
   (first | rw [c5b0] | (simp only [i64_w]; rw [c5b0]) | skip)
   have H' := Aside0.mk H
   clear H
   go_wp2
   go_meet
   case rel => exact ⟨_, ((a0_0 == 11)), vz, H', ⟨by first | omega | exact Nat.le_refl _⟩, ⟨kz⟩, ⟨bs⟩⟩
  ·rw [if_neg c5] at H
   have c5b0 : (a0_0 == 11) = false := beq_eq_false_iff_ne.mpr c5
   have c5b1 : (a0_0 != 11) = true := bne_iff_ne.mpr c5
   (first | rw [c5b0] | (simp only [i64_w]; rw [c5b0]) | skip)
   by_cases c6 : a0_0 = 41
   ·rw [if_pos c6] at H
    have c6b0 : (a0_0 == 41) = true := beq_iff_eq.mpr c6
    have c6b1 : (a0_0 != 41) = false := bne_eq_false_iff_eq.mpr c6
    clear c6
    have H' := Aside0.mk H
    clear H
    go_wp2
    go_meet
    case rel => exact ⟨_, ((a0_0 == 41)), vz, H', ⟨by first | omega | exact Nat.le_refl _⟩, ⟨kz⟩, ⟨bs⟩⟩
   ·rw [if_neg c6] at H
    have c6b0 : (a0_0 == 41) = false := beq_eq_false_iff_ne.mpr c6
    have c6b1 : (a0_0 != 41) = true := bne_iff_ne.mpr c6
    have H' := Aside0.mk H
    clear H
    go_wp2
    go_meet
    case rel => exact ⟨_, ((a0_0 == 0)), vz, H', ⟨by first | omega | exact Nat.le_refl _⟩, ⟨kz⟩, ⟨bs⟩⟩
 case rest =>
  clear HC2
  obtain ⟨kq, x5_1, rfl, HA, HJ1, BK148, HB⟩ := hcut
  cases kq with
  | zero => exact absurd HA.out (by simp [spec_lbResolved.j0])
  | succ kj1 =>
   have H := HA.out
   clear HA
   simp only [spec_lbResolved.j0] at H
   by_cases c7 : x5_1 = true
   ·subst c7
    rw [if_pos rfl] at H
    obtain rfl := Option.some.inj H
    go_wp2
    go_ret
    exact ⟨ez, bs⟩
   ·replace c7 := Bool.eq_false_iff.mpr c7
    subst c7
    rw [if_neg (show ¬ (false = true) by decide)] at H
    by_cases c8 : a0_0 = 40
    ·rw [if_pos c8] at H
     have c8b0 : (a0_0 == 40) = true := beq_iff_eq.mpr c8
     have c8b1 : (a0_0 != 40) = false := bne_eq_false_iff_eq.mpr c8
     clear c8
     by_cases c9 : a0_1 = 1
     ·rw [if_pos c9] at H
      have c9b0 : (a0_1 == 1) = true := beq_iff_eq.mpr c9
      have c9b1 : (a0_1 != 1) = false := bne_eq_false_iff_eq.mpr c9
      clear c9
      obtain rfl := Option.some.inj H
      have hcz10_0 : wc.cell? ⟨gb148, 0, none⟩ = some (.int .i64 a0_0) := (blk_cell BK148.out 0).trans rfl
      have hcz10_1 : wc.cell? ⟨gb148, 1, none⟩ = some (.int .i64 a0_1) := (blk_cell BK148.out 1).trans rfl
      have hcz10_2 : wc.cell? ⟨gb148, 2, none⟩ = some (.int .i64 a0_2) := (blk_cell BK148.out 2).trans rfl
      have hcz10_3 : wc.cell? ⟨gb148, 3, none⟩ = some (.bool a0_3) := (blk_cell BK148.out 3).trans rfl
      have hfz10_0 := blk_frozen BK148.out 0
      have hfz10_1 := blk_frozen BK148.out 1
      have hfz10_2 := blk_frozen BK148.out 2
      have hfz10_3 := blk_frozen BK148.out 3
      go_wp2
      go_ret
      exact ⟨ez, bs⟩
     ·rw [if_neg c9] at H
      have c9b0 : (a0_1 == 1) = false := beq_eq_false_iff_ne.mpr c9
      have c9b1 : (a0_1 != 1) = true := bne_iff_ne.mpr c9
      obtain rfl := Option.some.inj H
      have hcz11_0 : wc.cell? ⟨gb148, 0, none⟩ = some (.int .i64 a0_0) := (blk_cell BK148.out 0).trans rfl
      have hcz11_1 : wc.cell? ⟨gb148, 1, none⟩ = some (.int .i64 a0_1) := (blk_cell BK148.out 1).trans rfl
      have hcz11_2 : wc.cell? ⟨gb148, 2, none⟩ = some (.int .i64 a0_2) := (blk_cell BK148.out 2).trans rfl
      have hcz11_3 : wc.cell? ⟨gb148, 3, none⟩ = some (.bool a0_3) := (blk_cell BK148.out 3).trans rfl
      have hfz11_0 := blk_frozen BK148.out 0
      have hfz11_1 := blk_frozen BK148.out 1
      have hfz11_2 := blk_frozen BK148.out 2
      have hfz11_3 := blk_frozen BK148.out 3
      go_wp2
      go_ret
      exact ⟨ez, bs⟩
    ·rw [if_neg c8] at H
     have c8b0 : (a0_0 == 40) = false := beq_eq_false_iff_ne.mpr c8
     have c8b1 : (a0_0 != 40) = true := bne_iff_ne.mpr c8
     by_cases c12 : a0_0 = 17
     ·rw [if_pos c12] at H
      have c12b0 : (a0_0 == 17) = true := beq_iff_eq.mpr c12
      have c12b1 : (a0_0 != 17) = false := bne_eq_false_iff_eq.mpr c12
      clear c12
      obtain rfl := Option.some.inj H
      go_wp2
      go_ret
      exact ⟨ez, bs⟩
     ·rw [if_neg c12] at H
      have c12b0 : (a0_0 == 17) = false := beq_eq_false_iff_ne.mpr c12
      have c12b1 : (a0_0 != 17) = true := bne_iff_ne.mpr c12
      obtain rfl := Option.some.inj H
      have hcz13_0 : wc.cell? ⟨gb148, 0, none⟩ = some (.int .i64 a0_0) := (blk_cell BK148.out 0).trans rfl
      have hcz13_1 : wc.cell? ⟨gb148, 1, none⟩ = some (.int .i64 a0_1) := (blk_cell BK148.out 1).trans rfl
      have hcz13_2 : wc.cell? ⟨gb148, 2, none⟩ = some (.int .i64 a0_2) := (blk_cell BK148.out 2).trans rfl
      have hcz13_3 : wc.cell? ⟨gb148, 3, none⟩ = some (.bool a0_3) := (blk_cell BK148.out 3).trans rfl
      have hfz13_0 := blk_frozen BK148.out 0
      have hfz13_1 := blk_frozen BK148.out 1
      have hfz13_2 := blk_frozen BK148.out 2
      have hfz13_3 := blk_frozen BK148.out 3
      go_wp2
      go_ret
      exact ⟨ez, bs⟩

end Go.Proofs.Ytnanfoahimccpaa.Ln
