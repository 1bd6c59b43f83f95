/- Functions of the translation as Lean functions, and their walks: lines written by a program, a turned copy of the kit's print. -/
import Derived.Test.YtnanfoahimccpaaLnx0
import Derived.Test.YtnanfoahimccpaaLnx1
import Derived.Test.YtnanfoahimccpaaLnx2
namespace Go.Proofs.Ytnanfoahimccpaa.Ln
open Go.RowKit Go.Proofs.YtnanfoahimccpaaW.PrintWords Go.Proofs.YtnanfoahimccpaaW.PrintLast Go.Proofs.YtnanfoahimccpaaW.PrintMore
attribute [local go_sem] max2_int max_two
set_option linter.unusedVariables false
set_option linter.unusedSimpArgs false

mutual
def spec_lbNear.j0 : Nat → List (S64) → Int → Int → Int → Bool → Option (Int × Bool)
 | 0, _, _, _, _, _ => none
 | k + 1, x0, x1, x6, x7, x25 => if x25 = true then (some (0, true)) else ((spec_lbHard.f k x6).bind fun t162 => (if t162 = true then (some (2, true)) else ((spec_lbHard.f k x7).bind fun t163 => (if t163 = true then (spec_lbNear.j1 k x0 x1 x6 x7 true) else ((spec_among.f k x7 (([7, 9] : List Int))).bind fun t167 => (spec_lbNear.j1 k x0 x1 x6 x7 t167))))))
def spec_lbNear.j1 : Nat → List (S64) → Int → Int → Int → Bool → Option (Int × Bool)
 | 0, _, _, _, _, _ => none
 | k + 1, x0, x1, x6, x7, x34 => if x34 = true then (some (0, true)) else (spec_lbNear.l0 k x0 x6 x7 (wrap64 (x1 - 1)))
def spec_lbNear.j3 : Nat → List (S64) → Int → Int → Int → Option (Int × Bool)
 | 0, _, _, _, _ => none
 | k + 1, x0, x6, x7, x8 => if x8 ≥ 0 then (if 0 ≤ x8 then (if x8 < (x0.length : Int) then ((spec_lbResolved.f k ((rd_T64 x0 x8).f0) ((rd_T64 x0 x8).f1) ((rd_T64 x0 x8).f2) ((rd_T64 x0 x8).f3)).bind fun t171 => (spec_lbNear.j4 k x6 x7 (t171 == 9))) else (none)) else (none)) else (spec_lbNear.j4 k x6 x7 false)
def spec_lbNear.j4 : Nat → Int → Int → Bool → Option (Int × Bool)
 | 0, _, _, _ => none
 | k + 1, x6, x7, x58 => if x58 = true then (some (1, true)) else (if x6 = 10 then (some (0, true)) else ((spec_lbMark.f k x7).bind fun t172 => (if t172 = true then ((spec_lbBare.f k x6).bind fun t173 => (if t173 = true then (some (0, false)) else (some (0, true)))) else (some (0, false)))))
def spec_lbNear.l0 : Nat → List (S64) → Int → Int → Int → Option (Int × Bool)
 | 0, _, _, _, _ => none
 | k + 1, x0, x6, x7, x8 => if x8 ≥ 0 then (if 0 ≤ x8 then (if x8 < (x0.length : Int) then ((spec_lbResolved.f k ((rd_T64 x0 x8).f0) ((rd_T64 x0 x8).f1) ((rd_T64 x0 x8).f2) ((rd_T64 x0 x8).f3)).bind fun t169 => (if t169 = 7 then (spec_lbNear.l0 k x0 x6 x7 (wrap64 (x8 - 1))) else (spec_lbNear.j3 k x0 x6 x7 x8))) else (none)) else (none)) else (spec_lbNear.j3 k x0 x6 x7 x8)
end
def spec_lbNear.f (k : Nat) (l0 : List (S64)) (a1 : Int) : Option (Int × Bool) := if 0 ≤ (wrap64 (a1 - 1)) then (if (wrap64 (a1 - 1)) < (l0.length : Int) then ((spec_lbResolved.f k ((rd_T64 l0 (wrap64 (a1 - 1))).f0) ((rd_T64 l0 (wrap64 (a1 - 1))).f1) ((rd_T64 l0 (wrap64 (a1 - 1))).f2) ((rd_T64 l0 (wrap64 (a1 - 1))).f3)).bind fun t159 => (if 0 ≤ a1 then (if a1 < (l0.length : Int) then ((spec_lbResolved.f k ((rd_T64 l0 a1).f0) ((rd_T64 l0 a1).f1) ((rd_T64 l0 a1).f2) ((rd_T64 l0 a1).f3)).bind fun t161 => (if t159 = 3 then (spec_lbNear.j0 k l0 a1 t159 t161 (t161 == 5)) else (spec_lbNear.j0 k l0 a1 t159 t161 false))) else (none)) else (none))) else (none)) else (none)
def spec_lbNear.T1 : Bool × List (List Nat × List Nat) := (true, [([], []), ([], []), ([1], [1]), ([0, 2], [0, 2]), ([3], [3]), ([4], [4]), ([], []), ([], []), ([6, 7], [6, 7]), ([8], [8]), ([9, 5], [9]), ([5, 10, 0, 1, 2, 3, 4, 5], [5]), ([10, 11, 0, 1, 2, 3, 4, 5, 6, 7, 8, 9, 10, 11], [10])])
def spec_lbNear.B1 : List Nat := [0, 0, 2, 7, 15, 31, 0, 0, 192, 448, 1023, 2047, 4095]
theorem spec_lbNear.tab1 : rtab .any (opsOf Try.f61 1) = spec_lbNear.T1 := by kernel_rfl
theorem spec_lbNear.bits1 : waitsOk spec_lbNear.T1.2 spec_lbNear.B1 = true := by kernel_rfl
set_option maxHeartbeats 8000000 in
set_option maxRecDepth 100000 in
theorem spec_lbNear.calls (k : Nat) (A0 : Option Addr) (c0 : Nat) (l0 : List (S64)) (a1 : Int) (r1 : Int) (r2 : Bool) (w : World) (hr0 : Kd.C k64 w A0 l0.length l0) (hc0 : l0.length ≤ c0) (h : spec_lbNear.f k l0 a1 = some (r1, r2)) :
  Calls Try.prog 61 #[.slice A0 l0.length c0, .int .i64 a1] w fun e w' => e = .returned (.tuple #[.int .i64 r1, .bool r2]) ∧ Below w.heap.size w w' := by
 have hu64 := Try.underlying64
 have HR0 := Aside0.mk hr0
 have HC0 := Aside0.mk hc0
 clear hr0 hc0
 have HB := Aside0.mk (Below.refl w.heap.size w)
 have H : (if 0 ≤ (wrap64 (a1 - 1)) then (if (wrap64 (a1 - 1)) < (l0.length : Int) then ((spec_lbResolved.f k ((rd_T64 l0 (wrap64 (a1 - 1))).f0) ((rd_T64 l0 (wrap64 (a1 - 1))).f1) ((rd_T64 l0 (wrap64 (a1 - 1))).f2) ((rd_T64 l0 (wrap64 (a1 - 1))).f3)).bind fun t159 => (if 0 ≤ a1 then (if a1 < (l0.length : Int) then ((spec_lbResolved.f k ((rd_T64 l0 a1).f0) ((rd_T64 l0 a1).f1) ((rd_T64 l0 a1).f2) ((rd_T64 l0 a1).f3)).bind fun t161 => (if t159 = 3 then (spec_lbNear.j0 k l0 a1 t159 t161 (t161 == 5)) else (spec_lbNear.j0 k l0 a1 t159 t161 false))) else (none)) else (none))) else (none)) else (none)) = some (r1, r2) := h
 clear h
 obtain ⟨ji3, hji3⟩ : ∃ j_ : Int, (wrap64 (a1 - 1)) = j_ := ⟨_, rfl⟩
 first | rw [hji3] at H | simp only [hji3] at H
 have hji3w : (IntKind.i64.wrap (a1 - 1)) = ji3 := (i64_w _).trans hji3
 by_cases c4 : 0 ≤ (ji3)
 ·rw [if_pos c4] at H
  have c4b0 : decide (0 ≤ (ji3)) = true := decide_eq_true c4
  clear c4
  by_cases c5 : (ji3) < (l0.length : Int)
  ·rw [if_pos c5] at H
   have c5b0 : decide ((ji3) < (l0.length : Int)) = true := decide_eq_true c5
   clear c5
   replace H := Option.bind_eq_some_iff.mp H
   obtain ⟨t159, A60, H⟩ := H
   try dsimp only at H
   have A6 := Aside0.mk A60
   clear A60
   by_cases c7 : 0 ≤ a1
   ·rw [if_pos c7] at H
    have c7b0 : decide (0 ≤ a1) = true := decide_eq_true c7
    clear c7
    by_cases c8 : a1 < (l0.length : Int)
    ·rw [if_pos c8] at H
     have c8b0 : decide (a1 < (l0.length : Int)) = true := decide_eq_true c8
     clear c8
     replace H := Option.bind_eq_some_iff.mp H
     obtain ⟨t161, A90, H⟩ := H
     try dsimp only at H
     have A9 := Aside0.mk A90
     clear A90
     have HC10 := Aside0.mk H
     clear H
     go_enter Try.func61, Try.ntmps61
     try go_wp2
     have n0_ := Aside0.mk (below_drew1 HB.out)
     clear HB
     have HB := n0_
     clear n0_
     have p158 : 0 ≤ ((ji3) : Int) := of_decide_eq_true az
     have q158 : (ji3) < (l0.length : Int) := of_decide_eq_true az
     obtain ⟨ad158, e158, hx158_0, hx158_1, hx158_2, hx158_3⟩ := at_T64 HR0.out (ji3) p158 q158
     have hw158_3 := hx158_3
     have hw158_2 := hx158_2
     have hw158_1 := hx158_1
     have hw158_0 := hx158_0
     cases e158
     replace hx158_0 := (HB.out.cell (World.block_lt_of_cell? w _ hx158_0)).trans hx158_0
     replace hx158_1 := (HB.out.cell (World.block_lt_of_cell? w _ hx158_1)).trans hx158_1
     replace hx158_2 := (HB.out.cell (World.block_lt_of_cell? w _ hx158_2)).trans hx158_2
     replace hx158_3 := (HB.out.cell (World.block_lt_of_cell? w _ hx158_3)).trans hx158_3
     replace p158 := eq_true p158
     replace q158 := eq_true q158
     have p160 : 0 ≤ (a1 : Int) := of_decide_eq_true az
     have q160 : a1 < (l0.length : Int) := of_decide_eq_true az
     obtain ⟨ad160, e160, hx160_0, hx160_1, hx160_2, hx160_3⟩ := at_T64 HR0.out a1 p160 q160
     have hw160_3 := hx160_3
     have hw160_2 := hx160_2
     have hw160_1 := hx160_1
     have hw160_0 := hx160_0
     obtain rfl : ad158 = ad160 := (by injection e160)
     replace hx160_0 := (HB.out.cell (World.block_lt_of_cell? w _ hx160_0)).trans hx160_0
     replace hx160_1 := (HB.out.cell (World.block_lt_of_cell? w _ hx160_1)).trans hx160_1
     replace hx160_2 := (HB.out.cell (World.block_lt_of_cell? w _ hx160_2)).trans hx160_2
     replace hx160_3 := (HB.out.cell (World.block_lt_of_cell? w _ hx160_3)).trans hx160_3
     replace p160 := eq_true p160
     replace q160 := eq_true q160
     refine start_ (n := 13) (S := fun w' => w'.cell? (ad158.add (((ji3)).toNat * 4)) = some (.int .i64 ((rd_T64 l0 (ji3)).f0)) ∧ w'.cell? ⟨(ad158.add (((ji3)).toNat * 4)).block, (ad158.add (((ji3)).toNat * 4)).off + 1, none⟩ = some (.int .i64 ((rd_T64 l0 (ji3)).f1)) ∧ w'.cell? ⟨(ad158.add (((ji3)).toNat * 4)).block, (ad158.add (((ji3)).toNat * 4)).off + 2, none⟩ = some (.int .i64 ((rd_T64 l0 (ji3)).f2)) ∧ w'.cell? ⟨(ad158.add (((ji3)).toNat * 4)).block, (ad158.add (((ji3)).toNat * 4)).off + 3, none⟩ = some (.bool ((rd_T64 l0 (ji3)).f3)) ∧ w'.cell? (ad158.add ((a1).toNat * 4)) = some (.int .i64 ((rd_T64 l0 a1).f0)) ∧ w'.cell? ⟨(ad158.add ((a1).toNat * 4)).block, (ad158.add ((a1).toNat * 4)).off + 1, none⟩ = some (.int .i64 ((rd_T64 l0 a1).f1)) ∧ w'.cell? ⟨(ad158.add ((a1).toNat * 4)).block, (ad158.add ((a1).toNat * 4)).off + 2, none⟩ = some (.int .i64 ((rd_T64 l0 a1).f2)) ∧ w'.cell? ⟨(ad158.add ((a1).toNat * 4)).block, (ad158.add ((a1).toNat * 4)).off + 3, none⟩ = some (.bool ((rd_T64 l0 a1).f3))) (ds := []) #[false, false, false, false, false, false, false, false, false, false, false, false, false] (by kernel_rfl) rfl rfl ⟨((HB.out.cell (World.block_lt_of_cell? w _ hw158_0)).trans hw158_0), ((HB.out.cell (World.block_lt_of_cell? w _ hw158_1)).trans hw158_1), ((HB.out.cell (World.block_lt_of_cell? w _ hw158_2)).trans hw158_2), ((HB.out.cell (World.block_lt_of_cell? w _ hw158_3)).trans hw158_3), ((HB.out.cell (World.block_lt_of_cell? w _ hw160_0)).trans hw160_0), ((HB.out.cell (World.block_lt_of_cell? w _ hw160_1)).trans hw160_1), ((HB.out.cell (World.block_lt_of_cell? w _ hw160_2)).trans hw160_2), ((HB.out.cell (World.block_lt_of_cell? w _ hw160_3)).trans hw160_3)⟩ (fun hHeld => ?_); refine with_tabW spec_lbNear.tab1 spec_lbNear.bits1 (fun HT_ HW_ => ?_)
     generalize w.drew = w11 at HB hx158_0 hx158_1 hx158_2 hx158_3 hx160_0 hx160_1 hx160_2 hx160_3 hHeld ⊢
     refine pure_ (i := 0) (N := some 9) (v := ?_) (a' := ?_) #[true, false, false, false, false, false, false, false, false, false, false, false, false] rfl rfl (any_of HT_.out (by kernel_rfl)) (fun _ _ _ h => h) (Or.inl ⟨by rfl, ?_⟩) ?_ ?_
     rotate_left
     ·intro w'
      go_simp
      with_reducible rfl
     rotate_left
     ·simp only [Act.put, List.setIfInBounds_toArray, List.set_cons_zero, List.set_cons_succ, i64_w]
      rfl
     refine pure_ (i := 1) (N := some 10) (v := ?_) (a' := ?_) #[true, true, false, false, false, false, false, false, false, false, false, false, false] rfl rfl (any_of HT_.out (by kernel_rfl)) (fun _ _ _ h => h) (Or.inl ⟨by rfl, ?_⟩) ?_ ?_
     rotate_left
     ·intro w'
      go_simp
      with_reducible rfl
     rotate_left
     ·simp only [Act.put, List.setIfInBounds_toArray, List.set_cons_zero, List.set_cons_succ, i64_w]
      rfl
     refine pure_ (i := 2) (N := some 11) (v := ?_) (a' := ?_) #[true, true, true, false, false, false, false, false, false, false, false, false, false] rfl rfl (any_of HT_.out (by kernel_rfl)) (fun _ _ _ h => h) (Or.inl ⟨by rfl, ?_⟩) ?_ ?_
     rotate_left
     ·intro w'
      go_simp
      with_reducible rfl
     rotate_left
     ·simp only [Act.put, List.setIfInBounds_toArray, List.set_cons_zero, List.set_cons_succ, i64_w]
      rfl
     refine pure_ (i := 3) (N := some 12) (v := ?_) (a' := ?_) #[true, true, true, true, false, false, false, false, false, false, false, false, false] rfl rfl (any_of HT_.out (by kernel_rfl)) (fun _ _ _ h => h) (Or.inl ⟨by rfl, ?_⟩) ?_ ?_
     rotate_left
     ·intro w'
      go_simp
      with_reducible rfl
     rotate_left
     ·simp only [Act.put, List.setIfInBounds_toArray, List.set_cons_zero, List.set_cons_succ, i64_w]
      rfl
     refine pure_ (i := 6) (N := some 15) (v := ?_) (a' := ?_) #[true, true, true, true, false, false, true, false, false, false, false, false, false] rfl rfl (any_of HT_.out (by kernel_rfl)) (fun _ _ _ h => h) (Or.inl ⟨by rfl, ?_⟩) ?_ ?_
     rotate_left
     ·intro w'
      go_simp
      with_reducible rfl
     rotate_left
     ·simp only [Act.put, List.setIfInBounds_toArray, List.set_cons_zero, List.set_cons_succ, i64_w]
      rfl
     refine pure_ (i := 7) (N := some 16) (v := ?_) (a' := ?_) #[true, true, true, true, false, false, true, true, false, false, false, false, false] rfl rfl (any_of HT_.out (by kernel_rfl)) (fun _ _ _ h => h) (Or.inl ⟨by rfl, ?_⟩) ?_ ?_
     rotate_left
     ·intro w'
      go_simp
      with_reducible rfl
     rotate_left
     ·simp only [Act.put, List.setIfInBounds_toArray, List.set_cons_zero, List.set_cons_succ, i64_w]
      rfl
     refine pure_ (i := 8) (N := some 17) (v := ?_) (a' := ?_) #[true, true, true, true, false, false, true, true, true, false, false, false, false] rfl rfl (any_of HT_.out (by kernel_rfl)) (fun _ _ _ h => h) (Or.inl ⟨by rfl, ?_⟩) ?_ ?_
     rotate_left
     ·intro w'
      go_simp
      with_reducible rfl
     rotate_left
     ·simp only [Act.put, List.setIfInBounds_toArray, List.set_cons_zero, List.set_cons_succ, i64_w]
      rfl
     refine take_ (i := 4) (N := some 13) (v := ?_) (a' := ?_) #[true, true, true, true, true, false, true, true, true, false, false, false, false] rfl rfl (take_ofW HT_.out HW_.out (by kernel_rfl)) (fun _ _ _ h => h) (Or.inl ⟨by rfl, ?_⟩) hHeld ?_ ?_
     rotate_left
     ·rintro w' ⟨s0, s1, s2, s3, s4, s5, s6, s7⟩
      go_simp
      with_reducible rfl
     rotate_left
     ·simp only [Act.put, List.setIfInBounds_toArray, List.set_cons_zero, List.set_cons_succ, i64_w]
      rfl
     refine take_ (i := 9) (N := some 18) (v := ?_) (a' := ?_) #[true, true, true, true, true, false, true, true, true, true, false, false, false] rfl rfl (take_ofW HT_.out HW_.out (by kernel_rfl)) (fun _ _ _ h => h) (Or.inl ⟨by rfl, ?_⟩) hHeld ?_ ?_
     rotate_left
     ·rintro w' ⟨s0, s1, s2, s3, s4, s5, s6, s7⟩
      go_simp
      with_reducible rfl
     rotate_left
     ·simp only [Act.put, List.setIfInBounds_toArray, List.set_cons_zero, List.set_cons_succ, i64_w]
      rfl
     refine one_ (i := 5) (N := some 14) #[true, true, true, true, true, true, true, true, true, true, false, false, false] rfl rfl (one_of HT_.out (by kernel_rfl)) (by decide) (fun K hK => ?_)
     refine goes_ Try.func76 (by kernel_rfl) rfl #[.agg #[.int .i64 ((rd_T64 l0 (ji3)).f0), .int .i64 ((rd_T64 l0 (ji3)).f1), .int .i64 ((rd_T64 l0 (ji3)).f2), .bool ((rd_T64 l0 (ji3)).f3)]] (by rfl) rfl rfl (by (try simp only [List.map_toArray, List.map_cons, List.map_nil]); first | done | (simp only [hji3]; rfl) | rfl | (simp only [List.length_drop, List.length_take]; rfl)) ?_
     with_reducible refine (spec_lbResolved.calls k ((rd_T64 l0 (ji3)).f0) ((rd_T64 l0 (ji3)).f1) ((rd_T64 l0 (ji3)).f2) ((rd_T64 l0 (ji3)).f3) t159 _ A6.out).mono ?_
     rintro e w12 ⟨rfl, hb⟩
     refine ⟨_, rfl, ?_⟩
     have n0_ := Aside0.mk (below_step bz hb)
     clear HB
     have HB := n0_
     clear n0_
     refine hK.out _ _ ⟨((HB.out.cell (World.block_lt_of_cell? w _ hw158_0)).trans hw158_0), ((HB.out.cell (World.block_lt_of_cell? w _ hw158_1)).trans hw158_1), ((HB.out.cell (World.block_lt_of_cell? w _ hw158_2)).trans hw158_2), ((HB.out.cell (World.block_lt_of_cell? w _ hw158_3)).trans hw158_3), ((HB.out.cell (World.block_lt_of_cell? w _ hw160_0)).trans hw160_0), ((HB.out.cell (World.block_lt_of_cell? w _ hw160_1)).trans hw160_1), ((HB.out.cell (World.block_lt_of_cell? w _ hw160_2)).trans hw160_2), ((HB.out.cell (World.block_lt_of_cell? w _ hw160_3)).trans hw160_3)⟩ (fun hHeld => ?_)
     clear hK K
     refine norm_ (a' := ?_) ?_ ?_
     rotate_left
     ·show Act.put _ (some 14) _ = _
      simp only [Act.put, List.setIfInBounds_toArray, List.set_cons_zero, List.set_cons_succ, i64_w]
      rfl
     refine one_ (i := 10) (N := some 19) #[true, true, true, true, true, true, true, true, true, true, true, false, false] rfl rfl (one_of HT_.out (by kernel_rfl)) (by decide) (fun K hK => ?_)
     refine goes_ Try.func76 (by kernel_rfl) rfl #[.agg #[.int .i64 ((rd_T64 l0 a1).f0), .int .i64 ((rd_T64 l0 a1).f1), .int .i64 ((rd_T64 l0 a1).f2), .bool ((rd_T64 l0 a1).f3)]] (by rfl) rfl rfl mz ?_
     with_reducible refine (spec_lbResolved.calls k ((rd_T64 l0 a1).f0) ((rd_T64 l0 a1).f1) ((rd_T64 l0 a1).f2) ((rd_T64 l0 a1).f3) t161 _ A9.out).mono ?_
     rintro e w13 ⟨rfl, hb⟩
     refine ⟨_, rfl, ?_⟩
     have n0_ := Aside0.mk (below_step bz hb)
     clear HB
     have HB := n0_
     clear n0_
     refine hK.out _ _ ⟨((HB.out.cell (World.block_lt_of_cell? w _ hw158_0)).trans hw158_0), ((HB.out.cell (World.block_lt_of_cell? w _ hw158_1)).trans hw158_1), ((HB.out.cell (World.block_lt_of_cell? w _ hw158_2)).trans hw158_2), ((HB.out.cell (World.block_lt_of_cell? w _ hw158_3)).trans hw158_3), ((HB.out.cell (World.block_lt_of_cell? w _ hw160_0)).trans hw160_0), ((HB.out.cell (World.block_lt_of_cell? w _ hw160_1)).trans hw160_1), ((HB.out.cell (World.block_lt_of_cell? w _ hw160_2)).trans hw160_2), ((HB.out.cell (World.block_lt_of_cell? w _ hw160_3)).trans hw160_3)⟩ (fun hHeld => ?_)
     clear hK K
     refine norm_ (a' := ?_) ?_ ?_
     rotate_left
     ·show Act.put _ (some 19) _ = _
      simp only [Act.put, List.setIfInBounds_toArray, List.set_cons_zero, List.set_cons_succ, i64_w]
      rfl
     refine pure_ (i := 11) (N := some 6) (v := ?_) (a' := ?_) #[true, true, true, true, true, true, true, true, true, true, true, true, false] rfl rfl (any_of HT_.out (by kernel_rfl)) (fun _ _ _ h => h) (Or.inl ⟨by rfl, ?_⟩) ?_ ?_
     rotate_left
     ·intro w'
      go_simp
      with_reducible rfl
     rotate_left
     ·simp only [Act.put, List.setIfInBounds_toArray, List.set_cons_zero, List.set_cons_succ, i64_w]
      rfl
     refine pure_ (i := 12) (N := some 7) (v := ?_) (a' := ?_) #[true, true, true, true, true, true, true, true, true, true, true, true, true] rfl rfl (any_of HT_.out (by kernel_rfl)) (fun _ _ _ h => h) (Or.inl ⟨by rfl, ?_⟩) ?_ ?_
     rotate_left
     ·intro w'
      go_simp
      with_reducible rfl
     rotate_left
     ·simp only [Act.put, List.setIfInBounds_toArray, List.set_cons_zero, List.set_cons_succ, i64_w]
      rfl
     refine done_ (done_of HT_.out (by kernel_rfl)) ?_
     go_upto_region 2 with (fail)
     go_cut [25] (fun v25 wc => ∃ (kq : Nat) (x25_9 : Bool), v25 = .bool x25_9 ∧ Aside0 (spec_lbNear.j0 kq l0 a1 t159 t161 x25_9 = some (r1, r2)) ∧ Aside0 (kq ≤ k) ∧ Aside0 (Below w.heap.size w wc))
     case first =>
      have H := HC10.out
      clear HC10
      by_cases c14 : t159 = 3
      ·rw [if_pos c14] at H
       have c14b0 : (t159 == 3) = true := beq_iff_eq.mpr c14
       have c14b1 : (t159 != 3) = false := bne_eq_false_iff_eq.mpr c14
       clear c14
       (first | rw [c14b0] | (simp only [i64_w]; rw [c14b0]) | skip)
       have H' := Aside0.mk H
       clear H
       go_wp2
       go_meet
       case rel => exact ⟨_, ((t161 == 5)), vz, H', ⟨by first | omega | exact Nat.le_refl _⟩, ⟨bz⟩⟩
      ·rw [if_neg c14] at H
       have c14b0 : (t159 == 3) = false := beq_eq_false_iff_ne.mpr c14
       have c14b1 : (t159 != 3) = true := bne_iff_ne.mpr c14
       (first | rw [c14b0] | (simp only [i64_w]; rw [c14b0]) | skip)
       have H' := Aside0.mk H
       clear H
       go_wp2
       go_meet
       case rel => exact ⟨_, (false), vz, H', ⟨by first | omega | exact Nat.le_refl _⟩, ⟨bz⟩⟩
     case rest =>
      clear HC10
      obtain ⟨kq, x25_9, rfl, HA, HJ9, HB⟩ := hcut
      cases kq with
      | zero => exact absurd HA.out (by simp [spec_lbNear.j0])
      | succ kj9 =>
       have H := HA.out
       clear HA
       simp only [spec_lbNear.j0] at H
       by_cases c15 : x25_9 = true
       ·subst c15
        rw [if_pos rfl] at H
        simp only [Option.some.injEq, Prod.mk.injEq] at H
        obtain ⟨rfl, rfl⟩ := H
        go_wp2
        go_ret2
        exact ⟨by first | rfl | (simp [errW_none, errW_some] <;> rfl) | (simp only [← hji3]; first | rfl | (simp [errW_none, errW_some] <;> rfl)) | (simp [*, errW_none, errW_some] <;> rfl), bz⟩
       ·replace c15 := Bool.eq_false_iff.mpr c15
        subst c15
        rw [if_neg (show ¬ (false = true) by decide)] at H
        replace H := Option.bind_eq_some_iff.mp H
        obtain ⟨t162, A160, H⟩ := H
        try dsimp only at H
        have A16 := Aside0.mk A160
        clear A160
        by_cases c17 : t162 = true
        ·subst c17
         rw [if_pos rfl] at H
         simp only [Option.some.injEq, Prod.mk.injEq] at H
         obtain ⟨rfl, rfl⟩ := H
         go_wp2_with (first | ((with_reducible refine gate_callee (f := 81) rfl ?_); refine goesL_ (some 27) rfl rfl Try.func81 (by kernel_rfl) rfl #[.int .i64 t159] rfl mz ?_; (with_reducible refine (spec_lbHard.calls kj9 t159 true _ A16.out).mono ?_); rintro e w18 ⟨rfl, hb⟩; refine ⟨_, rfl, ?_⟩; have n0_ := Aside0.mk (below_step bz hb); clear HB; have HB := n0_; clear n0_; (try clear hb); (try clear hb2); (try clear hk); (try clear hi)))
         go_ret2
         exact ⟨by first | rfl | (simp [errW_none, errW_some] <;> rfl) | (simp only [← hji3]; first | rfl | (simp [errW_none, errW_some] <;> rfl)) | (simp [*, errW_none, errW_some] <;> rfl), bz⟩
        ·replace c17 := Bool.eq_false_iff.mpr c17
         subst c17
         rw [if_neg (show ¬ (false = true) by decide)] at H
         have HC19 := Aside0.mk H
         clear H
         go_upto_region 6 with (first | ((with_reducible refine gate_callee (f := 81) rfl ?_); refine goesL_ (some 27) rfl rfl Try.func81 (by kernel_rfl) rfl #[.int .i64 t159] rfl mz ?_; (with_reducible refine (spec_lbHard.calls kj9 t159 false _ A16.out).mono ?_); rintro e w20 ⟨rfl, hb⟩; refine ⟨_, rfl, ?_⟩; have n0_ := Aside0.mk (below_step bz hb); clear HB; have HB := n0_; clear n0_; (try clear hb); (try clear hb2); (try clear hk); (try clear hi)))
         (try simp only [Act.put, List.setIfInBounds_toArray, List.set_cons_zero, List.set_cons_succ])
         go_cut [34] (fun v34 wc => ∃ (kq : Nat) (x34_18 : Bool), v34 = .bool x34_18 ∧ Aside0 (spec_lbNear.j1 kq l0 a1 t159 t161 x34_18 = some (r1, r2)) ∧ Aside0 (kq ≤ kj9) ∧ Aside0 (Below w.heap.size w wc))
         case first =>
          have H := HC19.out
          clear HC19
          replace H := Option.bind_eq_some_iff.mp H
          obtain ⟨t163, A210, H⟩ := H
          try dsimp only at H
          have A21 := Aside0.mk A210
          clear A210
          by_cases c22 : t163 = true
          ·subst c22
           rw [if_pos rfl] at H
           have H' := Aside0.mk H
           clear H
           go_wp2_with (first | ((with_reducible refine gate_callee (f := 81) rfl ?_); refine goesL_ (some 29) rfl rfl Try.func81 (by kernel_rfl) rfl #[.int .i64 t161] rfl mz ?_; (with_reducible refine (spec_lbHard.calls kj9 t161 true _ A21.out).mono ?_); rintro e w23 ⟨rfl, hb⟩; refine ⟨_, rfl, ?_⟩; have n0_ := Aside0.mk (below_step bz hb); clear HB; have HB := n0_; clear n0_; (try clear hb); (try clear hb2); (try clear hk); (try clear hi)))
           go_meet
           case rel => exact ⟨_, (true), vz, H', ⟨by have := HJ9.out; first | omega | exact Nat.le_refl _⟩, ⟨bz⟩⟩
          ·replace c22 := Bool.eq_false_iff.mpr c22
           subst c22
           rw [if_neg (show ¬ (false = true) by decide)] at H
           obtain ⟨y164, hy164⟩ : ∃ y_ : List Int, y_ = (([7, 9] : List Int)) := ⟨_, rfl⟩
           first | rw [← hy164] at H | simp only [← hy164] at H
           have Ny164 := Aside0.mk hy164
           clear hy164
           replace H := Option.bind_eq_some_iff.mp H
           obtain ⟨t167, A240, H⟩ := H
           try dsimp only at H
           have A24 := Aside0.mk A240
           clear A240
           have H' := Aside0.mk H
           clear H
           go_wp2_with (first | ((with_reducible refine gate_callee (f := 81) rfl ?_); refine goesL_ (some 29) rfl rfl Try.func81 (by kernel_rfl) rfl #[.int .i64 t161] rfl mz ?_; (with_reducible refine (spec_lbHard.calls kj9 t161 false _ A21.out).mono ?_); rintro e w25 ⟨rfl, hb⟩; refine ⟨_, rfl, ?_⟩; have n0_ := Aside0.mk (below_step bz hb); clear HB; have HB := n0_; clear n0_; (try clear hb); (try clear hb2); (try clear hk); (try clear hi)) | ((with_reducible refine gate_dst (N := 32) rfl ?_); (try (refine gate_guard (by rfl) ?_; dsimp only)); refine Kd.R_lit (Kd.int .i64) _ 3 ?hg (N := 32) ?hd (xs := ([7, 9] : List Int)) (inner := [.int .i64 7, .int .i64 9]) (ok := fun _ => True) (okp := fun _ => True) ?hr ?hp (fun _ hk => hk) trivial (Below.refl _ _) (Nat.le_refl _) (by simp) ?_; (case hd => rfl); (case hg => rfl); (case hr => first | (go_simp; done) | (go_simp; rfl)); (case hp => exact (Reps.one (show Kd.M (Kd.int .i64) _ _ _ 7 [.int .i64 7] from rfl) (Reps.one (show Kd.M (Kd.int .i64) _ _ _ 9 [.int .i64 9] from rfl) (Reps.none _ _)))); intro v165 w26 ho27 hb hg_ hnew_; clear hg_ hnew_; (first | rw [← Ny164.out] at ho27 | (simp only [Int.reduceToNat] at ho27; rw [← Ny164.out] at ho27)); have n0_ := Aside0.mk (Kd.R_lower ho27 (below_size bz)); have n1_ := Aside0.mk (below_step bz hb); clear HB; have HO166 := n0_; have HB := n1_; clear n0_ n1_; clear hb ho27; obtain ⟨Ao28, co28, eo28⟩ := Kd.R_slice HO166.out; subst eo28) | (go_at_call 42; (with_reducible refine (spec_among.calls kj9 t161 _ _ y164 t167 _ ?side1 ?side2 A24.out).mono ?_); (case side1 => repeat (first | exact (Kd.R_reads' HO166.out).2.2 | (with_reducible refine Kd.C_alloc ?_ _) | (with_reducible refine Kd.C_drewN ?_ _) | (with_reducible refine Kd.C_drew ?_))); (case side2 => exact (Kd.R_reads' HO166.out).2.1); rintro e w' ⟨rfl, ⟨nd, rfl⟩⟩))
           go_meet
           case rel => exact ⟨_, (t167), vz, H', ⟨by have := HJ9.out; first | omega | exact Nat.le_refl _⟩, ⟨bz⟩⟩
         case rest =>
          clear HC19
          obtain ⟨kq, x34_18, rfl, HA, HJ18, HB⟩ := hcut
          cases kq with
          | zero => exact absurd HA.out (by simp [spec_lbNear.j1])
          | succ kj18 =>
           have H := HA.out
           clear HA
           simp only [spec_lbNear.j1] at H
           by_cases c29 : x34_18 = true
           ·subst c29
            rw [if_pos rfl] at H
            simp only [Option.some.injEq, Prod.mk.injEq] at H
            obtain ⟨rfl, rfl⟩ := H
            go_wp2
            go_ret2
            exact ⟨by first | rfl | (simp [errW_none, errW_some] <;> rfl) | (simp only [← hji3]; first | rfl | (simp [errW_none, errW_some] <;> rfl)) | (simp [*, errW_none, errW_some] <;> rfl), bz⟩
           ·replace c29 := Bool.eq_false_iff.mpr c29
            subst c29
            rw [if_neg (show ¬ (false = true) by decide)] at H
            have HC30 := Aside0.mk H
            clear H
            go_upto_block 0 with (fail)
            go_cut [8] (fun v8 wc => ∃ (kq : Nat) (x8_29 : Int), v8 = .int .i64 x8_29 ∧ Aside0 (spec_lbNear.j3 kq l0 t159 t161 x8_29 = some (r1, r2)) ∧ Aside0 (kq ≤ kj18) ∧ Aside0 (Below w.heap.size w wc))
            case first =>
             have H := HC30.out
             clear HC30
             have H' := Aside0.mk H
             clear H
             go_wp2
             go_loopg [8] kj18 (fun kq v8 w' => ∃ (x8_3 : Int), v8 = .int .i64 x8_3 ∧ Aside0 (spec_lbNear.l0 kq l0 t159 t161 x8_3 = some (r1, r2)) ∧ Aside0 (kq ≤ kj18) ∧ Aside0 (Below w.heap.size w w'))
             case atStart => exact ⟨(wrap64 (a1 - 1)), vz, H', ⟨Nat.le_refl _⟩, ⟨bz⟩⟩
             case round =>
              clear H'
              obtain ⟨x8_3, rfl, HA, HK3, HB⟩ := hrel
              cases gk with
              | zero => exact absurd HA.out (by simp [spec_lbNear.l0])
              | succ k3 =>
               have H := HA.out
               clear HA
               simp only [spec_lbNear.l0] at H
               by_cases c31 : x8_3 ≥ 0
               ·rw [if_pos c31] at H
                have c31b0 : decide (0 ≤ x8_3) = true := decide_eq_true c31
                clear c31
                (first | rw [c31b0] | (simp only [i64_w]; rw [c31b0]) | skip)
                by_cases c32 : 0 ≤ x8_3
                ·rw [if_pos c32] at H
                 have c32b0 : decide (0 ≤ x8_3) = true := decide_eq_true c32
                 clear c32
                 by_cases c33 : x8_3 < (l0.length : Int)
                 ·rw [if_pos c33] at H
                  have c33b0 : decide (x8_3 < (l0.length : Int)) = true := decide_eq_true c33
                  clear c33
                  replace H := Option.bind_eq_some_iff.mp H
                  obtain ⟨t169, A340, H⟩ := H
                  try dsimp only at H
                  have A34 := Aside0.mk A340
                  clear A340
                  by_cases c35 : t169 = 7
                  ·rw [if_pos c35] at H
                   have c35b0 : (t169 == 7) = true := beq_iff_eq.mpr c35
                   have c35b1 : (t169 != 7) = false := bne_eq_false_iff_eq.mpr c35
                   clear c35
                   have H' := Aside0.mk H
                   clear H
                   have p168 : 0 ≤ (x8_3 : Int) := of_decide_eq_true az
                   have q168 : x8_3 < (l0.length : Int) := of_decide_eq_true az
                   obtain ⟨ad168, e168, hx168_0, hx168_1, hx168_2, hx168_3⟩ := at_T64 HR0.out x8_3 p168 q168
                   obtain rfl : ad158 = ad168 := (by injection e168)
                   replace hx168_0 := (HB.out.cell (World.block_lt_of_cell? w _ hx168_0)).trans hx168_0
                   replace hx168_1 := (HB.out.cell (World.block_lt_of_cell? w _ hx168_1)).trans hx168_1
                   replace hx168_2 := (HB.out.cell (World.block_lt_of_cell? w _ hx168_2)).trans hx168_2
                   replace hx168_3 := (HB.out.cell (World.block_lt_of_cell? w _ hx168_3)).trans hx168_3
                   replace p168 := eq_true p168
                   replace q168 := eq_true q168
                   go_wp2_with (first | (go_at_call 76; (with_reducible refine (spec_lbResolved.calls k3 ((rd_T64 l0 x8_3).f0) ((rd_T64 l0 x8_3).f1) ((rd_T64 l0 x8_3).f2) ((rd_T64 l0 x8_3).f3) t169 _ A34.out).mono ?_); rintro e w36 ⟨rfl, hb⟩; have n0_ := Aside0.mk (below_step bz hb); clear HB; have HB := n0_; clear n0_; (try clear hb); (try clear hb2); (try clear hk); (try clear hi)))
                   go_roundg k3
                   case measure => have := HJ9.out; have := HJ18.out; have := HK3.out; omega
                   case rel => exact ⟨(wrap64 (x8_3 - 1)), vz, H', ⟨by have := HJ9.out; have := HJ18.out; have := HK3.out; omega⟩, ⟨bz⟩⟩
                  ·rw [if_neg c35] at H
                   have c35b0 : (t169 == 7) = false := beq_eq_false_iff_ne.mpr c35
                   have c35b1 : (t169 != 7) = true := bne_iff_ne.mpr c35
                   have H' := Aside0.mk H
                   clear H
                   have p168 : 0 ≤ (x8_3 : Int) := of_decide_eq_true az
                   have q168 : x8_3 < (l0.length : Int) := of_decide_eq_true az
                   obtain ⟨ad168, e168, hx168_0, hx168_1, hx168_2, hx168_3⟩ := at_T64 HR0.out x8_3 p168 q168
                   obtain rfl : ad158 = ad168 := (by injection e168)
                   replace hx168_0 := (HB.out.cell (World.block_lt_of_cell? w _ hx168_0)).trans hx168_0
                   replace hx168_1 := (HB.out.cell (World.block_lt_of_cell? w _ hx168_1)).trans hx168_1
                   replace hx168_2 := (HB.out.cell (World.block_lt_of_cell? w _ hx168_2)).trans hx168_2
                   replace hx168_3 := (HB.out.cell (World.block_lt_of_cell? w _ hx168_3)).trans hx168_3
                   replace p168 := eq_true p168
                   replace q168 := eq_true q168
                   go_wp2_with (first | (go_at_call 76; (with_reducible refine (spec_lbResolved.calls k3 ((rd_T64 l0 x8_3).f0) ((rd_T64 l0 x8_3).f1) ((rd_T64 l0 x8_3).f2) ((rd_T64 l0 x8_3).f3) t169 _ A34.out).mono ?_); rintro e w37 ⟨rfl, hb⟩; have n0_ := Aside0.mk (below_step bz hb); clear HB; have HB := n0_; clear n0_; (try clear hb); (try clear hb2); (try clear hk); (try clear hi)))
                   go_meet
                   case rel => exact ⟨_, (x8_3), vz, H', ⟨by have := HJ9.out; have := HJ18.out; have := HK3.out; first | omega | exact Nat.le_refl _⟩, ⟨bz⟩⟩
                 ·rw [if_neg c33] at H
                  exact absurd H (by simp)
                ·rw [if_neg c32] at H
                 exact absurd H (by simp)
               ·rw [if_neg c31] at H
                have c31b0 : decide (0 ≤ x8_3) = false := decide_eq_false c31
                clear c31
                (first | rw [c31b0] | (simp only [i64_w]; rw [c31b0]) | skip)
                have H' := Aside0.mk H
                clear H
                go_wp2
                go_meet
                case rel => exact ⟨_, (x8_3), vz, H', ⟨by have := HJ9.out; have := HJ18.out; have := HK3.out; first | omega | exact Nat.le_refl _⟩, ⟨bz⟩⟩
            case rest =>
             clear HC30
             obtain ⟨kq, x8_29, rfl, HA, HJ29, HB⟩ := hcut
             cases kq with
             | zero => exact absurd HA.out (by simp [spec_lbNear.j3])
             | succ kj29 =>
              have H := HA.out
              clear HA
              simp only [spec_lbNear.j3] at H
              have HC38 := Aside0.mk H
              clear H
              go_upto_region 11 with (fail)
              go_cut [58] (fun v58 wc => ∃ (kq : Nat) (x58_37 : Bool), v58 = .bool x58_37 ∧ Aside0 (spec_lbNear.j4 kq t159 t161 x58_37 = some (r1, r2)) ∧ Aside0 (kq ≤ kj29) ∧ Aside0 (Below w.heap.size w wc))
              case first =>
               have H := HC38.out
               clear HC38
               by_cases c39 : x8_29 ≥ 0
               ·rw [if_pos c39] at H
                have c39b0 : decide (0 ≤ x8_29) = true := decide_eq_true c39
                clear c39
                (first | rw [c39b0] | (simp only [i64_w]; rw [c39b0]) | skip)
                by_cases c40 : 0 ≤ x8_29
                ·rw [if_pos c40] at H
                 have c40b0 : decide (0 ≤ x8_29) = true := decide_eq_true c40
                 clear c40
                 by_cases c41 : x8_29 < (l0.length : Int)
                 ·rw [if_pos c41] at H
                  have c41b0 : decide (x8_29 < (l0.length : Int)) = true := decide_eq_true c41
                  clear c41
                  replace H := Option.bind_eq_some_iff.mp H
                  obtain ⟨t171, A420, H⟩ := H
                  try dsimp only at H
                  have A42 := Aside0.mk A420
                  clear A420
                  have H' := Aside0.mk H
                  clear H
                  have p170 : 0 ≤ (x8_29 : Int) := of_decide_eq_true az
                  have q170 : x8_29 < (l0.length : Int) := of_decide_eq_true az
                  obtain ⟨ad170, e170, hx170_0, hx170_1, hx170_2, hx170_3⟩ := at_T64 HR0.out x8_29 p170 q170
                  obtain rfl : ad158 = ad170 := (by injection e170)
                  replace hx170_0 := (HB.out.cell (World.block_lt_of_cell? w _ hx170_0)).trans hx170_0
                  replace hx170_1 := (HB.out.cell (World.block_lt_of_cell? w _ hx170_1)).trans hx170_1
                  replace hx170_2 := (HB.out.cell (World.block_lt_of_cell? w _ hx170_2)).trans hx170_2
                  replace hx170_3 := (HB.out.cell (World.block_lt_of_cell? w _ hx170_3)).trans hx170_3
                  replace p170 := eq_true p170
                  replace q170 := eq_true q170
                  go_wp2_with (first | (go_at_call 76; (with_reducible refine (spec_lbResolved.calls kj29 ((rd_T64 l0 x8_29).f0) ((rd_T64 l0 x8_29).f1) ((rd_T64 l0 x8_29).f2) ((rd_T64 l0 x8_29).f3) t171 _ A42.out).mono ?_); rintro e w43 ⟨rfl, hb⟩; have n0_ := Aside0.mk (below_step bz hb); clear HB; have HB := n0_; clear n0_; (try clear hb); (try clear hb2); (try clear hk); (try clear hi)))
                  go_meet
                  case rel => exact ⟨_, ((t171 == 9)), vz, H', ⟨by have := HJ9.out; have := HJ18.out; have := HJ29.out; first | omega | exact Nat.le_refl _⟩, ⟨bz⟩⟩
                 ·rw [if_neg c41] at H
                  exact absurd H (by simp)
                ·rw [if_neg c40] at H
                 exact absurd H (by simp)
               ·rw [if_neg c39] at H
                have c39b0 : decide (0 ≤ x8_29) = false := decide_eq_false c39
                clear c39
                (first | rw [c39b0] | (simp only [i64_w]; rw [c39b0]) | skip)
                have H' := Aside0.mk H
                clear H
                go_wp2
                go_meet
                case rel => exact ⟨_, (false), vz, H', ⟨by have := HJ9.out; have := HJ18.out; have := HJ29.out; first | omega | exact Nat.le_refl _⟩, ⟨bz⟩⟩
              case rest =>
               clear HC38
               obtain ⟨kq, x58_37, rfl, HA, HJ37, HB⟩ := hcut
               cases kq with
               | zero => exact absurd HA.out (by simp [spec_lbNear.j4])
               | succ kj37 =>
                have H := HA.out
                clear HA
                simp only [spec_lbNear.j4] at H
                by_cases c44 : x58_37 = true
                ·subst c44
                 rw [if_pos rfl] at H
                 simp only [Option.some.injEq, Prod.mk.injEq] at H
                 obtain ⟨rfl, rfl⟩ := H
                 go_wp2
                 go_ret2
                 exact ⟨by first | rfl | (simp [errW_none, errW_some] <;> rfl) | (simp only [← hji3]; first | rfl | (simp [errW_none, errW_some] <;> rfl)) | (simp [*, errW_none, errW_some] <;> rfl), bz⟩
                ·replace c44 := Bool.eq_false_iff.mpr c44
                 subst c44
                 rw [if_neg (show ¬ (false = true) by decide)] at H
                 by_cases c45 : t159 = 10
                 ·rw [if_pos c45] at H
                  have c45b0 : (t159 == 10) = true := beq_iff_eq.mpr c45
                  have c45b1 : (t159 != 10) = false := bne_eq_false_iff_eq.mpr c45
                  clear c45
                  simp only [Option.some.injEq, Prod.mk.injEq] at H
                  obtain ⟨rfl, rfl⟩ := H
                  go_wp2
                  go_ret2
                  exact ⟨by first | rfl | (simp [errW_none, errW_some] <;> rfl) | (simp only [← hji3]; first | rfl | (simp [errW_none, errW_some] <;> rfl)) | (simp [*, errW_none, errW_some] <;> rfl), bz⟩
                 ·rw [if_neg c45] at H
                  have c45b0 : (t159 == 10) = false := beq_eq_false_iff_ne.mpr c45
                  have c45b1 : (t159 != 10) = true := bne_iff_ne.mpr c45
                  replace H := Option.bind_eq_some_iff.mp H
                  obtain ⟨t172, A460, H⟩ := H
                  try dsimp only at H
                  have A46 := Aside0.mk A460
                  clear A460
                  by_cases c47 : t172 = true
                  ·subst c47
                   rw [if_pos rfl] at H
                   replace H := Option.bind_eq_some_iff.mp H
                   obtain ⟨t173, A480, H⟩ := H
                   try dsimp only at H
                   have A48 := Aside0.mk A480
                   clear A480
                   by_cases c49 : t173 = true
                   ·subst c49
                    rw [if_pos rfl] at H
                    simp only [Option.some.injEq, Prod.mk.injEq] at H
                    obtain ⟨rfl, rfl⟩ := H
                    go_wp2_with (first | ((with_reducible refine gate_callee (f := 75) rfl ?_); refine goesL_ (some 62) rfl rfl Try.func75 (by kernel_rfl) rfl #[.int .i64 t161] rfl mz ?_; (with_reducible refine (spec_lbMark.calls kj37 t161 true _ A46.out).mono ?_); rintro e w50 ⟨rfl, hb⟩; refine ⟨_, rfl, ?_⟩; have n0_ := Aside0.mk (below_step bz hb); clear HB; have HB := n0_; clear n0_; (try clear hb); (try clear hb2); (try clear hk); (try clear hi)) | (go_at_call 82; (with_reducible refine (spec_lbBare.calls kj37 t159 true _ A48.out).mono ?_); rintro e w51 ⟨rfl, hb⟩; have n0_ := Aside0.mk (below_step bz hb); clear HB; have HB := n0_; clear n0_; (try clear hb); (try clear hb2); (try clear hk); (try clear hi)))
                    go_ret2
                    exact ⟨by first | rfl | (simp [errW_none, errW_some] <;> rfl) | (simp only [← hji3]; first | rfl | (simp [errW_none, errW_some] <;> rfl)) | (simp [*, errW_none, errW_some] <;> rfl), bz⟩
                   ·replace c49 := Bool.eq_false_iff.mpr c49
                    subst c49
                    rw [if_neg (show ¬ (false = true) by decide)] at H
                    simp only [Option.some.injEq, Prod.mk.injEq] at H
                    obtain ⟨rfl, rfl⟩ := H
                    go_wp2_with (first | ((with_reducible refine gate_callee (f := 75) rfl ?_); refine goesL_ (some 62) rfl rfl Try.func75 (by kernel_rfl) rfl #[.int .i64 t161] rfl mz ?_; (with_reducible refine (spec_lbMark.calls kj37 t161 true _ A46.out).mono ?_); rintro e w52 ⟨rfl, hb⟩; refine ⟨_, rfl, ?_⟩; have n0_ := Aside0.mk (below_step bz hb); clear HB; have HB := n0_; clear n0_; (try clear hb); (try clear hb2); (try clear hk); (try clear hi)) | (go_at_call 82; (with_reducible refine (spec_lbBare.calls kj37 t159 false _ A48.out).mono ?_); rintro e w53 ⟨rfl, hb⟩; have n0_ := Aside0.mk (below_step bz hb); clear HB; have HB := n0_; clear n0_; (try clear hb); (try clear hb2); (try clear hk); (try clear hi)))
                    go_ret2
                    exact ⟨by first | rfl | (simp [errW_none, errW_some] <;> rfl) | (simp only [← hji3]; first | rfl | (simp [errW_none, errW_some] <;> rfl)) | (simp [*, errW_none, errW_some] <;> rfl), bz⟩
                  ·replace c47 := Bool.eq_false_iff.mpr c47
                   subst c47
                   rw [if_neg (show ¬ (false = true) by decide)] at H
                   simp only [Option.some.injEq, Prod.mk.injEq] at H
                   obtain ⟨rfl, rfl⟩ := H
                   go_wp2_with (first | ((with_reducible refine gate_callee (f := 75) rfl ?_); refine goesL_ (some 62) rfl rfl Try.func75 (by kernel_rfl) rfl #[.int .i64 t161] rfl mz ?_; (with_reducible refine (spec_lbMark.calls kj37 t161 false _ A46.out).mono ?_); rintro e w54 ⟨rfl, hb⟩; refine ⟨_, rfl, ?_⟩; have n0_ := Aside0.mk (below_step bz hb); clear HB; have HB := n0_; clear n0_; (try clear hb); (try clear hb2); (try clear hk); (try clear hi)))
                   go_ret2
                   exact ⟨by first | rfl | (simp [errW_none, errW_some] <;> rfl) | (simp only [← hji3]; first | rfl | (simp [errW_none, errW_some] <;> rfl)) | (simp [*, errW_none, errW_some] <;> rfl), bz⟩
    ·rw [if_neg c8] at H
     exact absurd H (by simp)
   ·rw [if_neg c7] at H
    exact absurd H (by simp)
  ·rw [if_neg c5] at H
   exact absurd H (by simp)
 ·rw [if_neg c4] at H
  exact absurd H (by simp)

end Go.Proofs.Ytnanfoahimccpaa.Ln
