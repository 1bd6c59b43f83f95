/- Functions of the translation as Lean functions, and their walks: lines written by a program, a turned copy of the kit's print. -/
import Derived.Test.YtnanfoahimccpaaWdx0
import Derived.Test.YtnanfoahimccpaaWdx2
import Derived.Test.YtnanfoahimccpaaWdx3
import Derived.Test.YtnanfoahimccpaaWdx4
import Derived.Test.YtnanfoahimccpaaWdx5
namespace Go.Proofs.Ytnanfoahimccpaa.Wd
open Go.RowKit Go.Proofs.YtnanfoahimccpaaW.PrintWords Go.Proofs.YtnanfoahimccpaaW.PrintLast Go.Proofs.YtnanfoahimccpaaW.PrintMore
attribute [local go_sem] max2_int min2_int max_two min_two max_three min_three max_four min_four   -- for this text's walks alone
set_option linter.unusedVariables false
set_option linter.unusedSimpArgs false

/-! ### spec_WordBreak: function 14 -/
mutual
def spec_WordBreak.j0 : Nat → List (S32) → Int → Bool → Bool → Option (Bool)
  | 0, _, _, _, _ => none
  | k + 1, x0, x1, x6, x32 => if x32 = true then (some x6) else ((spec_wbKindAhead.f k x0 x1).bind fun bt163 => ((spec_wbKindAhead.f k x0 bt163.2).bind fun bt165 => (if 0 ≤ x1 then (if x1 < (x0.length : Int) then ((spec_wbBehind.f k x0 x1).bind fun t168 => ((spec_wbLetters.f k bt165.1 bt163.1 ((rd_T32 x0 x1).f0) t168).bind fun t169 => (if t169 = true then (spec_WordBreak.j1 k x0 bt163.1 bt163.2 ((rd_T32 x0 x1).f0) true) else ((spec_wbNumbers.f k bt165.1 bt163.1 ((rd_T32 x0 x1).f0) t168).bind fun t170 => (if t170 = true then (spec_WordBreak.j1 k x0 bt163.1 bt163.2 ((rd_T32 x0 x1).f0) true) else ((spec_wbWide.f k bt163.1 ((rd_T32 x0 x1).f0)).bind fun t171 => (spec_WordBreak.j1 k x0 bt163.1 bt163.2 ((rd_T32 x0 x1).f0) t171))))))) else (none)) else (none))))
def spec_WordBreak.j1 : Nat → List (S32) → Int → Int → Int → Bool → Option (Bool)
  | 0, _, _, _, _, _ => none
  | k + 1, x0, x7, x8, x11, x70 => if x70 = true then (some false) else (if x7 = 7 then (spec_WordBreak.j2 k x0 x7 x8 (x11 != 7)) else (spec_WordBreak.j2 k x0 x7 x8 true))
def spec_WordBreak.j2 : Nat → List (S32) → Int → Int → Bool → Option (Bool)
  | 0, _, _, _, _ => none
  | k + 1, x0, x7, x8, x76 => if x76 = true then (some true) else (spec_WordBreak.l0 k x0 0 x7 x8)
def spec_WordBreak.l0 : Nat → List (S32) → Int → Int → Int → Option (Bool)
  | 0, _, _, _, _ => none
  | k + 1, x0, x13, x14, x15 => if x14 = 7 then ((spec_wbKindAhead.f k x0 x15).bind fun bt172 => (spec_WordBreak.l0 k x0 (wrap64 (x13 + 1)) bt172.1 bt172.2)) else (some ((Int.tmod x13 2) == 0))
end
def spec_WordBreak.f (k : Nat) (l0 : List (S32)) (a1 : Int) : Option (Bool) := if 0 ≤ (wrap64 (a1 - 1)) then (if (wrap64 (a1 - 1)) < (l0.length : Int) then (if 0 ≤ a1 then (if a1 < (l0.length : Int) then ((spec_wbNear.f k ((rd_T32 l0 (wrap64 (a1 - 1))).f0) ((rd_T32 l0 (wrap64 (a1 - 1))).f1) ((rd_T32 l0 a1).f0) ((rd_T32 l0 a1).f1)).bind fun bt161 => (if bt161.1 = true then (spec_WordBreak.j0 k l0 a1 bt161.2 true) else (spec_WordBreak.j0 k l0 a1 bt161.2 bt161.2))) else (none)) else (none)) else (none)) else (none)
theorem spec_WordBreak.mono_l : ∀ k, (∀ y0 y1 y2 y3, LeO (spec_WordBreak.j0 k y0 y1 y2 y3) (spec_WordBreak.j0 (k + 1) y0 y1 y2 y3)) ∧ (∀ y0 y1 y2 y3 y4, LeO (spec_WordBreak.j1 k y0 y1 y2 y3 y4) (spec_WordBreak.j1 (k + 1) y0 y1 y2 y3 y4)) ∧ (∀ y0 y1 y2 y3, LeO (spec_WordBreak.j2 k y0 y1 y2 y3) (spec_WordBreak.j2 (k + 1) y0 y1 y2 y3)) ∧ (∀ y0 y1 y2 y3, LeO (spec_WordBreak.l0 k y0 y1 y2 y3) (spec_WordBreak.l0 (k + 1) y0 y1 y2 y3))
  | 0 => ⟨fun _ _ _ _ r h => by simp [spec_WordBreak.j0] at h, fun _ _ _ _ _ r h => by simp [spec_WordBreak.j1] at h, fun _ _ _ _ r h => by simp [spec_WordBreak.j2] at h, fun _ _ _ _ r h => by simp [spec_WordBreak.l0] at h⟩
  | k + 1 => by
    obtain ⟨ih0, ih1, ih2, ih3⟩ := spec_WordBreak.mono_l k
    refine ⟨?_, ?_, ?_, ?_⟩
    · intro y0 y1 y2 y3
      unfold spec_WordBreak.j0
      repeat' first
      | (with_reducible exact ih0 _ _ _ _)
      | (with_reducible exact ih1 _ _ _ _ _)
      | (with_reducible exact ih2 _ _ _ _)
      | (with_reducible exact ih3 _ _ _ _)
      | (with_reducible exact spec_wbBehind.mono _ _ _)
      | (with_reducible exact spec_wbKindAhead.mono _ _ _)
      | (with_reducible exact spec_wbLetters.mono _ _ _ _ _)
      | (with_reducible exact spec_wbNear.mono _ _ _ _ _)
      | (with_reducible exact spec_wbNumbers.mono _ _ _ _ _)
      | (with_reducible exact spec_wbWide.mono _ _ _)
      | (with_reducible exact LeO.refl _)
      | (with_reducible exact LeO.none _)
      | (with_reducible refine LeO.ite ?_ ?_)
      | (with_reducible refine LeO.bind ?_ (fun _ => ?_))
      | exact ih0 _ _ _ _
      | exact ih1 _ _ _ _ _
      | exact ih2 _ _ _ _
      | exact ih3 _ _ _ _
      | exact spec_wbBehind.mono _ _ _
      | exact spec_wbKindAhead.mono _ _ _
      | exact spec_wbLetters.mono _ _ _ _ _
      | exact spec_wbNear.mono _ _ _ _ _
      | exact spec_wbNumbers.mono _ _ _ _ _
      | exact spec_wbWide.mono _ _ _
      | exact LeO.none _
      | refine LeO.ite ?_ ?_
      | refine LeO.bind ?_ (fun _ => ?_)
    · intro y0 y1 y2 y3 y4
      unfold spec_WordBreak.j1
      repeat' first
      | (with_reducible exact ih0 _ _ _ _)
      | (with_reducible exact ih1 _ _ _ _ _)
      | (with_reducible exact ih2 _ _ _ _)
      | (with_reducible exact ih3 _ _ _ _)
      | (with_reducible exact spec_wbBehind.mono _ _ _)
      | (with_reducible exact spec_wbKindAhead.mono _ _ _)
      | (with_reducible exact spec_wbLetters.mono _ _ _ _ _)
      | (with_reducible exact spec_wbNear.mono _ _ _ _ _)
      | (with_reducible exact spec_wbNumbers.mono _ _ _ _ _)
      | (with_reducible exact spec_wbWide.mono _ _ _)
      | (with_reducible exact LeO.refl _)
      | (with_reducible exact LeO.none _)
      | (with_reducible refine LeO.ite ?_ ?_)
      | (with_reducible refine LeO.bind ?_ (fun _ => ?_))
      | exact ih0 _ _ _ _
      | exact ih1 _ _ _ _ _
      | exact ih2 _ _ _ _
      | exact ih3 _ _ _ _
      | exact spec_wbBehind.mono _ _ _
      | exact spec_wbKindAhead.mono _ _ _
      | exact spec_wbLetters.mono _ _ _ _ _
      | exact spec_wbNear.mono _ _ _ _ _
      | exact spec_wbNumbers.mono _ _ _ _ _
      | exact spec_wbWide.mono _ _ _
      | exact LeO.none _
      | refine LeO.ite ?_ ?_
      | refine LeO.bind ?_ (fun _ => ?_)
    · intro y0 y1 y2 y3
      unfold spec_WordBreak.j2
      repeat' first
      | (with_reducible exact ih0 _ _ _ _)
      | (with_reducible exact ih1 _ _ _ _ _)
      | (with_reducible exact ih2 _ _ _ _)
      | (with_reducible exact ih3 _ _ _ _)
      | (with_reducible exact spec_wbBehind.mono _ _ _)
      | (with_reducible exact spec_wbKindAhead.mono _ _ _)
      | (with_reducible exact spec_wbLetters.mono _ _ _ _ _)
      | (with_reducible exact spec_wbNear.mono _ _ _ _ _)
      | (with_reducible exact spec_wbNumbers.mono _ _ _ _ _)
      | (with_reducible exact spec_wbWide.mono _ _ _)
      | (with_reducible exact LeO.refl _)
      | (with_reducible exact LeO.none _)
      | (with_reducible refine LeO.ite ?_ ?_)
      | (with_reducible refine LeO.bind ?_ (fun _ => ?_))
      | exact ih0 _ _ _ _
      | exact ih1 _ _ _ _ _
      | exact ih2 _ _ _ _
      | exact ih3 _ _ _ _
      | exact spec_wbBehind.mono _ _ _
      | exact spec_wbKindAhead.mono _ _ _
      | exact spec_wbLetters.mono _ _ _ _ _
      | exact spec_wbNear.mono _ _ _ _ _
      | exact spec_wbNumbers.mono _ _ _ _ _
      | exact spec_wbWide.mono _ _ _
      | exact LeO.none _
      | refine LeO.ite ?_ ?_
      | refine LeO.bind ?_ (fun _ => ?_)
    · intro y0 y1 y2 y3
      unfold spec_WordBreak.l0
      repeat' first
      | (with_reducible exact ih0 _ _ _ _)
      | (with_reducible exact ih1 _ _ _ _ _)
      | (with_reducible exact ih2 _ _ _ _)
      | (with_reducible exact ih3 _ _ _ _)
      | (with_reducible exact spec_wbBehind.mono _ _ _)
      | (with_reducible exact spec_wbKindAhead.mono _ _ _)
      | (with_reducible exact spec_wbLetters.mono _ _ _ _ _)
      | (with_reducible exact spec_wbNear.mono _ _ _ _ _)
      | (with_reducible exact spec_wbNumbers.mono _ _ _ _ _)
      | (with_reducible exact spec_wbWide.mono _ _ _)
      | (with_reducible exact LeO.refl _)
      | (with_reducible exact LeO.none _)
      | (with_reducible refine LeO.ite ?_ ?_)
      | (with_reducible refine LeO.bind ?_ (fun _ => ?_))
      | exact ih0 _ _ _ _
      | exact ih1 _ _ _ _ _
      | exact ih2 _ _ _ _
      | exact ih3 _ _ _ _
      | exact spec_wbBehind.mono _ _ _
      | exact spec_wbKindAhead.mono _ _ _
      | exact spec_wbLetters.mono _ _ _ _ _
      | exact spec_wbNear.mono _ _ _ _ _
      | exact spec_wbNumbers.mono _ _ _ _ _
      | exact spec_wbWide.mono _ _ _
      | exact LeO.none _
      | refine LeO.ite ?_ ?_
      | refine LeO.bind ?_ (fun _ => ?_)
theorem spec_WordBreak.mono : ∀ a0 a1 k, LeO (spec_WordBreak.f k a0 a1) (spec_WordBreak.f (k + 1) a0 a1) := by
  intro a0 a1 k
  obtain ⟨ih0, ih1, ih2, ih3⟩ := spec_WordBreak.mono_l k
  unfold spec_WordBreak.f
  repeat' first
      | (with_reducible exact ih0 _ _ _ _)
      | (with_reducible exact ih1 _ _ _ _ _)
      | (with_reducible exact ih2 _ _ _ _)
      | (with_reducible exact ih3 _ _ _ _)
      | (with_reducible exact spec_wbBehind.mono _ _ _)
      | (with_reducible exact spec_wbKindAhead.mono _ _ _)
      | (with_reducible exact spec_wbLetters.mono _ _ _ _ _)
      | (with_reducible exact spec_wbNear.mono _ _ _ _ _)
      | (with_reducible exact spec_wbNumbers.mono _ _ _ _ _)
      | (with_reducible exact spec_wbWide.mono _ _ _)
      | (with_reducible exact LeO.refl _)
      | (with_reducible exact LeO.none _)
      | (with_reducible refine LeO.ite ?_ ?_)
      | (with_reducible refine LeO.bind ?_ (fun _ => ?_))
      | exact ih0 _ _ _ _
      | exact ih1 _ _ _ _ _
      | exact ih2 _ _ _ _
      | exact ih3 _ _ _ _
      | exact spec_wbBehind.mono _ _ _
      | exact spec_wbKindAhead.mono _ _ _
      | exact spec_wbLetters.mono _ _ _ _ _
      | exact spec_wbNear.mono _ _ _ _ _
      | exact spec_wbNumbers.mono _ _ _ _ _
      | exact spec_wbWide.mono _ _ _
      | exact LeO.none _
      | refine LeO.ite ?_ ?_
      | refine LeO.bind ?_ (fun _ => ?_)
def spec_WordBreak.T1 : Bool × List (List Nat × List Nat) := (true, [([], []), ([], []), ([1], [1]), ([0, 2], [0, 2]), ([3], [3]), ([], []), ([], []), ([5, 6], [5, 6]), ([7], [7]), ([4, 8], [4, 8]), ([9], [9]), ([10], [10]), ([10], [10]), ([11, 9, 0, 1, 2, 3, 4, 5, 6, 7, 8, 9, 10, 11], [11]), ([12, 13, 0, 1, 2, 3, 4, 5, 6, 7, 8, 9, 10, 11, 12, 13], [12])])
def spec_WordBreak.B1 : List Nat := [0, 0, 2, 7, 15, 0, 0, 96, 224, 511, 1023, 2047, 2047, 4095, 16383]
theorem spec_WordBreak.tab1 : rtab .any (opsOf Try.f14 1) = spec_WordBreak.T1 := by kernel_rfl
theorem spec_WordBreak.bits1 : waitsOk spec_WordBreak.T1.2 spec_WordBreak.B1 = true := by kernel_rfl
def spec_WordBreak.T6 : Bool × List (List Nat × List Nat) := (true, [([], []), ([], []), ([0, 1], [0, 1]), ([2], [2]), ([3], [3]), ([], []), ([], []), ([5, 6], [5, 6]), ([4, 7, 0, 1, 2, 3, 4], [4]), ([7, 8, 0, 1, 2, 3, 4, 5, 6, 7, 8], [7])])
def spec_WordBreak.B6 : List Nat := [0, 0, 3, 7, 15, 0, 0, 96, 255, 511]
theorem spec_WordBreak.tab6 : rtab .any (opsOf Try.f14 6) = spec_WordBreak.T6 := by kernel_rfl
theorem spec_WordBreak.bits6 : waitsOk spec_WordBreak.T6.2 spec_WordBreak.B6 = true := by kernel_rfl
set_option maxHeartbeats 8000000 in
set_option maxRecDepth 100000 in
theorem spec_WordBreak.calls (k : Nat) (A0 : Option Addr) (c0 : Nat) (l0 : List (S32)) (a1 : Int) (r : Bool) (w : World) (hr0 : Kd.C k32 w A0 l0.length l0) (hc0 : l0.length ≤ c0) (h : spec_WordBreak.f k l0 a1 = some r) :
    Calls Try.prog 14 #[.slice A0 l0.length c0, .int .i64 a1] w fun e w' => e = .returned (.bool r) ∧ Below w.heap.size w w' := by
  have hu32 := Try.underlying32
  have HR0 := Aside0.mk hr0
  have HC0 := Aside0.mk hc0
  clear hr0 hc0
  have HB := Aside0.mk (Below.refl w.heap.size w)
  have H : (if 0 ≤ (wrap64 (a1 - 1)) then (if (wrap64 (a1 - 1)) < (l0.length : Int) then (if 0 ≤ a1 then (if a1 < (l0.length : Int) then ((spec_wbNear.f k ((rd_T32 l0 (wrap64 (a1 - 1))).f0) ((rd_T32 l0 (wrap64 (a1 - 1))).f1) ((rd_T32 l0 a1).f0) ((rd_T32 l0 a1).f1)).bind fun bt161 => (if bt161.1 = true then (spec_WordBreak.j0 k l0 a1 bt161.2 true) else (spec_WordBreak.j0 k l0 a1 bt161.2 bt161.2))) else (none)) else (none)) else (none)) else (none)) = some r := h
  clear h
  obtain ⟨ji3, hji3⟩ : ∃ j_ : Int, (wrap64 (a1 - 1)) = j_ := ⟨_, rfl⟩
  replace H : (if 0 ≤ (ji3) then (if (ji3) < (l0.length : Int) then (if 0 ≤ a1 then (if a1 < (l0.length : Int) then ((spec_wbNear.f k ((rd_T32 l0 (ji3)).f0) ((rd_T32 l0 (ji3)).f1) ((rd_T32 l0 a1).f0) ((rd_T32 l0 a1).f1)).bind fun bt161 => (if bt161.1 = true then (spec_WordBreak.j0 k l0 a1 bt161.2 true) else (spec_WordBreak.j0 k l0 a1 bt161.2 bt161.2))) else (none)) else (none)) else (none)) else (none)) = some r := by first | (rw [hji3] at H; exact H) | (simp only [hji3] at H ⊢; exact H)
  have hji3w : (IntKind.i64.wrap (a1 - 1)) = ji3 := (i64_w _).trans hji3
  by_cases c4 : 0 ≤ (ji3)
  · rw [if_pos c4] at H
    have c4b0 : decide (0 ≤ (ji3)) = true := decide_eq_true c4
    clear c4
    by_cases c5 : (ji3) < (l0.length : Int)
    · rw [if_pos c5] at H
      have c5b0 : decide ((ji3) < (l0.length : Int)) = true := decide_eq_true c5
      clear c5
      by_cases c6 : 0 ≤ a1
      · rw [if_pos c6] at H
        have c6b0 : decide (0 ≤ a1) = true := decide_eq_true c6
        clear c6
        by_cases c7 : a1 < (l0.length : Int)
        · rw [if_pos c7] at H
          have c7b0 : decide (a1 < (l0.length : Int)) = true := decide_eq_true c7
          clear c7
          replace H := Option.bind_eq_some_iff.mp H
          obtain ⟨⟨t161, t162⟩, A80, H⟩ := H
          replace H : (if t161 = true then (spec_WordBreak.j0 k l0 a1 t162 true) else (spec_WordBreak.j0 k l0 a1 t162 t162)) = some r := H
          have A8 := Aside0.mk A80
          clear A80
          have HC9 := Aside0.mk H
          clear H
          go_enter Try.func14, Try.ntmps14
          try go_wp2
          have n0_ := Aside0.mk (below_drew1 HB.out)
          clear HB
          have HB := n0_
          clear n0_
          have p159 : 0 ≤ ((ji3) : Int) := of_decide_eq_true (by first | (with_reducible assumption) | assumption)
          have q159 : (ji3) < (l0.length : Int) := of_decide_eq_true (by first | (with_reducible assumption) | assumption)
          obtain ⟨ad159, e159, hx159_0, hx159_1⟩ := at_T32 HR0.out (ji3) p159 q159
          have hw159_1 := hx159_1
          have hw159_0 := hx159_0
          cases e159
          replace hx159_0 := (HB.out.cell (World.block_lt_of_cell? w _ hx159_0)).trans hx159_0
          replace hx159_1 := (HB.out.cell (World.block_lt_of_cell? w _ hx159_1)).trans hx159_1
          replace p159 := eq_true p159
          replace q159 := eq_true q159
          have p160 : 0 ≤ (a1 : Int) := of_decide_eq_true (by first | (with_reducible assumption) | assumption)
          have q160 : a1 < (l0.length : Int) := of_decide_eq_true (by first | (with_reducible assumption) | assumption)
          obtain ⟨ad160, e160, hx160_0, hx160_1⟩ := at_T32 HR0.out a1 p160 q160
          have hw160_1 := hx160_1
          have hw160_0 := hx160_0
          obtain rfl : ad159 = ad160 := (by injection e160)
          replace hx160_0 := (HB.out.cell (World.block_lt_of_cell? w _ hx160_0)).trans hx160_0
          replace hx160_1 := (HB.out.cell (World.block_lt_of_cell? w _ hx160_1)).trans hx160_1
          replace p160 := eq_true p160
          replace q160 := eq_true q160
          refine start_ (n := 15) (S := fun w' => w'.cell? (ad159.add (((ji3)).toNat * 2)) = some (.int .i64 ((rd_T32 l0 (ji3)).f0)) ∧ w'.cell? ⟨(ad159.add (((ji3)).toNat * 2)).block, (ad159.add (((ji3)).toNat * 2)).off + 1, none⟩ = some (.bool ((rd_T32 l0 (ji3)).f1)) ∧ w'.cell? (ad159.add ((a1).toNat * 2)) = some (.int .i64 ((rd_T32 l0 a1).f0)) ∧ w'.cell? ⟨(ad159.add ((a1).toNat * 2)).block, (ad159.add ((a1).toNat * 2)).off + 1, none⟩ = some (.bool ((rd_T32 l0 a1).f1))) (ds := []) #[false, false, false, false, false, false, false, false, false, false, false, false, false, false, false] (by kernel_rfl) rfl rfl ⟨((HB.out.cell (World.block_lt_of_cell? w _ hw159_0)).trans hw159_0), ((HB.out.cell (World.block_lt_of_cell? w _ hw159_1)).trans hw159_1), ((HB.out.cell (World.block_lt_of_cell? w _ hw160_0)).trans hw160_0), ((HB.out.cell (World.block_lt_of_cell? w _ hw160_1)).trans hw160_1)⟩ (fun hHeld => ?_); refine with_tabW spec_WordBreak.tab1 spec_WordBreak.bits1 (fun HT_ HW_ => ?_)
          generalize w.drew = w10 at HB hx159_0 hx159_1 hx160_0 hx160_1 hHeld ⊢
          refine pure_ (i := 0) (N := some 17) (v := ?_) (a' := ?_) #[true, false, false, false, false, false, false, false, false, false, false, false, false, false, false] rfl rfl (any_of HT_.out (by kernel_rfl)) (fun _ _ _ h => h) (Or.inl ⟨by rfl, ?_⟩) ?_ ?_
          rotate_left
          · intro w'
            go_simp
            with_reducible rfl
          rotate_left
          · simp only [Act.put, List.setIfInBounds_toArray, List.set_cons_zero, List.set_cons_succ, i64_w, i32_w]
            rfl
          refine pure_ (i := 1) (N := some 18) (v := ?_) (a' := ?_) #[true, true, false, false, false, false, false, false, false, false, false, false, false, false, false] rfl rfl (any_of HT_.out (by kernel_rfl)) (fun _ _ _ h => h) (Or.inl ⟨by rfl, ?_⟩) ?_ ?_
          rotate_left
          · intro w'
            go_simp
            with_reducible rfl
          rotate_left
          · simp only [Act.put, List.setIfInBounds_toArray, List.set_cons_zero, List.set_cons_succ, i64_w, i32_w]
            rfl
          refine pure_ (i := 2) (N := some 19) (v := ?_) (a' := ?_) #[true, true, true, false, false, false, false, false, false, false, false, false, false, false, false] rfl rfl (any_of HT_.out (by kernel_rfl)) (fun _ _ _ h => h) (Or.inl ⟨by rfl, ?_⟩) ?_ ?_
          rotate_left
          · intro w'
            go_simp
            with_reducible rfl
          rotate_left
          · simp only [Act.put, List.setIfInBounds_toArray, List.set_cons_zero, List.set_cons_succ, i64_w, i32_w]
            rfl
          refine pure_ (i := 3) (N := some 20) (v := ?_) (a' := ?_) #[true, true, true, true, false, false, false, false, false, false, false, false, false, false, false] rfl rfl (any_of HT_.out (by kernel_rfl)) (fun _ _ _ h => h) (Or.inl ⟨by rfl, ?_⟩) ?_ ?_
          rotate_left
          · intro w'
            go_simp
            with_reducible rfl
          rotate_left
          · simp only [Act.put, List.setIfInBounds_toArray, List.set_cons_zero, List.set_cons_succ, i64_w, i32_w]
            rfl
          refine pure_ (i := 5) (N := some 22) (v := ?_) (a' := ?_) #[true, true, true, true, false, true, false, false, false, false, false, false, false, false, false] rfl rfl (any_of HT_.out (by kernel_rfl)) (fun _ _ _ h => h) (Or.inl ⟨by rfl, ?_⟩) ?_ ?_
          rotate_left
          · intro w'
            go_simp
            with_reducible rfl
          rotate_left
          · simp only [Act.put, List.setIfInBounds_toArray, List.set_cons_zero, List.set_cons_succ, i64_w, i32_w]
            rfl
          refine pure_ (i := 6) (N := some 23) (v := ?_) (a' := ?_) #[true, true, true, true, false, true, true, false, false, false, false, false, false, false, false] rfl rfl (any_of HT_.out (by kernel_rfl)) (fun _ _ _ h => h) (Or.inl ⟨by rfl, ?_⟩) ?_ ?_
          rotate_left
          · intro w'
            go_simp
            with_reducible rfl
          rotate_left
          · simp only [Act.put, List.setIfInBounds_toArray, List.set_cons_zero, List.set_cons_succ, i64_w, i32_w]
            rfl
          refine pure_ (i := 7) (N := some 24) (v := ?_) (a' := ?_) #[true, true, true, true, false, true, true, true, false, false, false, false, false, false, false] rfl rfl (any_of HT_.out (by kernel_rfl)) (fun _ _ _ h => h) (Or.inl ⟨by rfl, ?_⟩) ?_ ?_
          rotate_left
          · intro w'
            go_simp
            with_reducible rfl
          rotate_left
          · simp only [Act.put, List.setIfInBounds_toArray, List.set_cons_zero, List.set_cons_succ, i64_w, i32_w]
            rfl
          refine take_ (i := 4) (N := some 21) (v := ?_) (a' := ?_) #[true, true, true, true, true, true, true, true, false, false, false, false, false, false, false] rfl rfl (take_ofW HT_.out HW_.out (by kernel_rfl)) (fun _ _ _ h => h) (Or.inl ⟨by rfl, ?_⟩) hHeld ?_ ?_
          rotate_left
          · rintro w' ⟨s0, s1, s2, s3⟩
            go_simp
            with_reducible rfl
          rotate_left
          · simp only [Act.put, List.setIfInBounds_toArray, List.set_cons_zero, List.set_cons_succ, i64_w, i32_w]
            rfl
          refine take_ (i := 8) (N := some 25) (v := ?_) (a' := ?_) #[true, true, true, true, true, true, true, true, true, false, false, false, false, false, false] rfl rfl (take_ofW HT_.out HW_.out (by kernel_rfl)) (fun _ _ _ h => h) (Or.inl ⟨by rfl, ?_⟩) hHeld ?_ ?_
          rotate_left
          · rintro w' ⟨s0, s1, s2, s3⟩
            go_simp
            with_reducible rfl
          rotate_left
          · simp only [Act.put, List.setIfInBounds_toArray, List.set_cons_zero, List.set_cons_succ, i64_w, i32_w]
            rfl
          refine one_ (i := 9) (N := some 26) #[true, true, true, true, true, true, true, true, true, true, false, false, false, false, false] rfl rfl (one_of HT_.out (by kernel_rfl)) (by decide) (fun K hK => ?_)
          refine goes_ Try.func31 (by kernel_rfl) rfl #[.agg #[.int .i64 ((rd_T32 l0 (ji3)).f0), .bool ((rd_T32 l0 (ji3)).f1)], .agg #[.int .i64 ((rd_T32 l0 a1).f0), .bool ((rd_T32 l0 a1).f1)]] (by rfl) rfl rfl (by (try simp only [List.map_toArray, List.map_cons, List.map_nil]); first | done | (simp only [hji3]; rfl) | rfl | (simp only [List.length_drop, List.length_take]; rfl)) ?_
          with_reducible refine (spec_wbNear.calls k ((rd_T32 l0 (ji3)).f0) ((rd_T32 l0 (ji3)).f1) ((rd_T32 l0 a1).f0) ((rd_T32 l0 a1).f1) t161 t162 _ A8.out).mono ?_
          rintro e w11 ⟨rfl, hb⟩
          refine ⟨_, rfl, ?_⟩
          have n0_ := Aside0.mk (below_step (by repeat (first | (with_reducible first | exact HB.out | apply below_alloc | apply pw_below_drewN | apply below_drew1) | exact HB.out)) hb)
          clear HB
          have HB := n0_
          clear n0_
          (try clear hb)
          (try clear hb2)
          (try clear hk)
          (try clear hi)
          refine hK.out _ _ ⟨((HB.out.cell (World.block_lt_of_cell? w _ hw159_0)).trans hw159_0), ((HB.out.cell (World.block_lt_of_cell? w _ hw159_1)).trans hw159_1), ((HB.out.cell (World.block_lt_of_cell? w _ hw160_0)).trans hw160_0), ((HB.out.cell (World.block_lt_of_cell? w _ hw160_1)).trans hw160_1)⟩ (fun hHeld => ?_)
          clear hK K
          refine norm_ (a' := ?_) ?_ ?_
          rotate_left
          · show Act.put _ (some 26) _ = _
            simp only [Act.put, List.setIfInBounds_toArray, List.set_cons_zero, List.set_cons_succ, i64_w, i32_w]
            rfl
          refine pure_ (i := 10) (N := some 16) (v := ?_) (a' := ?_) #[true, true, true, true, true, true, true, true, true, true, true, false, false, false, false] rfl rfl (any_of HT_.out (by kernel_rfl)) (fun _ _ _ h => h) (Or.inl ⟨by rfl, ?_⟩) ?_ ?_
          rotate_left
          · intro w'
            go_simp
            with_reducible rfl
          rotate_left
          · simp only [Act.put, List.setIfInBounds_toArray, List.set_cons_zero, List.set_cons_succ, i64_w, i32_w]
            rfl
          refine pure_ (i := 11) (N := some 27) (v := ?_) (a' := ?_) #[true, true, true, true, true, true, true, true, true, true, true, true, false, false, false] rfl rfl (any_of HT_.out (by kernel_rfl)) (fun _ _ _ h => h) (Or.inl ⟨by rfl, ?_⟩) ?_ ?_
          rotate_left
          · intro w'
            go_simp
            with_reducible rfl
          rotate_left
          · simp only [Act.put, List.setIfInBounds_toArray, List.set_cons_zero, List.set_cons_succ, i64_w, i32_w]
            rfl
          refine pure_ (i := 12) (N := some 28) (v := ?_) (a' := ?_) #[true, true, true, true, true, true, true, true, true, true, true, true, true, false, false] rfl rfl (any_of HT_.out (by kernel_rfl)) (fun _ _ _ h => h) (Or.inl ⟨by rfl, ?_⟩) ?_ ?_
          rotate_left
          · intro w'
            go_simp
            with_reducible rfl
          rotate_left
          · simp only [Act.put, List.setIfInBounds_toArray, List.set_cons_zero, List.set_cons_succ, i64_w, i32_w]
            rfl
          refine pure_ (i := 13) (N := some 5) (v := ?_) (a' := ?_) #[true, true, true, true, true, true, true, true, true, true, true, true, true, true, false] rfl rfl (any_of HT_.out (by kernel_rfl)) (fun _ _ _ h => h) (Or.inl ⟨by rfl, ?_⟩) ?_ ?_
          rotate_left
          · intro w'
            go_simp
            with_reducible rfl
          rotate_left
          · simp only [Act.put, List.setIfInBounds_toArray, List.set_cons_zero, List.set_cons_succ, i64_w, i32_w]
            rfl
          refine pure_ (i := 14) (N := some 6) (v := ?_) (a' := ?_) #[true, true, true, true, true, true, true, true, true, true, true, true, true, true, true] rfl rfl (any_of HT_.out (by kernel_rfl)) (fun _ _ _ h => h) (Or.inl ⟨by rfl, ?_⟩) ?_ ?_
          rotate_left
          · intro w'
            go_simp
            with_reducible rfl
          rotate_left
          · simp only [Act.put, List.setIfInBounds_toArray, List.set_cons_zero, List.set_cons_succ, i64_w, i32_w]
            rfl
          refine done_ (done_of HT_.out (by kernel_rfl)) ?_
          go_upto_region 2 with (fail)
          go_cut [32] (fun v32 wc => ∃ (kq : Nat) (x32_8 : Bool), v32 = .bool x32_8 ∧ Aside0 (spec_WordBreak.j0 kq l0 a1 t162 x32_8 = some r) ∧ Aside0 (kq ≤ k) ∧ Aside0 (Below w.heap.size w wc))
          case first =>
            have H := HC9.out
            clear HC9
            by_cases c12 : t161 = true
            · subst c12
              have H1 : (spec_WordBreak.j0 k l0 a1 t162 true) = some r := by rw [if_pos rfl] at H; exact H
              clear H
              have H := H1
              clear H1
              have H' := Aside0.mk H
              clear H
              go_wp2
              go_meet
              case rel => exact ⟨_, (true), (by first | rfl | (simp; done) | (simp [*]; done)), H', ⟨by first | omega | exact Nat.le_refl _⟩, ⟨by repeat (first | (with_reducible first | exact HB.out | apply below_alloc | apply pw_below_drewN | apply below_drew1) | exact HB.out)⟩⟩
            · replace c12 := Bool.eq_false_iff.mpr c12
              subst c12
              have H1 : (spec_WordBreak.j0 k l0 a1 t162 t162) = some r := by rw [if_neg (show ¬ (false = true) by decide)] at H; exact H
              clear H
              have H := H1
              clear H1
              have H' := Aside0.mk H
              clear H
              go_wp2
              go_meet
              case rel => exact ⟨_, (t162), (by first | rfl | (simp; done) | (simp [*]; done)), H', ⟨by first | omega | exact Nat.le_refl _⟩, ⟨by repeat (first | (with_reducible first | exact HB.out | apply below_alloc | apply pw_below_drewN | apply below_drew1) | exact HB.out)⟩⟩
          case rest =>
            clear HC9
            try clear c1
            try clear p1
            try clear q1
            try clear hx1
            try clear p2
            try clear c3
            try clear c4
            try clear c4b0
            try clear c5
            try clear c5b0
            try clear c6
            try clear c6b0
            try clear p6
            try clear c7
            try clear c7b0
            try clear c12
            try clear hx159_0
            try clear hx159_1
            try clear hx160_0
            try clear hx160_1
            try clear p159
            try clear p160
            try clear q159
            try clear q160
            obtain ⟨kq, x32_8, rfl, HA, HJ8, HB⟩ := hcut
            cases kq with
            | zero => exact absurd HA.out (by simp [spec_WordBreak.j0])
            | succ kj8 =>
              have H := HA.out
              clear HA
              simp only [spec_WordBreak.j0] at H
              by_cases c13 : x32_8 = true
              · subst c13
                have H1 : (some t162) = some r := by rw [if_pos rfl] at H; exact H
                clear H
                have H := H1
                clear H1
                obtain rfl := Option.some.inj H
                go_wp2
                go_ret
                exact ⟨by first | rfl | (simp [errW_none, errW_some] <;> rfl) | (simp only [← hji3]; first | rfl | (simp [errW_none, errW_some] <;> rfl)) | (simp [*, errW_none, errW_some] <;> rfl), by repeat (first | (with_reducible first | exact HB.out | apply below_alloc | apply pw_below_drewN | apply below_drew1) | exact HB.out)⟩
              · replace c13 := Bool.eq_false_iff.mpr c13
                subst c13
                have H1 : ((spec_wbKindAhead.f kj8 l0 a1).bind fun bt163 => ((spec_wbKindAhead.f kj8 l0 bt163.2).bind fun bt165 => (if 0 ≤ a1 then (if a1 < (l0.length : Int) then ((spec_wbBehind.f kj8 l0 a1).bind fun t168 => ((spec_wbLetters.f kj8 bt165.1 bt163.1 ((rd_T32 l0 a1).f0) t168).bind fun t169 => (if t169 = true then (spec_WordBreak.j1 kj8 l0 bt163.1 bt163.2 ((rd_T32 l0 a1).f0) true) else ((spec_wbNumbers.f kj8 bt165.1 bt163.1 ((rd_T32 l0 a1).f0) t168).bind fun t170 => (if t170 = true then (spec_WordBreak.j1 kj8 l0 bt163.1 bt163.2 ((rd_T32 l0 a1).f0) true) else ((spec_wbWide.f kj8 bt163.1 ((rd_T32 l0 a1).f0)).bind fun t171 => (spec_WordBreak.j1 kj8 l0 bt163.1 bt163.2 ((rd_T32 l0 a1).f0) t171))))))) else (none)) else (none)))) = some r := by rw [if_neg (show ¬ (false = true) by decide)] at H; exact H
                clear H
                have H := H1
                clear H1
                replace H := Option.bind_eq_some_iff.mp H
                obtain ⟨⟨t163, t164⟩, A140, H⟩ := H
                replace H : ((spec_wbKindAhead.f kj8 l0 t164).bind fun bt165 => (if 0 ≤ a1 then (if a1 < (l0.length : Int) then ((spec_wbBehind.f kj8 l0 a1).bind fun t168 => ((spec_wbLetters.f kj8 bt165.1 t163 ((rd_T32 l0 a1).f0) t168).bind fun t169 => (if t169 = true then (spec_WordBreak.j1 kj8 l0 t163 t164 ((rd_T32 l0 a1).f0) true) else ((spec_wbNumbers.f kj8 bt165.1 t163 ((rd_T32 l0 a1).f0) t168).bind fun t170 => (if t170 = true then (spec_WordBreak.j1 kj8 l0 t163 t164 ((rd_T32 l0 a1).f0) true) else ((spec_wbWide.f kj8 t163 ((rd_T32 l0 a1).f0)).bind fun t171 => (spec_WordBreak.j1 kj8 l0 t163 t164 ((rd_T32 l0 a1).f0) t171))))))) else (none)) else (none))) = some r := H
                have A14 := Aside0.mk A140
                clear A140
                replace H := Option.bind_eq_some_iff.mp H
                obtain ⟨⟨t165, t166⟩, A150, H⟩ := H
                replace H : (if 0 ≤ a1 then (if a1 < (l0.length : Int) then ((spec_wbBehind.f kj8 l0 a1).bind fun t168 => ((spec_wbLetters.f kj8 t165 t163 ((rd_T32 l0 a1).f0) t168).bind fun t169 => (if t169 = true then (spec_WordBreak.j1 kj8 l0 t163 t164 ((rd_T32 l0 a1).f0) true) else ((spec_wbNumbers.f kj8 t165 t163 ((rd_T32 l0 a1).f0) t168).bind fun t170 => (if t170 = true then (spec_WordBreak.j1 kj8 l0 t163 t164 ((rd_T32 l0 a1).f0) true) else ((spec_wbWide.f kj8 t163 ((rd_T32 l0 a1).f0)).bind fun t171 => (spec_WordBreak.j1 kj8 l0 t163 t164 ((rd_T32 l0 a1).f0) t171))))))) else (none)) else (none)) = some r := H
                have A15 := Aside0.mk A150
                clear A150
                by_cases c16 : 0 ≤ a1
                · rw [if_pos c16] at H
                  have c16b0 : decide (0 ≤ a1) = true := decide_eq_true c16
                  clear c16
                  by_cases c17 : a1 < (l0.length : Int)
                  · rw [if_pos c17] at H
                    have c17b0 : decide (a1 < (l0.length : Int)) = true := decide_eq_true c17
                    clear c17
                    replace H := Option.bind_eq_some_iff.mp H
                    obtain ⟨t168, A180, H⟩ := H
                    replace H : ((spec_wbLetters.f kj8 t165 t163 ((rd_T32 l0 a1).f0) t168).bind fun t169 => (if t169 = true then (spec_WordBreak.j1 kj8 l0 t163 t164 ((rd_T32 l0 a1).f0) true) else ((spec_wbNumbers.f kj8 t165 t163 ((rd_T32 l0 a1).f0) t168).bind fun t170 => (if t170 = true then (spec_WordBreak.j1 kj8 l0 t163 t164 ((rd_T32 l0 a1).f0) true) else ((spec_wbWide.f kj8 t163 ((rd_T32 l0 a1).f0)).bind fun t171 => (spec_WordBreak.j1 kj8 l0 t163 t164 ((rd_T32 l0 a1).f0) t171)))))) = some r := H
                    have A18 := Aside0.mk A180
                    clear A180
                    have HC19 := Aside0.mk H
                    clear H
                    try go_wp2_with (first | ((with_reducible refine gate_callee (f := 32) rfl ?_); refine goesL_ (some 37) rfl rfl Try.func32 (by kernel_rfl) rfl #[.slice (some ad159) l0.length c0, .int .i64 a1] rfl (by (try simp only [List.map_toArray, List.map_cons, List.map_nil]); first | done | rfl | (simp only [List.length_drop, List.length_take]; rfl)) ?_; (with_reducible refine (spec_wbKindAhead.calls kj8 _ _ l0 a1 t163 t164 _ ?side1 ?side2 A14.out).mono ?_); (case side1 => repeat (first | exact (Kd.C_below HR0.out HB.out) | (with_reducible refine Kd.C_alloc ?_ _) | (with_reducible refine Kd.C_drewN ?_ _) | (with_reducible refine Kd.C_drew ?_))); (case side2 => exact HC0.out); rintro e w20 ⟨rfl, hb⟩; refine ⟨_, rfl, ?_⟩; have n0_ := Aside0.mk (below_step (by repeat (first | (with_reducible first | exact HB.out | apply below_alloc | apply pw_below_drewN | apply below_drew1) | exact HB.out)) hb); clear HB; have HB := n0_; clear n0_; (try clear hb); (try clear hb2); (try clear hk); (try clear hi)) | ((with_reducible refine gate_callee (f := 32) rfl ?_); refine goesL_ (some 43) rfl rfl Try.func32 (by kernel_rfl) rfl #[.slice (some ad159) l0.length c0, .int .i64 t164] rfl (by (try simp only [List.map_toArray, List.map_cons, List.map_nil]); first | done | rfl | (simp only [List.length_drop, List.length_take]; rfl)) ?_; (with_reducible refine (spec_wbKindAhead.calls kj8 _ _ l0 t164 t165 t166 _ ?side1 ?side2 A15.out).mono ?_); (case side1 => repeat (first | exact (Kd.C_below HR0.out HB.out) | (with_reducible refine Kd.C_alloc ?_ _) | (with_reducible refine Kd.C_drewN ?_ _) | (with_reducible refine Kd.C_drew ?_))); (case side2 => exact HC0.out); rintro e w21 ⟨rfl, hb⟩; refine ⟨_, rfl, ?_⟩; have n0_ := Aside0.mk (below_step (by repeat (first | (with_reducible first | exact HB.out | apply below_alloc | apply pw_below_drewN | apply below_drew1) | exact HB.out)) hb); clear HB; have HB := n0_; clear n0_; (try clear hb); (try clear hb2); (try clear hk); (try clear hi)))
                    have n0_ := Aside0.mk (below_drew1 HB.out)
                    clear HB
                    have HB := n0_
                    clear n0_
                    have p167 : 0 ≤ (a1 : Int) := of_decide_eq_true (by first | (with_reducible assumption) | assumption)
                    have q167 : a1 < (l0.length : Int) := of_decide_eq_true (by first | (with_reducible assumption) | assumption)
                    obtain ⟨ad167, e167, hx167_0, hx167_1⟩ := at_T32 HR0.out a1 p167 q167
                    have hw167_1 := hx167_1
                    have hw167_0 := hx167_0
                    obtain rfl : ad159 = ad167 := (by injection e167)
                    replace hx167_0 := (HB.out.cell (World.block_lt_of_cell? w _ hx167_0)).trans hx167_0
                    replace hx167_1 := (HB.out.cell (World.block_lt_of_cell? w _ hx167_1)).trans hx167_1
                    replace p167 := eq_true p167
                    replace q167 := eq_true q167
                    refine start_ (n := 10) (S := fun w' => w'.cell? (ad159.add ((a1).toNat * 2)) = some (.int .i64 ((rd_T32 l0 a1).f0)) ∧ w'.cell? ⟨(ad159.add ((a1).toNat * 2)).block, (ad159.add ((a1).toNat * 2)).off + 1, none⟩ = some (.bool ((rd_T32 l0 a1).f1))) (ds := []) #[false, false, false, false, false, false, false, false, false, false] (by kernel_rfl) rfl rfl ⟨((HB.out.cell (World.block_lt_of_cell? w _ hw167_0)).trans hw167_0), ((HB.out.cell (World.block_lt_of_cell? w _ hw167_1)).trans hw167_1)⟩ (fun hHeld => ?_); refine with_tabW spec_WordBreak.tab6 spec_WordBreak.bits6 (fun HT_ HW_ => ?_)
                    generalize w21.drew = w22 at HB hx167_0 hx167_1 hHeld ⊢
                    refine pure_ (i := 0) (N := some 46) (v := ?_) (a' := ?_) #[true, false, false, false, false, false, false, false, false, false] rfl rfl (any_of HT_.out (by kernel_rfl)) (fun _ _ _ h => h) (Or.inl ⟨by rfl, ?_⟩) ?_ ?_
                    rotate_left
                    · intro w'
                      go_simp
                      with_reducible rfl
                    rotate_left
                    · simp only [Act.put, List.setIfInBounds_toArray, List.set_cons_zero, List.set_cons_succ, i64_w, i32_w]
                      rfl
                    refine pure_ (i := 1) (N := some 47) (v := ?_) (a' := ?_) #[true, true, false, false, false, false, false, false, false, false] rfl rfl (any_of HT_.out (by kernel_rfl)) (fun _ _ _ h => h) (Or.inl ⟨by rfl, ?_⟩) ?_ ?_
                    rotate_left
                    · intro w'
                      go_simp
                      with_reducible rfl
                    rotate_left
                    · simp only [Act.put, List.setIfInBounds_toArray, List.set_cons_zero, List.set_cons_succ, i64_w, i32_w]
                      rfl
                    refine pure_ (i := 2) (N := some 48) (v := ?_) (a' := ?_) #[true, true, true, false, false, false, false, false, false, false] rfl rfl (any_of HT_.out (by kernel_rfl)) (fun _ _ _ h => h) (Or.inl ⟨by rfl, ?_⟩) ?_ ?_
                    rotate_left
                    · intro w'
                      go_simp
                      with_reducible rfl
                    rotate_left
                    · simp only [Act.put, List.setIfInBounds_toArray, List.set_cons_zero, List.set_cons_succ, i64_w, i32_w]
                      rfl
                    refine pure_ (i := 3) (N := some 49) (v := ?_) (a' := ?_) #[true, true, true, true, false, false, false, false, false, false] rfl rfl (any_of HT_.out (by kernel_rfl)) (fun _ _ _ h => h) (Or.inl ⟨by rfl, ?_⟩) ?_ ?_
                    rotate_left
                    · intro w'
                      go_simp
                      with_reducible rfl
                    rotate_left
                    · simp only [Act.put, List.setIfInBounds_toArray, List.set_cons_zero, List.set_cons_succ, i64_w, i32_w]
                      rfl
                    refine pure_ (i := 5) (N := some 51) (v := ?_) (a' := ?_) #[true, true, true, true, false, true, false, false, false, false] rfl rfl (any_of HT_.out (by kernel_rfl)) (fun _ _ _ h => h) (Or.inl ⟨by rfl, ?_⟩) ?_ ?_
                    rotate_left
                    · intro w'
                      go_simp
                      with_reducible rfl
                    rotate_left
                    · simp only [Act.put, List.setIfInBounds_toArray, List.set_cons_zero, List.set_cons_succ, i64_w, i32_w]
                      rfl
                    refine pure_ (i := 6) (N := some 52) (v := ?_) (a' := ?_) #[true, true, true, true, false, true, true, false, false, false] rfl rfl (any_of HT_.out (by kernel_rfl)) (fun _ _ _ h => h) (Or.inl ⟨by rfl, ?_⟩) ?_ ?_
                    rotate_left
                    · intro w'
                      go_simp
                      with_reducible rfl
                    rotate_left
                    · simp only [Act.put, List.setIfInBounds_toArray, List.set_cons_zero, List.set_cons_succ, i64_w, i32_w]
                      rfl
                    refine take_ (i := 4) (N := some 50) (v := ?_) (a' := ?_) #[true, true, true, true, true, true, true, false, false, false] rfl rfl (take_ofW HT_.out HW_.out (by kernel_rfl)) (fun _ _ _ h => h) (Or.inl ⟨by rfl, ?_⟩) hHeld ?_ ?_
                    rotate_left
                    · rintro w' ⟨s0, s1⟩
                      go_simp
                      with_reducible rfl
                    rotate_left
                    · simp only [Act.put, List.setIfInBounds_toArray, List.set_cons_zero, List.set_cons_succ, i64_w, i32_w]
                      rfl
                    refine one_ (i := 7) (N := some 53) #[true, true, true, true, true, true, true, true, false, false] rfl rfl (one_of HT_.out (by kernel_rfl)) (by decide) (fun K hK => ?_)
                    refine goes_ Try.func33 (by kernel_rfl) rfl #[.slice (some ad159) l0.length c0, .int .i64 a1] (by rfl) rfl rfl (by (try simp only [List.map_toArray, List.map_cons, List.map_nil]); first | done | rfl | (simp only [List.length_drop, List.length_take]; rfl)) ?_
                    with_reducible refine (spec_wbBehind.calls kj8 _ _ l0 a1 t168 _ ?side1 ?side2 A18.out).mono ?_
                    (case side1 => repeat (first | exact (Kd.C_below HR0.out HB.out) | (with_reducible refine Kd.C_alloc ?_ _) | (with_reducible refine Kd.C_drewN ?_ _) | (with_reducible refine Kd.C_drew ?_)))
                    (case side2 => exact HC0.out)
                    rintro e w23 ⟨rfl, hb⟩
                    refine ⟨_, rfl, ?_⟩
                    have n0_ := Aside0.mk (below_step (by repeat (first | (with_reducible first | exact HB.out | apply below_alloc | apply pw_below_drewN | apply below_drew1) | exact HB.out)) hb)
                    clear HB
                    have HB := n0_
                    clear n0_
                    (try clear hb)
                    (try clear hb2)
                    (try clear hk)
                    (try clear hi)
                    refine hK.out _ _ ⟨((HB.out.cell (World.block_lt_of_cell? w _ hw167_0)).trans hw167_0), ((HB.out.cell (World.block_lt_of_cell? w _ hw167_1)).trans hw167_1)⟩ (fun hHeld => ?_)
                    clear hK K
                    refine norm_ (a' := ?_) ?_ ?_
                    rotate_left
                    · show Act.put _ (some 53) _ = _
                      simp only [Act.put, List.setIfInBounds_toArray, List.set_cons_zero, List.set_cons_succ, i64_w, i32_w]
                      rfl
                    refine pure_ (i := 8) (N := some 11) (v := ?_) (a' := ?_) #[true, true, true, true, true, true, true, true, true, false] rfl rfl (any_of HT_.out (by kernel_rfl)) (fun _ _ _ h => h) (Or.inl ⟨by rfl, ?_⟩) ?_ ?_
                    rotate_left
                    · intro w'
                      go_simp
                      with_reducible rfl
                    rotate_left
                    · simp only [Act.put, List.setIfInBounds_toArray, List.set_cons_zero, List.set_cons_succ, i64_w, i32_w]
                      rfl
                    refine pure_ (i := 9) (N := some 12) (v := ?_) (a' := ?_) #[true, true, true, true, true, true, true, true, true, true] rfl rfl (any_of HT_.out (by kernel_rfl)) (fun _ _ _ h => h) (Or.inl ⟨by rfl, ?_⟩) ?_ ?_
                    rotate_left
                    · intro w'
                      go_simp
                      with_reducible rfl
                    rotate_left
                    · simp only [Act.put, List.setIfInBounds_toArray, List.set_cons_zero, List.set_cons_succ, i64_w, i32_w]
                      rfl
                    refine done_ (done_of HT_.out (by kernel_rfl)) ?_
                    go_upto_region 7 with (fail)
                    go_cut [70] (fun v70 wc => ∃ (kq : Nat) (x70_18 : Bool), v70 = .bool x70_18 ∧ Aside0 (spec_WordBreak.j1 kq l0 t163 t164 ((rd_T32 l0 a1).f0) x70_18 = some r) ∧ Aside0 (kq ≤ kj8) ∧ Aside0 (Below w.heap.size w wc))
                    case first =>
                      have H := HC19.out
                      clear HC19
                      replace H := Option.bind_eq_some_iff.mp H
                      obtain ⟨t169, A240, H⟩ := H
                      replace H : (if t169 = true then (spec_WordBreak.j1 kj8 l0 t163 t164 ((rd_T32 l0 a1).f0) true) else ((spec_wbNumbers.f kj8 t165 t163 ((rd_T32 l0 a1).f0) t168).bind fun t170 => (if t170 = true then (spec_WordBreak.j1 kj8 l0 t163 t164 ((rd_T32 l0 a1).f0) true) else ((spec_wbWide.f kj8 t163 ((rd_T32 l0 a1).f0)).bind fun t171 => (spec_WordBreak.j1 kj8 l0 t163 t164 ((rd_T32 l0 a1).f0) t171))))) = some r := H
                      have A24 := Aside0.mk A240
                      clear A240
                      by_cases c25 : t169 = true
                      · subst c25
                        have H1 : (spec_WordBreak.j1 kj8 l0 t163 t164 ((rd_T32 l0 a1).f0) true) = some r := by rw [if_pos rfl] at H; exact H
                        clear H
                        have H := H1
                        clear H1
                        have H' := Aside0.mk H
                        clear H
                        go_wp2_with (first | ((with_reducible refine gate_callee (f := 34) rfl ?_); refine goesL_ (some 58) rfl rfl Try.func34 (by kernel_rfl) rfl #[.int .i64 t165, .int .i64 t163, .int .i64 ((rd_T32 l0 a1).f0), .int .i64 t168] rfl (by (try simp only [List.map_toArray, List.map_cons, List.map_nil]); first | done | rfl | (simp only [List.length_drop, List.length_take]; rfl)) ?_; (with_reducible refine (spec_wbLetters.calls kj8 t165 t163 ((rd_T32 l0 a1).f0) t168 true _ A24.out).mono ?_); rintro e w26 ⟨rfl, hb⟩; refine ⟨_, rfl, ?_⟩; have n0_ := Aside0.mk (below_step (by repeat (first | (with_reducible first | exact HB.out | apply below_alloc | apply pw_below_drewN | apply below_drew1) | exact HB.out)) hb); clear HB; have HB := n0_; clear n0_; (try clear hb); (try clear hb2); (try clear hk); (try clear hi)))
                        go_meet
                        case rel => exact ⟨_, (true), (by first | rfl | (simp; done) | (simp [*]; done)), H', ⟨by have := HJ8.out; first | omega | exact Nat.le_refl _⟩, ⟨by repeat (first | (with_reducible first | exact HB.out | apply below_alloc | apply pw_below_drewN | apply below_drew1) | exact HB.out)⟩⟩
                      · replace c25 := Bool.eq_false_iff.mpr c25
                        subst c25
                        have H1 : ((spec_wbNumbers.f kj8 t165 t163 ((rd_T32 l0 a1).f0) t168).bind fun t170 => (if t170 = true then (spec_WordBreak.j1 kj8 l0 t163 t164 ((rd_T32 l0 a1).f0) true) else ((spec_wbWide.f kj8 t163 ((rd_T32 l0 a1).f0)).bind fun t171 => (spec_WordBreak.j1 kj8 l0 t163 t164 ((rd_T32 l0 a1).f0) t171)))) = some r := by rw [if_neg (show ¬ (false = true) by decide)] at H; exact H
                        clear H
                        have H := H1
                        clear H1
                        replace H := Option.bind_eq_some_iff.mp H
                        obtain ⟨t170, A270, H⟩ := H
                        replace H : (if t170 = true then (spec_WordBreak.j1 kj8 l0 t163 t164 ((rd_T32 l0 a1).f0) true) else ((spec_wbWide.f kj8 t163 ((rd_T32 l0 a1).f0)).bind fun t171 => (spec_WordBreak.j1 kj8 l0 t163 t164 ((rd_T32 l0 a1).f0) t171))) = some r := H
                        have A27 := Aside0.mk A270
                        clear A270
                        by_cases c28 : t170 = true
                        · subst c28
                          have H1 : (spec_WordBreak.j1 kj8 l0 t163 t164 ((rd_T32 l0 a1).f0) true) = some r := by rw [if_pos rfl] at H; exact H
                          clear H
                          have H := H1
                          clear H1
                          have H' := Aside0.mk H
                          clear H
                          go_wp2_with (first | ((with_reducible refine gate_callee (f := 34) rfl ?_); refine goesL_ (some 58) rfl rfl Try.func34 (by kernel_rfl) rfl #[.int .i64 t165, .int .i64 t163, .int .i64 ((rd_T32 l0 a1).f0), .int .i64 t168] rfl (by (try simp only [List.map_toArray, List.map_cons, List.map_nil]); first | done | rfl | (simp only [List.length_drop, List.length_take]; rfl)) ?_; (with_reducible refine (spec_wbLetters.calls kj8 t165 t163 ((rd_T32 l0 a1).f0) t168 false _ A24.out).mono ?_); rintro e w29 ⟨rfl, hb⟩; refine ⟨_, rfl, ?_⟩; have n0_ := Aside0.mk (below_step (by repeat (first | (with_reducible first | exact HB.out | apply below_alloc | apply pw_below_drewN | apply below_drew1) | exact HB.out)) hb); clear HB; have HB := n0_; clear n0_; (try clear hb); (try clear hb2); (try clear hk); (try clear hi)) | (go_at_call 35; (with_reducible refine (spec_wbNumbers.calls kj8 t165 t163 ((rd_T32 l0 a1).f0) t168 true _ A27.out).mono ?_); rintro e w30 ⟨rfl, hb⟩; have n0_ := Aside0.mk (below_step (by repeat (first | (with_reducible first | exact HB.out | apply below_alloc | apply pw_below_drewN | apply below_drew1) | exact HB.out)) hb); clear HB; have HB := n0_; clear n0_; (try clear hb); (try clear hb2); (try clear hk); (try clear hi)))
                          go_meet
                          case rel => exact ⟨_, (true), (by first | rfl | (simp; done) | (simp [*]; done)), H', ⟨by have := HJ8.out; first | omega | exact Nat.le_refl _⟩, ⟨by repeat (first | (with_reducible first | exact HB.out | apply below_alloc | apply pw_below_drewN | apply below_drew1) | exact HB.out)⟩⟩
                        · replace c28 := Bool.eq_false_iff.mpr c28
                          subst c28
                          have H1 : ((spec_wbWide.f kj8 t163 ((rd_T32 l0 a1).f0)).bind fun t171 => (spec_WordBreak.j1 kj8 l0 t163 t164 ((rd_T32 l0 a1).f0) t171)) = some r := by rw [if_neg (show ¬ (false = true) by decide)] at H; exact H
                          clear H
                          have H := H1
                          clear H1
                          replace H := Option.bind_eq_some_iff.mp H
                          obtain ⟨t171, A310, H⟩ := H
                          replace H : (spec_WordBreak.j1 kj8 l0 t163 t164 ((rd_T32 l0 a1).f0) t171) = some r := H
                          have A31 := Aside0.mk A310
                          clear A310
                          have H' := Aside0.mk H
                          clear H
                          go_wp2_with (first | ((with_reducible refine gate_callee (f := 34) rfl ?_); refine goesL_ (some 58) rfl rfl Try.func34 (by kernel_rfl) rfl #[.int .i64 t165, .int .i64 t163, .int .i64 ((rd_T32 l0 a1).f0), .int .i64 t168] rfl (by (try simp only [List.map_toArray, List.map_cons, List.map_nil]); first | done | rfl | (simp only [List.length_drop, List.length_take]; rfl)) ?_; (with_reducible refine (spec_wbLetters.calls kj8 t165 t163 ((rd_T32 l0 a1).f0) t168 false _ A24.out).mono ?_); rintro e w32 ⟨rfl, hb⟩; refine ⟨_, rfl, ?_⟩; have n0_ := Aside0.mk (below_step (by repeat (first | (with_reducible first | exact HB.out | apply below_alloc | apply pw_below_drewN | apply below_drew1) | exact HB.out)) hb); clear HB; have HB := n0_; clear n0_; (try clear hb); (try clear hb2); (try clear hk); (try clear hi)) | (go_at_call 35; (with_reducible refine (spec_wbNumbers.calls kj8 t165 t163 ((rd_T32 l0 a1).f0) t168 false _ A27.out).mono ?_); rintro e w33 ⟨rfl, hb⟩; have n0_ := Aside0.mk (below_step (by repeat (first | (with_reducible first | exact HB.out | apply below_alloc | apply pw_below_drewN | apply below_drew1) | exact HB.out)) hb); clear HB; have HB := n0_; clear n0_; (try clear hb); (try clear hb2); (try clear hk); (try clear hi)) | (go_at_call 36; (with_reducible refine (spec_wbWide.calls kj8 t163 ((rd_T32 l0 a1).f0) t171 _ A31.out).mono ?_); rintro e w34 ⟨rfl, hb⟩; have n0_ := Aside0.mk (below_step (by repeat (first | (with_reducible first | exact HB.out | apply below_alloc | apply pw_below_drewN | apply below_drew1) | exact HB.out)) hb); clear HB; have HB := n0_; clear n0_; (try clear hb); (try clear hb2); (try clear hk); (try clear hi)))
                          go_meet
                          case rel => exact ⟨_, (t171), (by first | rfl | (simp; done) | (simp [*]; done)), H', ⟨by have := HJ8.out; first | omega | exact Nat.le_refl _⟩, ⟨by repeat (first | (with_reducible first | exact HB.out | apply below_alloc | apply pw_below_drewN | apply below_drew1) | exact HB.out)⟩⟩
                    case rest =>
                      clear HC19
                      try clear c1
                      try clear p1
                      try clear q1
                      try clear hx1
                      try clear c2
                      try clear p2
                      try clear c3
                      try clear c4
                      try clear c4b0
                      try clear c5
                      try clear c5b0
                      try clear c6
                      try clear c6b0
                      try clear p6
                      try clear c7
                      try clear c7b0
                      try clear c12
                      try clear c13
                      try clear c14
                      try clear p15
                      try clear q15
                      try clear hx15
                      try clear c16
                      try clear c16b0
                      try clear p16
                      try clear q16
                      try clear hx16
                      try clear c17
                      try clear c17b0
                      try clear c25
                      try clear c28
                      try clear c31
                      try clear c32
                      try clear c33
                      try clear c34
                      try clear hx159_0
                      try clear hx159_1
                      try clear hx160_0
                      try clear hx160_1
                      try clear hx167_0
                      try clear hx167_1
                      try clear p1
                      try clear p159
                      try clear p160
                      try clear p167
                      try clear p2
                      try clear p6
                      try clear q1
                      try clear q159
                      try clear q160
                      try clear q167
                      obtain ⟨kq, x70_18, rfl, HA, HJ18, HB⟩ := hcut
                      cases kq with
                      | zero => exact absurd HA.out (by simp [spec_WordBreak.j1])
                      | succ kj18 =>
                        have H := HA.out
                        clear HA
                        simp only [spec_WordBreak.j1] at H
                        by_cases c35 : x70_18 = true
                        · subst c35
                          have H1 : (some false) = some r := by rw [if_pos rfl] at H; exact H
                          clear H
                          have H := H1
                          clear H1
                          obtain rfl := Option.some.inj H
                          go_wp2
                          go_ret
                          exact ⟨by first | rfl | (simp [errW_none, errW_some] <;> rfl) | (simp only [← hji3]; first | rfl | (simp [errW_none, errW_some] <;> rfl)) | (simp [*, errW_none, errW_some] <;> rfl), by repeat (first | (with_reducible first | exact HB.out | apply below_alloc | apply pw_below_drewN | apply below_drew1) | exact HB.out)⟩
                        · replace c35 := Bool.eq_false_iff.mpr c35
                          subst c35
                          have H1 : (if t163 = 7 then (spec_WordBreak.j2 kj18 l0 t163 t164 (((rd_T32 l0 a1).f0) != 7)) else (spec_WordBreak.j2 kj18 l0 t163 t164 true)) = some r := by rw [if_neg (show ¬ (false = true) by decide)] at H; exact H
                          clear H
                          have H := H1
                          clear H1
                          have HC36 := Aside0.mk H
                          clear H
                          go_upto_region 9 with (fail)
                          go_cut [76] (fun v76 wc => ∃ (kq : Nat) (x76_35 : Bool), v76 = .bool x76_35 ∧ Aside0 (spec_WordBreak.j2 kq l0 t163 t164 x76_35 = some r) ∧ Aside0 (kq ≤ kj18) ∧ Aside0 (Below w.heap.size w wc))
                          case first =>
                            have H := HC36.out
                            clear HC36
                            by_cases c37 : t163 = 7
                            · rw [if_pos c37] at H
                              have c37b0 : (t163 == 7) = true := beq_iff_eq.mpr c37
                              have c37b1 : (t163 != 7) = false := bne_eq_false_iff_eq.mpr c37
                              clear c37
                              (first | rw [c37b0] | (simp only [i64_w, i32_w]; rw [c37b0]) | skip)
                              have H' := Aside0.mk H
                              clear H
                              go_wp2
                              go_meet
                              case rel => exact ⟨_, ((((rd_T32 l0 a1).f0) != 7)), (by first | rfl | (simp; done) | (simp [*]; done)), H', ⟨by have := HJ8.out; have := HJ18.out; first | omega | exact Nat.le_refl _⟩, ⟨by repeat (first | (with_reducible first | exact HB.out | apply below_alloc | apply pw_below_drewN | apply below_drew1) | exact HB.out)⟩⟩
                            · rw [if_neg c37] at H
                              have c37b0 : (t163 == 7) = false := beq_eq_false_iff_ne.mpr c37
                              have c37b1 : (t163 != 7) = true := bne_iff_ne.mpr c37
                              (first | rw [c37b0] | (simp only [i64_w, i32_w]; rw [c37b0]) | skip)
                              have H' := Aside0.mk H
                              clear H
                              go_wp2
                              go_meet
                              case rel => exact ⟨_, (true), (by first | rfl | (simp; done) | (simp [*]; done)), H', ⟨by have := HJ8.out; have := HJ18.out; first | omega | exact Nat.le_refl _⟩, ⟨by repeat (first | (with_reducible first | exact HB.out | apply below_alloc | apply pw_below_drewN | apply below_drew1) | exact HB.out)⟩⟩
                          case rest =>
                            clear HC36
                            try clear c1
                            try clear p1
                            try clear q1
                            try clear hx1
                            try clear c2
                            try clear p2
                            try clear c3
                            try clear c4
                            try clear c4b0
                            try clear c5
                            try clear c5b0
                            try clear c6
                            try clear c6b0
                            try clear p6
                            try clear c7
                            try clear c7b0
                            try clear c12
                            try clear c13
                            try clear c14
                            try clear p15
                            try clear q15
                            try clear hx15
                            try clear c16
                            try clear c16b0
                            try clear p16
                            try clear q16
                            try clear hx16
                            try clear c17
                            try clear c17b0
                            try clear c25
                            try clear c28
                            try clear c31
                            try clear c32
                            try clear c33
                            try clear c34
                            try clear c35
                            try clear c37
                            try clear c37b0
                            try clear c37b1
                            try clear hx159_0
                            try clear hx159_1
                            try clear hx160_0
                            try clear hx160_1
                            try clear hx167_0
                            try clear hx167_1
                            try clear p1
                            try clear p15
                            try clear p159
                            try clear p16
                            try clear p160
                            try clear p167
                            try clear p2
                            try clear p6
                            try clear q1
                            try clear q15
                            try clear q159
                            try clear q16
                            try clear q160
                            try clear q167
                            obtain ⟨kq, x76_35, rfl, HA, HJ35, HB⟩ := hcut
                            cases kq with
                            | zero => exact absurd HA.out (by simp [spec_WordBreak.j2])
                            | succ kj35 =>
                              have H := HA.out
                              clear HA
                              simp only [spec_WordBreak.j2] at H
                              by_cases c38 : x76_35 = true
                              · subst c38
                                have H1 : (some true) = some r := by rw [if_pos rfl] at H; exact H
                                clear H
                                have H := H1
                                clear H1
                                obtain rfl := Option.some.inj H
                                go_wp2
                                go_ret
                                exact ⟨by first | rfl | (simp [errW_none, errW_some] <;> rfl) | (simp only [← hji3]; first | rfl | (simp [errW_none, errW_some] <;> rfl)) | (simp [*, errW_none, errW_some] <;> rfl), by repeat (first | (with_reducible first | exact HB.out | apply below_alloc | apply pw_below_drewN | apply below_drew1) | exact HB.out)⟩
                              · replace c38 := Bool.eq_false_iff.mpr c38
                                subst c38
                                have H1 : (spec_WordBreak.l0 kj35 l0 0 t163 t164) = some r := by rw [if_neg (show ¬ (false = true) by decide)] at H; exact H
                                clear H
                                have H := H1
                                clear H1
                                have H' := Aside0.mk H
                                clear H
                                go_wp2
                                go_loopg [13, 14, 15] kj35 (fun kq v13 v14 v15 w' => ∃ (x13_4 : Int) (x14_4 : Int) (x15_4 : Int), v13 = .int .i64 x13_4 ∧ v14 = .int .i64 x14_4 ∧ v15 = .int .i64 x15_4 ∧ Aside0 (spec_WordBreak.l0 kq l0 x13_4 x14_4 x15_4 = some r) ∧ Aside0 (kq ≤ kj35) ∧ Aside0 (Below w.heap.size w w'))
                                case atStart => exact ⟨(0), (t163), (t164), (by first | rfl | (simp; done) | (simp [*]; done)), (by first | rfl | (simp; done) | (simp [*]; done)), (by first | rfl | (simp; done) | (simp [*]; done)), H', ⟨Nat.le_refl _⟩, ⟨by repeat (first | (with_reducible first | exact HB.out | apply below_alloc | apply pw_below_drewN | apply below_drew1) | exact HB.out)⟩⟩
                                case round =>
                                  clear H'
                                  try clear c1
                                  try clear p1
                                  try clear q1
                                  try clear hx1
                                  try clear c2
                                  try clear p2
                                  try clear c3
                                  try clear c4
                                  try clear c4b0
                                  try clear c5
                                  try clear c5b0
                                  try clear c6
                                  try clear c6b0
                                  try clear p6
                                  try clear c7
                                  try clear c7b0
                                  try clear c12
                                  try clear c13
                                  try clear c14
                                  try clear p15
                                  try clear q15
                                  try clear hx15
                                  try clear c16
                                  try clear c16b0
                                  try clear p16
                                  try clear q16
                                  try clear hx16
                                  try clear c17
                                  try clear c17b0
                                  try clear c25
                                  try clear c28
                                  try clear c31
                                  try clear c32
                                  try clear c33
                                  try clear c34
                                  try clear c35
                                  try clear c37
                                  try clear c37b0
                                  try clear c37b1
                                  try clear c38
                                  try clear hx159_0
                                  try clear hx159_1
                                  try clear hx160_0
                                  try clear hx160_1
                                  try clear hx167_0
                                  try clear hx167_1
                                  try clear p1
                                  try clear p15
                                  try clear p159
                                  try clear p16
                                  try clear p160
                                  try clear p167
                                  try clear p2
                                  try clear p6
                                  try clear q1
                                  try clear q15
                                  try clear q159
                                  try clear q16
                                  try clear q160
                                  try clear q167
                                  obtain ⟨x13_4, x14_4, x15_4, rfl, rfl, rfl, HA, HK4, HB⟩ := hrel
                                  cases gk with
                                  | zero => exact absurd HA.out (by simp [spec_WordBreak.l0])
                                  | succ k4 =>
                                    have H := HA.out
                                    clear HA
                                    simp only [spec_WordBreak.l0] at H
                                    by_cases c39 : x14_4 = 7
                                    · rw [if_pos c39] at H
                                      have c39b0 : (x14_4 == 7) = true := beq_iff_eq.mpr c39
                                      have c39b1 : (x14_4 != 7) = false := bne_eq_false_iff_eq.mpr c39
                                      clear c39
                                      replace H := Option.bind_eq_some_iff.mp H
                                      obtain ⟨⟨t172, t173⟩, A400, H⟩ := H
                                      replace H : (spec_WordBreak.l0 k4 l0 (wrap64 (x13_4 + 1)) t172 t173) = some r := H
                                      have A40 := Aside0.mk A400
                                      clear A400
                                      have H' := Aside0.mk H
                                      clear H
                                      go_wp2_with (first | ((with_reducible refine gate_callee (f := 32) rfl ?_); refine goesL_ (some 84) rfl rfl Try.func32 (by kernel_rfl) rfl #[.slice (some ad159) l0.length c0, .int .i64 x15_4] rfl (by (try simp only [List.map_toArray, List.map_cons, List.map_nil]); first | done | rfl | (simp only [List.length_drop, List.length_take]; rfl)) ?_; (with_reducible refine (spec_wbKindAhead.calls k4 _ _ l0 x15_4 t172 t173 _ ?side1 ?side2 A40.out).mono ?_); (case side1 => repeat (first | exact (Kd.C_below HR0.out HB.out) | (with_reducible refine Kd.C_alloc ?_ _) | (with_reducible refine Kd.C_drewN ?_ _) | (with_reducible refine Kd.C_drew ?_))); (case side2 => exact HC0.out); rintro e w41 ⟨rfl, hb⟩; refine ⟨_, rfl, ?_⟩; have n0_ := Aside0.mk (below_step (by repeat (first | (with_reducible first | exact HB.out | apply below_alloc | apply pw_below_drewN | apply below_drew1) | exact HB.out)) hb); clear HB; have HB := n0_; clear n0_; (try clear hb); (try clear hb2); (try clear hk); (try clear hi)))
                                      go_roundg k4
                                      case measure => have := HJ8.out; have := HJ18.out; have := HJ35.out; have := HK4.out; omega
                                      case rel => exact ⟨(wrap64 (x13_4 + 1)), (t172), (t173), (by first | rfl | (simp; done) | (simp [*]; done)), (by first | rfl | (simp; done) | (simp [*]; done)), (by first | rfl | (simp; done) | (simp [*]; done)), H', ⟨by have := HJ8.out; have := HJ18.out; have := HJ35.out; have := HK4.out; omega⟩, ⟨by repeat (first | (with_reducible first | exact HB.out | apply below_alloc | apply pw_below_drewN | apply below_drew1) | exact HB.out)⟩⟩
                                    · rw [if_neg c39] at H
                                      have c39b0 : (x14_4 == 7) = false := beq_eq_false_iff_ne.mpr c39
                                      have c39b1 : (x14_4 != 7) = true := bne_iff_ne.mpr c39
                                      obtain rfl := Option.some.inj H
                                      go_wp2
                                      go_ret
                                      exact ⟨by first | rfl | (simp [errW_none, errW_some] <;> rfl) | (simp only [← hji3]; first | rfl | (simp [errW_none, errW_some] <;> rfl)) | (simp [*, errW_none, errW_some] <;> rfl), by repeat (first | (with_reducible first | exact HB.out | apply below_alloc | apply pw_below_drewN | apply below_drew1) | exact HB.out)⟩
                  · rw [if_neg c17] at H
                    exact absurd H (by simp)
                · rw [if_neg c16] at H
                  exact absurd H (by simp)
        · rw [if_neg c7] at H
          exact absurd H (by simp)
      · rw [if_neg c6] at H
        exact absurd H (by simp)
    · rw [if_neg c5] at H
      exact absurd H (by simp)
  · rw [if_neg c4] at H
    exact absurd H (by simp)

end Go.Proofs.Ytnanfoahimccpaa.Wd
