/- Functions of the translation as Lean functions, and their walks: lines written by a program, a turned copy of the kit's print. -/
import Derived.Test.YtnanfoahimccpaaLnx0
namespace Go.Proofs.Ytnanfoahimccpaa.Ln
open Go.RowKit Go.Proofs.YtnanfoahimccpaaW.PrintWords Go.Proofs.YtnanfoahimccpaaW.PrintLast Go.Proofs.YtnanfoahimccpaaW.PrintMore
attribute [local go_sem] max2_int max_two
set_option linter.unusedVariables false
set_option linter.unusedSimpArgs false

mutual
def laws_linePoints.l0 : Nat → List Int → List (S62) → List (S64) → Int → Option ((List (S62)) × (List (S64)))
 | 0, _, _, _, _ => none
 | k + 1, x0, x2, x3, x4 => if (wrap64 (x4 + 2)) < (x0.length : Int) then (laws_linePoints.j1 k x0 x2 x3 x4 (decide (x4 < 120))) else (laws_linePoints.j1 k x0 x2 x3 x4 false)
def laws_linePoints.j1 : Nat → List Int → List (S62) → List (S64) → Int → Bool → Option ((List (S62)) × (List (S64)))
 | 0, _, _, _, _, _ => none
 | k + 1, x0, x2, x3, x4, x14 => if x14 = true then (if 0 ≤ x4 then (if x4 < (x0.length : Int) then (if 0 ≤ (wrap64 (x4 + 1)) then (if (wrap64 (x4 + 1)) < (x0.length : Int) then (if 0 ≤ (wrap64 (x4 + 2)) then (if (wrap64 (x4 + 2)) < (x0.length : Int) then (if (rd x0 (wrap64 (x4 + 2))) ≥ 128 then (if (Int.tmod (wrap64 (rd x0 (wrap64 (x4 + 1)))) 5) = 2 then (if (wrap64 (1 + (Int.tmod (wrap64 (rd x0 x4)) 42))) = 27 then (if x2.length < 4398046511104 then (if x3.length < 4398046511104 then (laws_linePoints.l0 k x0 (x2 ++ [(⟨wrap64 (1 + (Int.tmod (wrap64 (rd x0 x4)) 42)), Int.tmod (wrap64 (rd x0 (wrap64 (x4 + 1)))) 5, Int.tmod (wrap64 (rd x0 (wrap64 (x4 + 2)))) 6, 14⟩ : S62)]) (x3 ++ [(⟨wrap64 (1 + (Int.tmod (wrap64 (rd x0 x4)) 42)), Int.tmod (wrap64 (rd x0 (wrap64 (x4 + 1)))) 5, Int.tmod (wrap64 (rd x0 (wrap64 (x4 + 2)))) 6, (14 == 14)⟩ : S64)]) (wrap64 (x4 + 3))) else (none)) else (none)) else (if x2.length < 4398046511104 then (if x3.length < 4398046511104 then (laws_linePoints.l0 k x0 (x2 ++ [(⟨wrap64 (1 + (Int.tmod (wrap64 (rd x0 x4)) 42)), 0, Int.tmod (wrap64 (rd x0 (wrap64 (x4 + 2)))) 6, 14⟩ : S62)]) (x3 ++ [(⟨wrap64 (1 + (Int.tmod (wrap64 (rd x0 x4)) 42)), 0, Int.tmod (wrap64 (rd x0 (wrap64 (x4 + 2)))) 6, (14 == 14)⟩ : S64)]) (wrap64 (x4 + 3))) else (none)) else (none))) else (if x2.length < 4398046511104 then (if x3.length < 4398046511104 then (laws_linePoints.l0 k x0 (x2 ++ [(⟨wrap64 (1 + (Int.tmod (wrap64 (rd x0 x4)) 42)), Int.tmod (wrap64 (rd x0 (wrap64 (x4 + 1)))) 5, Int.tmod (wrap64 (rd x0 (wrap64 (x4 + 2)))) 6, 14⟩ : S62)]) (x3 ++ [(⟨wrap64 (1 + (Int.tmod (wrap64 (rd x0 x4)) 42)), Int.tmod (wrap64 (rd x0 (wrap64 (x4 + 1)))) 5, Int.tmod (wrap64 (rd x0 (wrap64 (x4 + 2)))) 6, (14 == 14)⟩ : S64)]) (wrap64 (x4 + 3))) else (none)) else (none))) else (if (Int.tmod (wrap64 (rd x0 (wrap64 (x4 + 1)))) 5) = 2 then (if (wrap64 (1 + (Int.tmod (wrap64 (rd x0 x4)) 42))) = 27 then (if x2.length < 4398046511104 then (if x3.length < 4398046511104 then (laws_linePoints.l0 k x0 (x2 ++ [(⟨wrap64 (1 + (Int.tmod (wrap64 (rd x0 x4)) 42)), Int.tmod (wrap64 (rd x0 (wrap64 (x4 + 1)))) 5, Int.tmod (wrap64 (rd x0 (wrap64 (x4 + 2)))) 6, 0⟩ : S62)]) (x3 ++ [(⟨wrap64 (1 + (Int.tmod (wrap64 (rd x0 x4)) 42)), Int.tmod (wrap64 (rd x0 (wrap64 (x4 + 1)))) 5, Int.tmod (wrap64 (rd x0 (wrap64 (x4 + 2)))) 6, (0 == 14)⟩ : S64)]) (wrap64 (x4 + 3))) else (none)) else (none)) else (if x2.length < 4398046511104 then (if x3.length < 4398046511104 then (laws_linePoints.l0 k x0 (x2 ++ [(⟨wrap64 (1 + (Int.tmod (wrap64 (rd x0 x4)) 42)), 0, Int.tmod (wrap64 (rd x0 (wrap64 (x4 + 2)))) 6, 0⟩ : S62)]) (x3 ++ [(⟨wrap64 (1 + (Int.tmod (wrap64 (rd x0 x4)) 42)), 0, Int.tmod (wrap64 (rd x0 (wrap64 (x4 + 2)))) 6, (0 == 14)⟩ : S64)]) (wrap64 (x4 + 3))) else (none)) else (none))) else (if x2.length < 4398046511104 then (if x3.length < 4398046511104 then (laws_linePoints.l0 k x0 (x2 ++ [(⟨wrap64 (1 + (Int.tmod (wrap64 (rd x0 x4)) 42)), Int.tmod (wrap64 (rd x0 (wrap64 (x4 + 1)))) 5, Int.tmod (wrap64 (rd x0 (wrap64 (x4 + 2)))) 6, 0⟩ : S62)]) (x3 ++ [(⟨wrap64 (1 + (Int.tmod (wrap64 (rd x0 x4)) 42)), Int.tmod (wrap64 (rd x0 (wrap64 (x4 + 1)))) 5, Int.tmod (wrap64 (rd x0 (wrap64 (x4 + 2)))) 6, (0 == 14)⟩ : S64)]) (wrap64 (x4 + 3))) else (none)) else (none)))) else (none)) else (none)) else (none)) else (none)) else (none)) else (none)) else (some (x2, x3))
end
def laws_linePoints.f (k : Nat) (l0 : List Int) : Option ((List (S62)) × (List (S64))) := laws_linePoints.l0 k l0 ([] : List (S62)) ([] : List (S64)) 0
def laws_linePoints.T4 : Bool × List (List Nat × List Nat) := (true, [([], []), ([], []), ([0, 1], [0, 1]), ([2], [2]), ([3], [3]), ([4], [4]), ([5], [5]), ([], []), ([], []), ([8], [8]), ([7, 9], [7, 9]), ([10], [10]), ([11], [11]), ([12], [12]), ([], []), ([], []), ([15], [15]), ([14, 16], [14, 16]), ([17], [17]), ([18], [18]), ([19], [19]), ([6, 13, 20], [6, 13, 20]), ([], []), ([22, 21, 0, 1, 2, 3, 4, 5, 6, 7, 8, 9, 10, 11, 12, 13, 14, 15, 16, 17, 18, 19, 20, 21, 22], [21, 22])])
def laws_linePoints.B4 : List Nat := [0, 0, 3, 7, 15, 31, 63, 0, 0, 256, 896, 1920, 3968, 8064, 0, 0, 32768, 114688, 245760, 507904, 1032192, 2097151, 0, 8388607]
theorem laws_linePoints.tab4 : rtab .any (opsOf Try.f18 4) = laws_linePoints.T4 := by kernel_rfl
theorem laws_linePoints.bits4 : waitsOk laws_linePoints.T4.2 laws_linePoints.B4 = true := by kernel_rfl
set_option maxHeartbeats 8000000 in
set_option maxRecDepth 100000 in
theorem laws_linePoints.calls (k : Nat) (A0 : Option Addr) (c0 : Nat) (l0 : List Int) (r1 : List (S62)) (r2 : List (S64)) (w : World) (hr0 : Kd.C (Kd.int .u8) w A0 l0.length l0) (hc0 : l0.length ≤ c0) (h : laws_linePoints.f k l0 = some (r1, r2)) :
  Calls Try.prog 18 #[.slice A0 l0.length c0] w fun e w' => ∃ v0_ v1_ : Value, e = .returned (.tuple #[v0_, v1_]) ∧ Kd.R k62 62 w' w.heap.size (fun _ => True) v0_ r1 ∧ Kd.R k64 64 w' w.heap.size (fun _ => True) v1_ r2 ∧ Below w.heap.size w w' := by
 have hu62 := Try.underlying62
 have hu64 := Try.underlying64
 have HR0 := Aside0.mk hr0
 have HC0 := Aside0.mk hc0
 clear hr0 hc0
 have HB := Aside0.mk (Below.refl w.heap.size w)
 have H : (laws_linePoints.l0 k l0 ([] : List (S62)) ([] : List (S64)) 0) = some (r1, r2) := h
 clear h
 have H' := Aside0.mk H
 clear H
 go_enter Try.func18, Try.ntmps18
 go_wp2
 go_loopg [2, 3, 4] k (fun kq v2 v3 v4 w' => ∃ (x2_1 : List (S62)) (x3_1 : List (S64)) (x4_1 : Int), v4 = .int .i64 x4_1 ∧ Aside0 (laws_linePoints.l0 kq l0 x2_1 x3_1 x4_1 = some (r1, r2)) ∧ Aside0 (kq ≤ k) ∧ Aside0 (Kd.R k62 62 w' w.heap.size (fun _ => True) v2 x2_1) ∧ Aside0 (Kd.R k64 64 w' w.heap.size (fun _ => True) v3 x3_1) ∧ Aside0 (Below w.heap.size w w'))
 case atStart => exact ⟨(([] : List (S62))), (([] : List (S64))), (0), vz, H', ⟨Nat.le_refl _⟩, ⟨by first | exact Kd.R_nil _ _ _ _ _ | exact Kd.N_nil _ _ _ _ _ | exact Kd.V_nil _ _ _ _ _ | exact Kd.Q_nil _ _ _ _ _ | exact Kd.S_nil _ _ _ _ _⟩, ⟨by first | exact Kd.R_nil _ _ _ _ _ | exact Kd.N_nil _ _ _ _ _ | exact Kd.V_nil _ _ _ _ _ | exact Kd.Q_nil _ _ _ _ _ | exact Kd.S_nil _ _ _ _ _⟩, ⟨bz⟩⟩
 case round =>
  clear H'
  obtain ⟨x2_1, x3_1, x4_1, rfl, HA, HK1, HO_2, HO_3, HB⟩ := hrel
  cases gk with
  | zero => exact absurd HA.out (by simp [laws_linePoints.l0])
  | succ k1 =>
   have H := HA.out
   clear HA
   simp only [laws_linePoints.l0] at H
   have HC2 := Aside0.mk H
   clear H
   go_upto_region 2 with (fail)
   go_cut [14] (fun v14 wc => ∃ (kq : Nat) (x14_1 : Bool), v14 = .bool x14_1 ∧ Aside0 (laws_linePoints.j1 kq l0 x2_1 x3_1 x4_1 x14_1 = some (r1, r2)) ∧ Aside0 (kq ≤ k1) ∧ Aside0 (Kd.R k62 62 wc w.heap.size (fun _ => True) u2 x2_1) ∧ Aside0 (Kd.R k64 64 wc w.heap.size (fun _ => True) u3 x3_1) ∧ Aside0 (Below w.heap.size w wc))
   case first =>
    have H := HC2.out
    clear HC2
    by_cases c3 : (wrap64 (x4_1 + 2)) < (l0.length : Int)
    ·rw [if_pos c3] at H
     have c3b0 : decide ((wrap64 (x4_1 + 2)) < (l0.length : Int)) = true := decide_eq_true c3
     clear c3
     (first | rw [c3b0] | (simp only [i64_w]; rw [c3b0]) | skip)
     have H' := Aside0.mk H
     clear H
     go_wp2
     go_meet
     case rel => exact ⟨_, (decide (x4_1 < 120)), vz, H', ⟨by have := HK1.out; first | omega | exact Nat.le_refl _⟩, ⟨by (with_reducible repeat (first | apply Kd.R_alloc | apply Kd.R_drewN | apply Kd.R_drew)); exact HO_2.out⟩, ⟨by (with_reducible repeat (first | apply Kd.R_alloc | apply Kd.R_drewN | apply Kd.R_drew)); exact HO_3.out⟩, ⟨bz⟩⟩
    ·rw [if_neg c3] at H
     have c3b0 : decide ((wrap64 (x4_1 + 2)) < (l0.length : Int)) = false := decide_eq_false c3
     clear c3
     (first | rw [c3b0] | (simp only [i64_w]; rw [c3b0]) | skip)
     have H' := Aside0.mk H
     clear H
     go_wp2
     go_meet
     case rel => exact ⟨_, (false), vz, H', ⟨by have := HK1.out; first | omega | exact Nat.le_refl _⟩, ⟨by (with_reducible repeat (first | apply Kd.R_alloc | apply Kd.R_drewN | apply Kd.R_drew)); exact HO_2.out⟩, ⟨by (with_reducible repeat (first | apply Kd.R_alloc | apply Kd.R_drewN | apply Kd.R_drew)); exact HO_3.out⟩, ⟨bz⟩⟩
   case rest =>
    clear HC2
    obtain ⟨kq, x14_1, rfl, HA, HJ1, HO_2, HO_3, HB⟩ := hcut
    cases kq with
    | zero => exact absurd HA.out (by simp [laws_linePoints.j1])
    | succ kj1 =>
     have H := HA.out
     clear HA
     simp only [laws_linePoints.j1] at H
     by_cases c4 : x14_1 = true
     ·subst c4
      rw [if_pos rfl] at H
      by_cases c5 : 0 ≤ x4_1
      ·rw [if_pos c5] at H
       have c5b0 : decide (0 ≤ x4_1) = true := decide_eq_true c5
       clear c5
       by_cases c6 : x4_1 < (l0.length : Int)
       ·rw [if_pos c6] at H
        have c6b0 : decide (x4_1 < (l0.length : Int)) = true := decide_eq_true c6
        clear c6
        obtain ⟨ji7, hji7⟩ : ∃ j_ : Int, (wrap64 (x4_1 + 1)) = j_ := ⟨_, rfl⟩
        first | rw [hji7] at H | simp only [hji7] at H
        have hji7w : (IntKind.i64.wrap (x4_1 + 1)) = ji7 := (i64_w _).trans hji7
        by_cases c8 : 0 ≤ (ji7)
        ·rw [if_pos c8] at H
         have c8b0 : decide (0 ≤ (ji7)) = true := decide_eq_true c8
         clear c8
         by_cases c9 : (ji7) < (l0.length : Int)
         ·rw [if_pos c9] at H
          have c9b0 : decide ((ji7) < (l0.length : Int)) = true := decide_eq_true c9
          clear c9
          obtain ⟨ji10, hji10⟩ : ∃ j_ : Int, (wrap64 (x4_1 + 2)) = j_ := ⟨_, rfl⟩
          first | rw [hji10] at H | simp only [hji10] at H
          have hji10w : (IntKind.i64.wrap (x4_1 + 2)) = ji10 := (i64_w _).trans hji10
          by_cases c11 : 0 ≤ (ji10)
          ·rw [if_pos c11] at H
           have c11b0 : decide (0 ≤ (ji10)) = true := decide_eq_true c11
           clear c11
           by_cases c12 : (ji10) < (l0.length : Int)
           ·rw [if_pos c12] at H
            have c12b0 : decide ((ji10) < (l0.length : Int)) = true := decide_eq_true c12
            clear c12
            try go_wp2
            have n0_ := Aside0.mk (Kd.R_drew HO_2.out)
            have n1_ := Aside0.mk (Kd.R_drew HO_3.out)
            have n2_ := Aside0.mk (below_drew1 HB.out)
            clear HO_2
            clear HO_3
            clear HB
            have HO_2 := n0_
            have HO_3 := n1_
            have HB := n2_
            clear n0_ n1_ n2_
            have p360 : 0 ≤ (x4_1 : Int) := of_decide_eq_true az
            have q360 : x4_1 < (l0.length : Int) := of_decide_eq_true az
            obtain ⟨ad360, e360, hx360_0⟩ := Kd.at_int HR0.out x4_1 p360 q360
            have hw360_0 := hx360_0
            cases e360
            replace hx360_0 := (HB.out.cell (World.block_lt_of_cell? w _ hx360_0)).trans hx360_0
            replace p360 := eq_true p360
            replace q360 := eq_true q360
            have p361 : 0 ≤ ((ji7) : Int) := of_decide_eq_true az
            have q361 : (ji7) < (l0.length : Int) := of_decide_eq_true az
            obtain ⟨ad361, e361, hx361_0⟩ := Kd.at_int HR0.out (ji7) p361 q361
            have hw361_0 := hx361_0
            obtain rfl : ad360 = ad361 := (by injection e361)
            replace hx361_0 := (HB.out.cell (World.block_lt_of_cell? w _ hx361_0)).trans hx361_0
            replace p361 := eq_true p361
            replace q361 := eq_true q361
            have p362 : 0 ≤ ((ji10) : Int) := of_decide_eq_true az
            have q362 : (ji10) < (l0.length : Int) := of_decide_eq_true az
            obtain ⟨ad362, e362, hx362_0⟩ := Kd.at_int HR0.out (ji10) p362 q362
            have hw362_0 := hx362_0
            obtain rfl : ad360 = ad362 := (by injection e362)
            replace hx362_0 := (HB.out.cell (World.block_lt_of_cell? w _ hx362_0)).trans hx362_0
            replace p362 := eq_true p362
            replace q362 := eq_true q362
            refine start_ (n := 24) (S := fun w' => w'.cell? (ad360.add (x4_1).toNat) = some (.int .u8 (rd l0 x4_1)) ∧ w'.cell? (ad360.add ((ji7)).toNat) = some (.int .u8 (rd l0 (ji7))) ∧ w'.cell? (ad360.add ((ji10)).toNat) = some (.int .u8 (rd l0 (ji10)))) (ds := []) #[false, false, false, false, false, false, false, false, false, false, false, false, false, false, false, false, false, false, false, false, false, false, false, false] (by kernel_rfl) rfl rfl ⟨((HB.out.cell (World.block_lt_of_cell? w _ hw360_0)).trans hw360_0), ((HB.out.cell (World.block_lt_of_cell? w _ hw361_0)).trans hw361_0), ((HB.out.cell (World.block_lt_of_cell? w _ hw362_0)).trans hw362_0)⟩ (fun hHeld => ?_); refine with_tabW laws_linePoints.tab4 laws_linePoints.bits4 (fun HT_ HW_ => ?_)
            generalize wc.drew = w18 at HO_2 HO_3 HB hx360_0 hx361_0 hx362_0 hHeld ⊢
            refine pure_ (i := 0) (N := some 17) (v := ?_) (a' := ?_) #[true, false, false, false, false, false, false, false, false, false, false, false, false, false, false, false, false, false, false, false, false, false, false, false] rfl rfl (any_of HT_.out (by kernel_rfl)) (fun _ _ _ h => h) (Or.inl ⟨by rfl, ?_⟩) ?_ ?_
            rotate_left
            ·intro w'
             go_simp
             with_reducible rfl
            rotate_left
            ·simp only [Act.put, List.setIfInBounds_toArray, List.set_cons_zero, List.set_cons_succ, i64_w]
             rfl
            refine pure_ (i := 1) (N := some 18) (v := ?_) (a' := ?_) #[true, true, false, false, false, false, false, false, false, false, false, false, false, false, false, false, false, false, false, false, false, false, false, false] rfl rfl (any_of HT_.out (by kernel_rfl)) (fun _ _ _ h => h) (Or.inl ⟨by rfl, ?_⟩) ?_ ?_
            rotate_left
            ·intro w'
             go_simp
             with_reducible rfl
            rotate_left
            ·simp only [Act.put, List.setIfInBounds_toArray, List.set_cons_zero, List.set_cons_succ, i64_w]
             rfl
            refine pure_ (i := 2) (N := some 19) (v := ?_) (a' := ?_) #[true, true, true, false, false, false, false, false, false, false, false, false, false, false, false, false, false, false, false, false, false, false, false, false] rfl rfl (any_of HT_.out (by kernel_rfl)) (fun _ _ _ h => h) (Or.inl ⟨by rfl, ?_⟩) ?_ ?_
            rotate_left
            ·intro w'
             go_simp
             with_reducible rfl
            rotate_left
            ·simp only [Act.put, List.setIfInBounds_toArray, List.set_cons_zero, List.set_cons_succ, i64_w]
             rfl
            refine pure_ (i := 7) (N := some 24) (v := ?_) (a' := ?_) #[true, true, true, false, false, false, false, true, false, false, false, false, false, false, false, false, false, false, false, false, false, false, false, false] rfl rfl (any_of HT_.out (by kernel_rfl)) (fun _ _ _ h => h) (Or.inl ⟨by rfl, ?_⟩) ?_ ?_
            rotate_left
            ·intro w'
             go_simp
             with_reducible rfl
            rotate_left
            ·simp only [Act.put, List.setIfInBounds_toArray, List.set_cons_zero, List.set_cons_succ, i64_w]
             rfl
            refine pure_ (i := 8) (N := some 25) (v := ?_) (a' := ?_) #[true, true, true, false, false, false, false, true, true, false, false, false, false, false, false, false, false, false, false, false, false, false, false, false] rfl rfl (any_of HT_.out (by kernel_rfl)) (fun _ _ _ h => h) (Or.inl ⟨by rfl, ?_⟩) ?_ ?_
            rotate_left
            ·intro w'
             go_simp
             with_reducible rfl
            rotate_left
            ·simp only [Act.put, List.setIfInBounds_toArray, List.set_cons_zero, List.set_cons_succ, i64_w]
             rfl
            refine pure_ (i := 9) (N := some 26) (v := ?_) (a' := ?_) #[true, true, true, false, false, false, false, true, true, true, false, false, false, false, false, false, false, false, false, false, false, false, false, false] rfl rfl (any_of HT_.out (by kernel_rfl)) (fun _ _ _ h => h) (Or.inl ⟨by rfl, ?_⟩) ?_ ?_
            rotate_left
            ·intro w'
             go_simp
             with_reducible rfl
            rotate_left
            ·simp only [Act.put, List.setIfInBounds_toArray, List.set_cons_zero, List.set_cons_succ, i64_w]
             rfl
            refine pure_ (i := 10) (N := some 27) (v := ?_) (a' := ?_) #[true, true, true, false, false, false, false, true, true, true, true, false, false, false, false, false, false, false, false, false, false, false, false, false] rfl rfl (any_of HT_.out (by kernel_rfl)) (fun _ _ _ h => h) (Or.inl ⟨by rfl, ?_⟩) ?_ ?_
            rotate_left
            ·intro w'
             go_simp
             with_reducible rfl
            rotate_left
            ·simp only [Act.put, List.setIfInBounds_toArray, List.set_cons_zero, List.set_cons_succ, i64_w]
             rfl
            refine pure_ (i := 14) (N := some 31) (v := ?_) (a' := ?_) #[true, true, true, false, false, false, false, true, true, true, true, false, false, false, true, false, false, false, false, false, false, false, false, false] rfl rfl (any_of HT_.out (by kernel_rfl)) (fun _ _ _ h => h) (Or.inl ⟨by rfl, ?_⟩) ?_ ?_
            rotate_left
            ·intro w'
             go_simp
             with_reducible rfl
            rotate_left
            ·simp only [Act.put, List.setIfInBounds_toArray, List.set_cons_zero, List.set_cons_succ, i64_w]
             rfl
            refine pure_ (i := 15) (N := some 32) (v := ?_) (a' := ?_) #[true, true, true, false, false, false, false, true, true, true, true, false, false, false, true, true, false, false, false, false, false, false, false, false] rfl rfl (any_of HT_.out (by kernel_rfl)) (fun _ _ _ h => h) (Or.inl ⟨by rfl, ?_⟩) ?_ ?_
            rotate_left
            ·intro w'
             go_simp
             with_reducible rfl
            rotate_left
            ·simp only [Act.put, List.setIfInBounds_toArray, List.set_cons_zero, List.set_cons_succ, i64_w]
             rfl
            refine pure_ (i := 16) (N := some 33) (v := ?_) (a' := ?_) #[true, true, true, false, false, false, false, true, true, true, true, false, false, false, true, true, true, false, false, false, false, false, false, false] rfl rfl (any_of HT_.out (by kernel_rfl)) (fun _ _ _ h => h) (Or.inl ⟨by rfl, ?_⟩) ?_ ?_
            rotate_left
            ·intro w'
             go_simp
             with_reducible rfl
            rotate_left
            ·simp only [Act.put, List.setIfInBounds_toArray, List.set_cons_zero, List.set_cons_succ, i64_w]
             rfl
            refine pure_ (i := 17) (N := some 34) (v := ?_) (a' := ?_) #[true, true, true, false, false, false, false, true, true, true, true, false, false, false, true, true, true, true, false, false, false, false, false, false] rfl rfl (any_of HT_.out (by kernel_rfl)) (fun _ _ _ h => h) (Or.inl ⟨by rfl, ?_⟩) ?_ ?_
            rotate_left
            ·intro w'
             go_simp
             with_reducible rfl
            rotate_left
            ·simp only [Act.put, List.setIfInBounds_toArray, List.set_cons_zero, List.set_cons_succ, i64_w]
             rfl
            refine take_ (i := 3) (N := some 20) (v := ?_) (a' := ?_) #[true, true, true, true, false, false, false, true, true, true, true, false, false, false, true, true, true, true, false, false, false, false, false, false] rfl rfl (take_ofW HT_.out HW_.out (by kernel_rfl)) (fun _ _ _ h => h) (Or.inl ⟨by rfl, ?_⟩) hHeld ?_ ?_
            rotate_left
            ·rintro w' ⟨s0, s1, s2⟩
             go_simp
             with_reducible rfl
            rotate_left
            ·simp only [Act.put, List.setIfInBounds_toArray, List.set_cons_zero, List.set_cons_succ, i64_w]
             rfl
            refine pure_ (i := 4) (N := some 21) (v := ?_) (a' := ?_) #[true, true, true, true, true, false, false, true, true, true, true, false, false, false, true, true, true, true, false, false, false, false, false, false] rfl rfl (any_of HT_.out (by kernel_rfl)) (fun _ _ _ h => h) (Or.inl ⟨by rfl, ?_⟩) ?_ ?_
            rotate_left
            ·intro w'
             go_simp
             with_reducible rfl
            rotate_left
            ·simp only [Act.put, List.setIfInBounds_toArray, List.set_cons_zero, List.set_cons_succ, i64_w]
             rfl
            refine pure_ (i := 5) (N := some 22) (v := ?_) (a' := ?_) #[true, true, true, true, true, true, false, true, true, true, true, false, false, false, true, true, true, true, false, false, false, false, false, false] rfl rfl (any_of HT_.out (by kernel_rfl)) (fun _ _ _ h => h) (Or.inl ⟨by rfl, ?_⟩) ?_ ?_
            rotate_left
            ·intro w'
             go_simp
             with_reducible rfl
            rotate_left
            ·simp only [Act.put, List.setIfInBounds_toArray, List.set_cons_zero, List.set_cons_succ, i64_w]
             rfl
            refine pure_ (i := 6) (N := some 23) (v := ?_) (a' := ?_) #[true, true, true, true, true, true, true, true, true, true, true, false, false, false, true, true, true, true, false, false, false, false, false, false] rfl rfl (any_of HT_.out (by kernel_rfl)) (fun _ _ _ h => h) (Or.inl ⟨by rfl, ?_⟩) ?_ ?_
            rotate_left
            ·intro w'
             go_simp
             with_reducible rfl
            rotate_left
            ·simp only [Act.put, List.setIfInBounds_toArray, List.set_cons_zero, List.set_cons_succ, i64_w]
             rfl
            refine take_ (i := 11) (N := some 28) (v := ?_) (a' := ?_) #[true, true, true, true, true, true, true, true, true, true, true, true, false, false, true, true, true, true, false, false, false, false, false, false] rfl rfl (take_ofW HT_.out HW_.out (by kernel_rfl)) (fun _ _ _ h => h) (Or.inl ⟨by rfl, ?_⟩) hHeld ?_ ?_
            rotate_left
            ·rintro w' ⟨s0, s1, s2⟩
             go_simp
             with_reducible rfl
            rotate_left
            ·simp only [Act.put, List.setIfInBounds_toArray, List.set_cons_zero, List.set_cons_succ, i64_w]
             rfl
            refine pure_ (i := 12) (N := some 29) (v := ?_) (a' := ?_) #[true, true, true, true, true, true, true, true, true, true, true, true, true, false, true, true, true, true, false, false, false, false, false, false] rfl rfl (any_of HT_.out (by kernel_rfl)) (fun _ _ _ h => h) (Or.inl ⟨by rfl, ?_⟩) ?_ ?_
            rotate_left
            ·intro w'
             go_simp
             with_reducible rfl
            rotate_left
            ·simp only [Act.put, List.setIfInBounds_toArray, List.set_cons_zero, List.set_cons_succ, i64_w]
             rfl
            refine pure_ (i := 13) (N := some 30) (v := ?_) (a' := ?_) #[true, true, true, true, true, true, true, true, true, true, true, true, true, true, true, true, true, true, false, false, false, false, false, false] rfl rfl (any_of HT_.out (by kernel_rfl)) (fun _ _ _ h => h) (Or.inl ⟨by rfl, ?_⟩) ?_ ?_
            rotate_left
            ·intro w'
             go_simp
             with_reducible rfl
            rotate_left
            ·simp only [Act.put, List.setIfInBounds_toArray, List.set_cons_zero, List.set_cons_succ, i64_w]
             rfl
            refine take_ (i := 18) (N := some 35) (v := ?_) (a' := ?_) #[true, true, true, true, true, true, true, true, true, true, true, true, true, true, true, true, true, true, true, false, false, false, false, false] rfl rfl (take_ofW HT_.out HW_.out (by kernel_rfl)) (fun _ _ _ h => h) (Or.inl ⟨by rfl, ?_⟩) hHeld ?_ ?_
            rotate_left
            ·rintro w' ⟨s0, s1, s2⟩
             go_simp
             with_reducible rfl
            rotate_left
            ·simp only [Act.put, List.setIfInBounds_toArray, List.set_cons_zero, List.set_cons_succ, i64_w]
             rfl
            refine pure_ (i := 19) (N := some 36) (v := ?_) (a' := ?_) #[true, true, true, true, true, true, true, true, true, true, true, true, true, true, true, true, true, true, true, true, false, false, false, false] rfl rfl (any_of HT_.out (by kernel_rfl)) (fun _ _ _ h => h) (Or.inl ⟨by rfl, ?_⟩) ?_ ?_
            rotate_left
            ·intro w'
             go_simp
             with_reducible rfl
            rotate_left
            ·simp only [Act.put, List.setIfInBounds_toArray, List.set_cons_zero, List.set_cons_succ, i64_w]
             rfl
            refine pure_ (i := 20) (N := some 37) (v := ?_) (a' := ?_) #[true, true, true, true, true, true, true, true, true, true, true, true, true, true, true, true, true, true, true, true, true, false, false, false] rfl rfl (any_of HT_.out (by kernel_rfl)) (fun _ _ _ h => h) (Or.inl ⟨by rfl, ?_⟩) ?_ ?_
            rotate_left
            ·intro w'
             go_simp
             with_reducible rfl
            rotate_left
            ·simp only [Act.put, List.setIfInBounds_toArray, List.set_cons_zero, List.set_cons_succ, i64_w]
             rfl
            refine pure_ (i := 21) (N := some 38) (v := ?_) (a' := ?_) #[true, true, true, true, true, true, true, true, true, true, true, true, true, true, true, true, true, true, true, true, true, true, false, false] rfl rfl (any_of HT_.out (by kernel_rfl)) (fun _ _ _ h => h) (Or.inl ⟨by rfl, ?_⟩) ?_ ?_
            rotate_left
            ·intro w'
             go_simp
             with_reducible rfl
            rotate_left
            ·simp only [Act.put, List.setIfInBounds_toArray, List.set_cons_zero, List.set_cons_succ, i64_w]
             rfl
            refine one_ (i := 22) (N := some 5) #[true, true, true, true, true, true, true, true, true, true, true, true, true, true, true, true, true, true, true, true, true, true, true, false] rfl rfl (one_of HT_.out (by kernel_rfl)) (by decide) (fun K hK => ?_)
            refine box_step ?hg (N := 5) ?hd (cs := #[.int .i64 0, .int .i64 0, .int .i64 0, .int .i64 0]) (t := 62) ?hr ?_; (case hd => rfl); (case hg => rfl); (case hr => first | (go_simp; done) | (go_simp; rfl))
            intro gb363 hg w19 hbox hb
            have n0_ := Aside0.mk (Kd.R_below (Kd.R_elderB (by (with_reducible repeat (first | apply Kd.R_alloc | apply Kd.R_drewN | apply Kd.R_drew)); exact HO_2.out) gb363 (Nat.le_of_eq hg.symm)) hb)
            have n1_ := Aside0.mk (Kd.R_below (by (with_reducible repeat (first | apply Kd.R_alloc | apply Kd.R_drewN | apply Kd.R_drew)); exact HO_3.out) hb)
            have n2_ := Aside0.mk (below_step bz hb)
            have n3_ := Aside0.mk (hbox)
            have n4_ := Aside0.mk ((by rw [hg]; exact (below_size bz) : w.heap.size ≤ gb363))
            have n5_ := Aside0.mk ((by rw [hg]; exact (below_size bz) : w.heap.size ≤ gb363))
            clear HO_2
            clear HO_3
            clear HB
            have HO_2 := n0_
            have HO_3 := n1_
            have HB := n2_
            have BK363 := n3_
            have GW363 := n4_
            have GE363 := n5_
            clear n0_ n1_ n2_ n3_ n4_ n5_
            clear hb hbox hg
            refine hK.out _ _ ⟨((HB.out.cell (World.block_lt_of_cell? w _ hw360_0)).trans hw360_0), ((HB.out.cell (World.block_lt_of_cell? w _ hw361_0)).trans hw361_0), ((HB.out.cell (World.block_lt_of_cell? w _ hw362_0)).trans hw362_0)⟩ (fun hHeld => ?_)
            clear hK K
            refine norm_ (a' := ?_) ?_ ?_
            rotate_left
            ·show Act.put _ (some 5) _ = _
             simp only [Act.put, List.setIfInBounds_toArray, List.set_cons_zero, List.set_cons_succ, i64_w]
             rfl
            refine one_ (i := 23) (N := none) #[true, true, true, true, true, true, true, true, true, true, true, true, true, true, true, true, true, true, true, true, true, true, true, true] rfl rfl (one_of HT_.out (by kernel_rfl)) (by decide) (fun K hK => ?_)
            have hs20 : w19.cell? ⟨gb363, 0, none⟩ = some (.int .i64 0) := (blk_cell BK363.out 0).trans rfl
            have hfs20 := blk_frozen BK363.out 0
            have hs21 : w19.cell? ⟨gb363, 1, none⟩ = some (.int .i64 0) := (blk_cell BK363.out 1).trans rfl
            have hfs21 := blk_frozen BK363.out 1
            have hs22 : w19.cell? ⟨gb363, 2, none⟩ = some (.int .i64 0) := (blk_cell BK363.out 2).trans rfl
            have hfs22 := blk_frozen BK363.out 2
            have hs23 : w19.cell? ⟨gb363, 3, none⟩ = some (.int .i64 0) := (blk_cell BK363.out 3).trans rfl
            have hfs23 := blk_frozen BK363.out 3
            refine skip_ (w1 := ?_) (by rfl) rfl ?_ ?_
            rotate_left
            ·go_simp
             rfl
            refine hK.out _ _ ⟨((cell_far (p := ⟨gb363, _, none⟩) (by first | exact Nat.ne_of_lt (Nat.lt_of_lt_of_le (by have := World.block_lt_of_cell? _ _ hw360_0; first | rwa [add_block] at this | exact this) GW363.out) | (rw [add_block]; exact Nat.ne_of_lt (Nat.lt_of_lt_of_le (by have := World.block_lt_of_cell? _ _ hw360_0; first | rwa [add_block] at this | exact this) GW363.out)) | (show (Addr.add _ _).block ≠ _; rw [add_block]; exact Nat.ne_of_lt (Nat.lt_of_lt_of_le (by have := World.block_lt_of_cell? _ _ hw360_0; first | rwa [add_block] at this | exact this) GW363.out)) | (dsimp only; exact Nat.ne_of_lt (Nat.lt_of_lt_of_le (by have := World.block_lt_of_cell? _ _ hw360_0; first | rwa [add_block] at this | exact this) GW363.out))) _).trans (((cell_far (p := ⟨gb363, _, none⟩) (by first | exact Nat.ne_of_lt (Nat.lt_of_lt_of_le (by have := World.block_lt_of_cell? _ _ hw360_0; first | rwa [add_block] at this | exact this) GW363.out) | (rw [add_block]; exact Nat.ne_of_lt (Nat.lt_of_lt_of_le (by have := World.block_lt_of_cell? _ _ hw360_0; first | rwa [add_block] at this | exact this) GW363.out)) | (show (Addr.add _ _).block ≠ _; rw [add_block]; exact Nat.ne_of_lt (Nat.lt_of_lt_of_le (by have := World.block_lt_of_cell? _ _ hw360_0; first | rwa [add_block] at this | exact this) GW363.out)) | (dsimp only; exact Nat.ne_of_lt (Nat.lt_of_lt_of_le (by have := World.block_lt_of_cell? _ _ hw360_0; first | rwa [add_block] at this | exact this) GW363.out))) _).trans (((cell_far (p := ⟨gb363, _, none⟩) (by first | exact Nat.ne_of_lt (Nat.lt_of_lt_of_le (by have := World.block_lt_of_cell? _ _ hw360_0; first | rwa [add_block] at this | exact this) GW363.out) | (rw [add_block]; exact Nat.ne_of_lt (Nat.lt_of_lt_of_le (by have := World.block_lt_of_cell? _ _ hw360_0; first | rwa [add_block] at this | exact this) GW363.out)) | (show (Addr.add _ _).block ≠ _; rw [add_block]; exact Nat.ne_of_lt (Nat.lt_of_lt_of_le (by have := World.block_lt_of_cell? _ _ hw360_0; first | rwa [add_block] at this | exact this) GW363.out)) | (dsimp only; exact Nat.ne_of_lt (Nat.lt_of_lt_of_le (by have := World.block_lt_of_cell? _ _ hw360_0; first | rwa [add_block] at this | exact this) GW363.out))) _).trans (((cell_far (p := ⟨gb363, _, none⟩) (by first | exact Nat.ne_of_lt (Nat.lt_of_lt_of_le (by have := World.block_lt_of_cell? _ _ hw360_0; first | rwa [add_block] at this | exact this) GW363.out) | (rw [add_block]; exact Nat.ne_of_lt (Nat.lt_of_lt_of_le (by have := World.block_lt_of_cell? _ _ hw360_0; first | rwa [add_block] at this | exact this) GW363.out)) | (show (Addr.add _ _).block ≠ _; rw [add_block]; exact Nat.ne_of_lt (Nat.lt_of_lt_of_le (by have := World.block_lt_of_cell? _ _ hw360_0; first | rwa [add_block] at this | exact this) GW363.out)) | (dsimp only; exact Nat.ne_of_lt (Nat.lt_of_lt_of_le (by have := World.block_lt_of_cell? _ _ hw360_0; first | rwa [add_block] at this | exact this) GW363.out))) _).trans (hHeld.1)))))))), ((cell_far (p := ⟨gb363, _, none⟩) (by first | exact Nat.ne_of_lt (Nat.lt_of_lt_of_le (by have := World.block_lt_of_cell? _ _ hw361_0; first | rwa [add_block] at this | exact this) GW363.out) | (rw [add_block]; exact Nat.ne_of_lt (Nat.lt_of_lt_of_le (by have := World.block_lt_of_cell? _ _ hw361_0; first | rwa [add_block] at this | exact this) GW363.out)) | (show (Addr.add _ _).block ≠ _; rw [add_block]; exact Nat.ne_of_lt (Nat.lt_of_lt_of_le (by have := World.block_lt_of_cell? _ _ hw361_0; first | rwa [add_block] at this | exact this) GW363.out)) | (dsimp only; exact Nat.ne_of_lt (Nat.lt_of_lt_of_le (by have := World.block_lt_of_cell? _ _ hw361_0; first | rwa [add_block] at this | exact this) GW363.out))) _).trans (((cell_far (p := ⟨gb363, _, none⟩) (by first | exact Nat.ne_of_lt (Nat.lt_of_lt_of_le (by have := World.block_lt_of_cell? _ _ hw361_0; first | rwa [add_block] at this | exact this) GW363.out) | (rw [add_block]; exact Nat.ne_of_lt (Nat.lt_of_lt_of_le (by have := World.block_lt_of_cell? _ _ hw361_0; first | rwa [add_block] at this | exact this) GW363.out)) | (show (Addr.add _ _).block ≠ _; rw [add_block]; exact Nat.ne_of_lt (Nat.lt_of_lt_of_le (by have := World.block_lt_of_cell? _ _ hw361_0; first | rwa [add_block] at this | exact this) GW363.out)) | (dsimp only; exact Nat.ne_of_lt (Nat.lt_of_lt_of_le (by have := World.block_lt_of_cell? _ _ hw361_0; first | rwa [add_block] at this | exact this) GW363.out))) _).trans (((cell_far (p := ⟨gb363, _, none⟩) (by first | exact Nat.ne_of_lt (Nat.lt_of_lt_of_le (by have := World.block_lt_of_cell? _ _ hw361_0; first | rwa [add_block] at this | exact this) GW363.out) | (rw [add_block]; exact Nat.ne_of_lt (Nat.lt_of_lt_of_le (by have := World.block_lt_of_cell? _ _ hw361_0; first | rwa [add_block] at this | exact this) GW363.out)) | (show (Addr.add _ _).block ≠ _; rw [add_block]; exact Nat.ne_of_lt (Nat.lt_of_lt_of_le (by have := World.block_lt_of_cell? _ _ hw361_0; first | rwa [add_block] at this | exact this) GW363.out)) | (dsimp only; exact Nat.ne_of_lt (Nat.lt_of_lt_of_le (by have := World.block_lt_of_cell? _ _ hw361_0; first | rwa [add_block] at this | exact this) GW363.out))) _).trans (((cell_far (p := ⟨gb363, _, none⟩) (by first | exact Nat.ne_of_lt (Nat.lt_of_lt_of_le (by have := World.block_lt_of_cell? _ _ hw361_0; first | rwa [add_block] at this | exact this) GW363.out) | (rw [add_block]; exact Nat.ne_of_lt (Nat.lt_of_lt_of_le (by have := World.block_lt_of_cell? _ _ hw361_0; first | rwa [add_block] at this | exact this) GW363.out)) | (show (Addr.add _ _).block ≠ _; rw [add_block]; exact Nat.ne_of_lt (Nat.lt_of_lt_of_le (by have := World.block_lt_of_cell? _ _ hw361_0; first | rwa [add_block] at this | exact this) GW363.out)) | (dsimp only; exact Nat.ne_of_lt (Nat.lt_of_lt_of_le (by have := World.block_lt_of_cell? _ _ hw361_0; first | rwa [add_block] at this | exact this) GW363.out))) _).trans (hHeld.2.1)))))))), ((cell_far (p := ⟨gb363, _, none⟩) (by first | exact Nat.ne_of_lt (Nat.lt_of_lt_of_le (by have := World.block_lt_of_cell? _ _ hw362_0; first | rwa [add_block] at this | exact this) GW363.out) | (rw [add_block]; exact Nat.ne_of_lt (Nat.lt_of_lt_of_le (by have := World.block_lt_of_cell? _ _ hw362_0; first | rwa [add_block] at this | exact this) GW363.out)) | (show (Addr.add _ _).block ≠ _; rw [add_block]; exact Nat.ne_of_lt (Nat.lt_of_lt_of_le (by have := World.block_lt_of_cell? _ _ hw362_0; first | rwa [add_block] at this | exact this) GW363.out)) | (dsimp only; exact Nat.ne_of_lt (Nat.lt_of_lt_of_le (by have := World.block_lt_of_cell? _ _ hw362_0; first | rwa [add_block] at this | exact this) GW363.out))) _).trans (((cell_far (p := ⟨gb363, _, none⟩) (by first | exact Nat.ne_of_lt (Nat.lt_of_lt_of_le (by have := World.block_lt_of_cell? _ _ hw362_0; first | rwa [add_block] at this | exact this) GW363.out) | (rw [add_block]; exact Nat.ne_of_lt (Nat.lt_of_lt_of_le (by have := World.block_lt_of_cell? _ _ hw362_0; first | rwa [add_block] at this | exact this) GW363.out)) | (show (Addr.add _ _).block ≠ _; rw [add_block]; exact Nat.ne_of_lt (Nat.lt_of_lt_of_le (by have := World.block_lt_of_cell? _ _ hw362_0; first | rwa [add_block] at this | exact this) GW363.out)) | (dsimp only; exact Nat.ne_of_lt (Nat.lt_of_lt_of_le (by have := World.block_lt_of_cell? _ _ hw362_0; first | rwa [add_block] at this | exact this) GW363.out))) _).trans (((cell_far (p := ⟨gb363, _, none⟩) (by first | exact Nat.ne_of_lt (Nat.lt_of_lt_of_le (by have := World.block_lt_of_cell? _ _ hw362_0; first | rwa [add_block] at this | exact this) GW363.out) | (rw [add_block]; exact Nat.ne_of_lt (Nat.lt_of_lt_of_le (by have := World.block_lt_of_cell? _ _ hw362_0; first | rwa [add_block] at this | exact this) GW363.out)) | (show (Addr.add _ _).block ≠ _; rw [add_block]; exact Nat.ne_of_lt (Nat.lt_of_lt_of_le (by have := World.block_lt_of_cell? _ _ hw362_0; first | rwa [add_block] at this | exact this) GW363.out)) | (dsimp only; exact Nat.ne_of_lt (Nat.lt_of_lt_of_le (by have := World.block_lt_of_cell? _ _ hw362_0; first | rwa [add_block] at this | exact this) GW363.out))) _).trans (((cell_far (p := ⟨gb363, _, none⟩) (by first | exact Nat.ne_of_lt (Nat.lt_of_lt_of_le (by have := World.block_lt_of_cell? _ _ hw362_0; first | rwa [add_block] at this | exact this) GW363.out) | (rw [add_block]; exact Nat.ne_of_lt (Nat.lt_of_lt_of_le (by have := World.block_lt_of_cell? _ _ hw362_0; first | rwa [add_block] at this | exact this) GW363.out)) | (show (Addr.add _ _).block ≠ _; rw [add_block]; exact Nat.ne_of_lt (Nat.lt_of_lt_of_le (by have := World.block_lt_of_cell? _ _ hw362_0; first | rwa [add_block] at this | exact this) GW363.out)) | (dsimp only; exact Nat.ne_of_lt (Nat.lt_of_lt_of_le (by have := World.block_lt_of_cell? _ _ hw362_0; first | rwa [add_block] at this | exact this) GW363.out))) _).trans (hHeld.2.2))))))))⟩ (fun hHeld => ?_)
            clear hK K
            refine done_ (done_of HT_.out (by kernel_rfl)) ?_
            obtain ⟨K, hK_⟩ : ∃ K : Int, (wrap64 (1 + (Int.tmod (wrap64 (rd l0 x4_1)) 42))) = K := ⟨_, rfl⟩
            obtain ⟨G, hG_⟩ : ∃ G : Int, (Int.tmod (wrap64 (rd l0 (ji7))) 5) = G := ⟨_, rfl⟩
            obtain ⟨E, hE_⟩ : ∃ E : Int, (Int.tmod (wrap64 (rd l0 (ji10))) 6) = E := ⟨_, rfl⟩
            rw [hK_, hG_, hE_]
            simp only [hK_, hG_, hE_] at H
            clear hK_ hG_ hE_
            have n0_ : Aside0 (Kd.R k62 62 ((((w19.setCell ⟨gb363, 0, none⟩ (.int .i64 K)).setCell ⟨gb363, 1, none⟩ (.int .i64 G)).setCell ⟨gb363, 2, none⟩ (.int .i64 E)).setCell ⟨gb363, 3, none⟩ (.int .i64 0)) w.heap.size (fun k_ => k_ ≠ gb363) u2 x2_1) := ⟨Kd.R_mono (Kd.R_far (p := ⟨gb363, 3, none⟩) (Kd.R_far (p := ⟨gb363, 2, none⟩) (Kd.R_far (p := ⟨gb363, 1, none⟩) (Kd.R_far (p := ⟨gb363, 0, none⟩) HO_2.out (fun _ hk => hk.2) (.int .i64 K)) (fun _ hk => hk.2) (.int .i64 G)) (fun _ hk => hk.2) (.int .i64 E)) (fun _ hk => hk.2) (.int .i64 0)) (fun _ hk => hk.2)⟩
            have n1_ : Aside0 (Kd.R k64 64 ((((w19.setCell ⟨gb363, 0, none⟩ (.int .i64 K)).setCell ⟨gb363, 1, none⟩ (.int .i64 G)).setCell ⟨gb363, 2, none⟩ (.int .i64 E)).setCell ⟨gb363, 3, none⟩ (.int .i64 0)) w.heap.size (fun k_ => k_ ≠ gb363) u3 x3_1) := ⟨Kd.R_mono (Kd.R_far (p := ⟨gb363, 3, none⟩) (Kd.R_far (p := ⟨gb363, 2, none⟩) (Kd.R_far (p := ⟨gb363, 1, none⟩) (Kd.R_far (p := ⟨gb363, 0, none⟩) (Kd.R_types HO_3.out BK363.out (by decide)) (fun _ hk => hk.2) (.int .i64 K)) (fun _ hk => hk.2) (.int .i64 G)) (fun _ hk => hk.2) (.int .i64 E)) (fun _ hk => hk.2) (.int .i64 0)) (fun _ hk => hk.2)⟩
            have n2_ : Aside0 (((((w19.setCell ⟨gb363, 0, none⟩ (.int .i64 K)).setCell ⟨gb363, 1, none⟩ (.int .i64 G)).setCell ⟨gb363, 2, none⟩ (.int .i64 E)).setCell ⟨gb363, 3, none⟩ (.int .i64 0)).heap[gb363]? = some (.cells #[.int .i64 K, .int .i64 G, .int .i64 E, .int .i64 0] 62 (0, 0))) := ⟨by refine blk_put (cs := #[.int .i64 K, .int .i64 G, .int .i64 E, .int .i64 0]) ?_ 3 _ rfl; refine blk_put (cs := #[.int .i64 K, .int .i64 G, .int .i64 0, .int .i64 0]) ?_ 2 _ rfl; refine blk_put (cs := #[.int .i64 K, .int .i64 0, .int .i64 0, .int .i64 0]) ?_ 1 _ rfl; refine blk_put (cs := #[.int .i64 0, .int .i64 0, .int .i64 0, .int .i64 0]) ?_ 0 _ rfl; exact BK363.out⟩
            have n3_ : Aside0 (Below w.heap.size w ((((w19.setCell ⟨gb363, 0, none⟩ (.int .i64 K)).setCell ⟨gb363, 1, none⟩ (.int .i64 G)).setCell ⟨gb363, 2, none⟩ (.int .i64 E)).setCell ⟨gb363, 3, none⟩ (.int .i64 0))) := ⟨bs⟩
            clear HO_2 HO_3 BK363 HB hs20 hs21 hs22 hs23 hfs20 hfs21 hfs22 hfs23 hHeld HT_ HW_
            generalize ((((w19.setCell ⟨gb363, 0, none⟩ (.int .i64 K)).setCell ⟨gb363, 1, none⟩ (.int .i64 G)).setCell ⟨gb363, 2, none⟩ (.int .i64 E)).setCell ⟨gb363, 3, none⟩ (.int .i64 0)) = w20 at n0_ n1_ n2_ n3_ ⊢
            have HO_2 := n0_
            have HO_3 := n1_
            have BK363 := n2_
            have HB := n3_
            clear n0_ n1_ n2_ n3_
            have hxb := (HB.out.cell (World.block_lt_of_cell? w _ hw362_0)).trans hw362_0
            by_cases c13 : (rd l0 (ji10)) ≥ 128
            ·rw [if_pos c13] at H
             have c13b0 : decide (128 ≤ (rd l0 (ji10))) = true := decide_eq_true c13
             clear c13
             by_cases c14 : G = 2
             ·rw [if_pos c14] at H
              have c14b0 : (G == 2) = true := beq_iff_eq.mpr c14
              by_cases c15 : K = 27
              ·rw [if_pos c15] at H
               have c15b1 : (K != 27) = false := bne_eq_false_iff_eq.mpr c15
               clear c15 c14
               by_cases c16 : x2_1.length < 4398046511104
               ·rw [if_pos c16] at H
                have LMc16 := Aside0.mk c16
                clear c16
                by_cases c17 : x3_1.length < 4398046511104
                ·rw [if_pos c17] at H
                 have LMc17 := Aside0.mk c17
                 clear c17
                 try dsimp only at H
                 have H' := Aside0.mk H
                 clear H
                 have hc0 := (blk_cell BK363.out 0).trans rfl
                 have hc1 := (blk_cell BK363.out 1).trans rfl
                 have hc2 := (blk_cell BK363.out 2).trans rfl
                 have hc3 := (blk_cell BK363.out 3).trans rfl
                 have hf0 := blk_frozen BK363.out 1
                 have hf3 := blk_frozen BK363.out 3
                 go_upto_region 9 with (fail)
                 have n0_ : Aside0 (Kd.R k62 62 (w20.setCell ⟨gb363, 3, none⟩ (.int .i64 14)) w.heap.size (fun k_ => k_ ≠ gb363) u2 x2_1) := ⟨(Kd.R_far (p := ⟨gb363, 3, none⟩) HO_2.out (fun _ hk => hk) (.int .i64 14))⟩
                 have n1_ : Aside0 (Kd.R k64 64 (w20.setCell ⟨gb363, 3, none⟩ (.int .i64 14)) w.heap.size (fun k_ => k_ ≠ gb363) u3 x3_1) := ⟨(Kd.R_far (p := ⟨gb363, 3, none⟩) HO_3.out (fun _ hk => hk) (.int .i64 14))⟩
                 have n2_ : Aside0 ((w20.setCell ⟨gb363, 3, none⟩ (.int .i64 14)).heap[gb363]? = some (.cells #[.int .i64 K, .int .i64 G, .int .i64 E, .int .i64 14] 62 (0, 0))) := ⟨by refine blk_put (cs := #[.int .i64 K, .int .i64 G, .int .i64 E, .int .i64 0]) ?_ 3 _ rfl; exact BK363.out⟩
                 have n3_ : Aside0 (Below w.heap.size w (w20.setCell ⟨gb363, 3, none⟩ (.int .i64 14))) := ⟨bs⟩
                 clear HO_2 HO_3 BK363 HB hc0 hc1 hc2 hc3 hf0 hf3 hxb
                 generalize (w20.setCell ⟨gb363, 3, none⟩ (.int .i64 14)) = w21 at n0_ n1_ n2_ n3_ ⊢
                 have HO_2 := n0_
                 have HO_3 := n1_
                 have BK363 := n2_
                 have HB := n3_
                 clear n0_ n1_ n2_ n3_
                 have hc0 := (blk_cell BK363.out 0).trans rfl
                 have hc1 := (blk_cell BK363.out 1).trans rfl
                 have hc2 := (blk_cell BK363.out 2).trans rfl
                 have hc3 := (blk_cell BK363.out 3).trans rfl
                 go_wp2_with (first | ((with_reducible refine gate_builtin (b := .append) (xs := #[.tmp 55, .tmp 57]) rfl ?_); at_builtin; refine Kd.R_append k62 (w0 := w) w.heap.size rfl (.tmp 55) (.tmp 57) 34 62 (.agg #[(.int .i64 0), (.int .i64 0), (.int .i64 0), (.int .i64 0)]) 32 rfl Try.underlying34 info62 rfl (by decide) (by omega) u2 x2_1 (⟨K, G, E, 14⟩ : S62) [.int .i64 K, .int .i64 G, .int .i64 E, .int .i64 14] (fun k_ => k_ ≠ gb363) (fun _ => False) rfl (by first | (go_simp; done) | (go_simp; rfl)) ?aP (fun _ hk => hk.elim) ?aF ?aO ?aB ?aS ?aL ?_; (case aP => exact k62_mkM _ _ _ (⟨K, G, E, 14⟩ : S62)); (case aB => exact HB.out); (case aF => exact (fun k_ hk => Kd.freshB BK363.out k_ hk)); (case aO => exact HO_2.out); (case aS => exact below_size HB.out); (case aL => have := LMc16.out; omega); intro v366 w25 ho hb hg hat; have n0_ := Aside0.mk (Kd.R_over' HO_3.out (Kd.R_typed HO_2.out) (by decide) hg); have n1_ := Aside0.mk (blk_grown BK363.out hg (Kd.R_away HO_2.out (fun _ hk => hk))); have n2_ := Aside0.mk (hb); have n3_ := Aside0.mk (ho); clear HO_3 BK363 HB HO_2; have HO_3 := n0_; have BK363 := n1_; have HB := n2_; have HO_2 := n3_; clear n0_ n1_ n2_ n3_; clear ho hb hg hat hc0 hc1 hc2 hc3; have hc0 := (blk_cell BK363.out 0).trans rfl; have hc1 := (blk_cell BK363.out 1).trans rfl; have hc2 := (blk_cell BK363.out 2).trans rfl; have hc3 := (blk_cell BK363.out 3).trans rfl) | ((with_reducible refine gate_builtin (b := .append) (xs := #[.tmp 59, .tmp 70]) rfl ?_); at_builtin; refine Kd.R_append k64 (w0 := w) w.heap.size rfl (.tmp 59) (.tmp 70) 35 64 (.agg #[(.int .i64 0), (.int .i64 0), (.int .i64 0), (.bool false)]) 32 rfl Try.underlying35 info64 rfl (by decide) (by omega) u3 x3_1 (⟨K, G, E, true⟩ : S64) [.int .i64 K, .int .i64 G, .int .i64 E, .bool true] (fun _ => True) (fun _ => False) rfl (by first | rfl | (go_simp; done) | (go_simp; rfl)) ?aP (fun _ hk => hk.elim) ?aF ?aO ?aB ?aS ?aL ?_; (case aP => exact k64_mkM _ _ _ (⟨K, G, E, true⟩ : S64)); (case aB => exact HB.out); (case aF => exact (fun _ _ => trivial)); (case aO => exact Kd.R_mono HO_3.out (fun _ _ => trivial)); (case aS => exact below_size HB.out); (case aL => have := LMc17.out; omega); intro v369 w27 ho hb hg hat; have n1_ := Aside0.mk (Kd.R_over' HO_2.out (Kd.R_typed HO_3.out) (by decide) hg); have n2_ := Aside0.mk (hb); have n3_ := Aside0.mk (ho); clear HO_3 BK363 HB HO_2; have HO_2 := n1_; have HB := n2_; have HO_3 := n3_; clear n1_ n2_ n3_; clear ho hb hg hat hc0 hc1 hc2 hc3))
                 go_roundg kj1
                 case measure => have := HK1.out; have := HJ1.out; omega
                 case rel => exact ⟨_, _, (wrap64 (x4_1 + 3)), vz, H', ⟨by have := HK1.out; have := HJ1.out; omega⟩, ⟨Kd.R_mono HO_2.out (fun _ _ => trivial)⟩, HO_3, HB⟩
                ·rw [if_neg c17] at H
                 exact absurd H (by simp)
               ·rw [if_neg c16] at H
                exact absurd H (by simp)
              ·rw [if_neg c15] at H
               have c15b1 : (K != 27) = true := bne_iff_ne.mpr c15
               clear c15 c14
               by_cases c16 : x2_1.length < 4398046511104
               ·rw [if_pos c16] at H
                have LMc16 := Aside0.mk c16
                clear c16
                by_cases c17 : x3_1.length < 4398046511104
                ·rw [if_pos c17] at H
                 have LMc17 := Aside0.mk c17
                 clear c17
                 try dsimp only at H
                 have H' := Aside0.mk H
                 clear H
                 have hc0 := (blk_cell BK363.out 0).trans rfl
                 have hc1 := (blk_cell BK363.out 1).trans rfl
                 have hc2 := (blk_cell BK363.out 2).trans rfl
                 have hc3 := (blk_cell BK363.out 3).trans rfl
                 have hf0 := blk_frozen BK363.out 1
                 have hf3 := blk_frozen BK363.out 3
                 go_upto_region 9 with (fail)
                 have n0_ : Aside0 (Kd.R k62 62 ((w20.setCell ⟨gb363, 3, none⟩ (.int .i64 14)).setCell ⟨gb363, 1, none⟩ (.int .i64 0)) w.heap.size (fun k_ => k_ ≠ gb363) u2 x2_1) := ⟨(Kd.R_far (p := ⟨gb363, 1, none⟩) (Kd.R_far (p := ⟨gb363, 3, none⟩) HO_2.out (fun _ hk => hk) (.int .i64 14)) (fun _ hk => hk) (.int .i64 0))⟩
                 have n1_ : Aside0 (Kd.R k64 64 ((w20.setCell ⟨gb363, 3, none⟩ (.int .i64 14)).setCell ⟨gb363, 1, none⟩ (.int .i64 0)) w.heap.size (fun k_ => k_ ≠ gb363) u3 x3_1) := ⟨(Kd.R_far (p := ⟨gb363, 1, none⟩) (Kd.R_far (p := ⟨gb363, 3, none⟩) HO_3.out (fun _ hk => hk) (.int .i64 14)) (fun _ hk => hk) (.int .i64 0))⟩
                 have n2_ : Aside0 (((w20.setCell ⟨gb363, 3, none⟩ (.int .i64 14)).setCell ⟨gb363, 1, none⟩ (.int .i64 0)).heap[gb363]? = some (.cells #[.int .i64 K, .int .i64 0, .int .i64 E, .int .i64 14] 62 (0, 0))) := ⟨by refine blk_put (cs := #[.int .i64 K, .int .i64 G, .int .i64 E, .int .i64 14]) ?_ 1 _ rfl; refine blk_put (cs := #[.int .i64 K, .int .i64 G, .int .i64 E, .int .i64 0]) ?_ 3 _ rfl; exact BK363.out⟩
                 have n3_ : Aside0 (Below w.heap.size w ((w20.setCell ⟨gb363, 3, none⟩ (.int .i64 14)).setCell ⟨gb363, 1, none⟩ (.int .i64 0))) := ⟨bs⟩
                 clear HO_2 HO_3 BK363 HB hc0 hc1 hc2 hc3 hf0 hf3 hxb
                 generalize ((w20.setCell ⟨gb363, 3, none⟩ (.int .i64 14)).setCell ⟨gb363, 1, none⟩ (.int .i64 0)) = w21 at n0_ n1_ n2_ n3_ ⊢
                 have HO_2 := n0_
                 have HO_3 := n1_
                 have BK363 := n2_
                 have HB := n3_
                 clear n0_ n1_ n2_ n3_
                 have hc0 := (blk_cell BK363.out 0).trans rfl
                 have hc1 := (blk_cell BK363.out 1).trans rfl
                 have hc2 := (blk_cell BK363.out 2).trans rfl
                 have hc3 := (blk_cell BK363.out 3).trans rfl
                 go_wp2_with (first | ((with_reducible refine gate_builtin (b := .append) (xs := #[.tmp 55, .tmp 57]) rfl ?_); at_builtin; refine Kd.R_append k62 (w0 := w) w.heap.size rfl (.tmp 55) (.tmp 57) 34 62 (.agg #[(.int .i64 0), (.int .i64 0), (.int .i64 0), (.int .i64 0)]) 32 rfl Try.underlying34 info62 rfl (by decide) (by omega) u2 x2_1 (⟨K, 0, E, 14⟩ : S62) [.int .i64 K, .int .i64 0, .int .i64 E, .int .i64 14] (fun k_ => k_ ≠ gb363) (fun _ => False) rfl (by first | (go_simp; done) | (go_simp; rfl)) ?aP (fun _ hk => hk.elim) ?aF ?aO ?aB ?aS ?aL ?_; (case aP => exact k62_mkM _ _ _ (⟨K, 0, E, 14⟩ : S62)); (case aB => exact HB.out); (case aF => exact (fun k_ hk => Kd.freshB BK363.out k_ hk)); (case aO => exact HO_2.out); (case aS => exact below_size HB.out); (case aL => have := LMc16.out; omega); intro v366 w25 ho hb hg hat; have n0_ := Aside0.mk (Kd.R_over' HO_3.out (Kd.R_typed HO_2.out) (by decide) hg); have n1_ := Aside0.mk (blk_grown BK363.out hg (Kd.R_away HO_2.out (fun _ hk => hk))); have n2_ := Aside0.mk (hb); have n3_ := Aside0.mk (ho); clear HO_3 BK363 HB HO_2; have HO_3 := n0_; have BK363 := n1_; have HB := n2_; have HO_2 := n3_; clear n0_ n1_ n2_ n3_; clear ho hb hg hat hc0 hc1 hc2 hc3; have hc0 := (blk_cell BK363.out 0).trans rfl; have hc1 := (blk_cell BK363.out 1).trans rfl; have hc2 := (blk_cell BK363.out 2).trans rfl; have hc3 := (blk_cell BK363.out 3).trans rfl) | ((with_reducible refine gate_builtin (b := .append) (xs := #[.tmp 59, .tmp 70]) rfl ?_); at_builtin; refine Kd.R_append k64 (w0 := w) w.heap.size rfl (.tmp 59) (.tmp 70) 35 64 (.agg #[(.int .i64 0), (.int .i64 0), (.int .i64 0), (.bool false)]) 32 rfl Try.underlying35 info64 rfl (by decide) (by omega) u3 x3_1 (⟨K, 0, E, true⟩ : S64) [.int .i64 K, .int .i64 0, .int .i64 E, .bool true] (fun _ => True) (fun _ => False) rfl (by first | rfl | (go_simp; done) | (go_simp; rfl)) ?aP (fun _ hk => hk.elim) ?aF ?aO ?aB ?aS ?aL ?_; (case aP => exact k64_mkM _ _ _ (⟨K, 0, E, true⟩ : S64)); (case aB => exact HB.out); (case aF => exact (fun _ _ => trivial)); (case aO => exact Kd.R_mono HO_3.out (fun _ _ => trivial)); (case aS => exact below_size HB.out); (case aL => have := LMc17.out; omega); intro v369 w27 ho hb hg hat; have n1_ := Aside0.mk (Kd.R_over' HO_2.out (Kd.R_typed HO_3.out) (by decide) hg); have n2_ := Aside0.mk (hb); have n3_ := Aside0.mk (ho); clear HO_3 BK363 HB HO_2; have HO_2 := n1_; have HB := n2_; have HO_3 := n3_; clear n1_ n2_ n3_; clear ho hb hg hat hc0 hc1 hc2 hc3))
                 go_roundg kj1
                 case measure => have := HK1.out; have := HJ1.out; omega
                 case rel => exact ⟨_, _, (wrap64 (x4_1 + 3)), vz, H', ⟨by have := HK1.out; have := HJ1.out; omega⟩, ⟨Kd.R_mono HO_2.out (fun _ _ => trivial)⟩, HO_3, HB⟩
                ·rw [if_neg c17] at H
                 exact absurd H (by simp)
               ·rw [if_neg c16] at H
                exact absurd H (by simp)
             ·rw [if_neg c14] at H
              have c14b0 : (G == 2) = false := beq_eq_false_iff_ne.mpr c14
              clear c14
              by_cases c16 : x2_1.length < 4398046511104
              ·rw [if_pos c16] at H
               have LMc16 := Aside0.mk c16
               clear c16
               by_cases c17 : x3_1.length < 4398046511104
               ·rw [if_pos c17] at H
                have LMc17 := Aside0.mk c17
                clear c17
                try dsimp only at H
                have H' := Aside0.mk H
                clear H
                have hc0 := (blk_cell BK363.out 0).trans rfl
                have hc1 := (blk_cell BK363.out 1).trans rfl
                have hc2 := (blk_cell BK363.out 2).trans rfl
                have hc3 := (blk_cell BK363.out 3).trans rfl
                have hf0 := blk_frozen BK363.out 1
                have hf3 := blk_frozen BK363.out 3
                go_upto_region 9 with (fail)
                have n0_ : Aside0 (Kd.R k62 62 (w20.setCell ⟨gb363, 3, none⟩ (.int .i64 14)) w.heap.size (fun k_ => k_ ≠ gb363) u2 x2_1) := ⟨(Kd.R_far (p := ⟨gb363, 3, none⟩) HO_2.out (fun _ hk => hk) (.int .i64 14))⟩
                have n1_ : Aside0 (Kd.R k64 64 (w20.setCell ⟨gb363, 3, none⟩ (.int .i64 14)) w.heap.size (fun k_ => k_ ≠ gb363) u3 x3_1) := ⟨(Kd.R_far (p := ⟨gb363, 3, none⟩) HO_3.out (fun _ hk => hk) (.int .i64 14))⟩
                have n2_ : Aside0 ((w20.setCell ⟨gb363, 3, none⟩ (.int .i64 14)).heap[gb363]? = some (.cells #[.int .i64 K, .int .i64 G, .int .i64 E, .int .i64 14] 62 (0, 0))) := ⟨by refine blk_put (cs := #[.int .i64 K, .int .i64 G, .int .i64 E, .int .i64 0]) ?_ 3 _ rfl; exact BK363.out⟩
                have n3_ : Aside0 (Below w.heap.size w (w20.setCell ⟨gb363, 3, none⟩ (.int .i64 14))) := ⟨bs⟩
                clear HO_2 HO_3 BK363 HB hc0 hc1 hc2 hc3 hf0 hf3 hxb
                generalize (w20.setCell ⟨gb363, 3, none⟩ (.int .i64 14)) = w21 at n0_ n1_ n2_ n3_ ⊢
                have HO_2 := n0_
                have HO_3 := n1_
                have BK363 := n2_
                have HB := n3_
                clear n0_ n1_ n2_ n3_
                have hc0 := (blk_cell BK363.out 0).trans rfl
                have hc1 := (blk_cell BK363.out 1).trans rfl
                have hc2 := (blk_cell BK363.out 2).trans rfl
                have hc3 := (blk_cell BK363.out 3).trans rfl
                go_wp2_with (first | ((with_reducible refine gate_builtin (b := .append) (xs := #[.tmp 55, .tmp 57]) rfl ?_); at_builtin; refine Kd.R_append k62 (w0 := w) w.heap.size rfl (.tmp 55) (.tmp 57) 34 62 (.agg #[(.int .i64 0), (.int .i64 0), (.int .i64 0), (.int .i64 0)]) 32 rfl Try.underlying34 info62 rfl (by decide) (by omega) u2 x2_1 (⟨K, G, E, 14⟩ : S62) [.int .i64 K, .int .i64 G, .int .i64 E, .int .i64 14] (fun k_ => k_ ≠ gb363) (fun _ => False) rfl (by first | (go_simp; done) | (go_simp; rfl)) ?aP (fun _ hk => hk.elim) ?aF ?aO ?aB ?aS ?aL ?_; (case aP => exact k62_mkM _ _ _ (⟨K, G, E, 14⟩ : S62)); (case aB => exact HB.out); (case aF => exact (fun k_ hk => Kd.freshB BK363.out k_ hk)); (case aO => exact HO_2.out); (case aS => exact below_size HB.out); (case aL => have := LMc16.out; omega); intro v366 w25 ho hb hg hat; have n0_ := Aside0.mk (Kd.R_over' HO_3.out (Kd.R_typed HO_2.out) (by decide) hg); have n1_ := Aside0.mk (blk_grown BK363.out hg (Kd.R_away HO_2.out (fun _ hk => hk))); have n2_ := Aside0.mk (hb); have n3_ := Aside0.mk (ho); clear HO_3 BK363 HB HO_2; have HO_3 := n0_; have BK363 := n1_; have HB := n2_; have HO_2 := n3_; clear n0_ n1_ n2_ n3_; clear ho hb hg hat hc0 hc1 hc2 hc3; have hc0 := (blk_cell BK363.out 0).trans rfl; have hc1 := (blk_cell BK363.out 1).trans rfl; have hc2 := (blk_cell BK363.out 2).trans rfl; have hc3 := (blk_cell BK363.out 3).trans rfl) | ((with_reducible refine gate_builtin (b := .append) (xs := #[.tmp 59, .tmp 70]) rfl ?_); at_builtin; refine Kd.R_append k64 (w0 := w) w.heap.size rfl (.tmp 59) (.tmp 70) 35 64 (.agg #[(.int .i64 0), (.int .i64 0), (.int .i64 0), (.bool false)]) 32 rfl Try.underlying35 info64 rfl (by decide) (by omega) u3 x3_1 (⟨K, G, E, true⟩ : S64) [.int .i64 K, .int .i64 G, .int .i64 E, .bool true] (fun _ => True) (fun _ => False) rfl (by first | rfl | (go_simp; done) | (go_simp; rfl)) ?aP (fun _ hk => hk.elim) ?aF ?aO ?aB ?aS ?aL ?_; (case aP => exact k64_mkM _ _ _ (⟨K, G, E, true⟩ : S64)); (case aB => exact HB.out); (case aF => exact (fun _ _ => trivial)); (case aO => exact Kd.R_mono HO_3.out (fun _ _ => trivial)); (case aS => exact below_size HB.out); (case aL => have := LMc17.out; omega); intro v369 w27 ho hb hg hat; have n1_ := Aside0.mk (Kd.R_over' HO_2.out (Kd.R_typed HO_3.out) (by decide) hg); have n2_ := Aside0.mk (hb); have n3_ := Aside0.mk (ho); clear HO_3 BK363 HB HO_2; have HO_2 := n1_; have HB := n2_; have HO_3 := n3_; clear n1_ n2_ n3_; clear ho hb hg hat hc0 hc1 hc2 hc3))
                go_roundg kj1
                case measure => have := HK1.out; have := HJ1.out; omega
                case rel => exact ⟨_, _, (wrap64 (x4_1 + 3)), vz, H', ⟨by have := HK1.out; have := HJ1.out; omega⟩, ⟨Kd.R_mono HO_2.out (fun _ _ => trivial)⟩, HO_3, HB⟩
               ·rw [if_neg c17] at H
                exact absurd H (by simp)
              ·rw [if_neg c16] at H
               exact absurd H (by simp)
            ·rw [if_neg c13] at H
             have c13b0 : decide (128 ≤ (rd l0 (ji10))) = false := decide_eq_false c13
             clear c13
             by_cases c14 : G = 2
             ·rw [if_pos c14] at H
              have c14b0 : (G == 2) = true := beq_iff_eq.mpr c14
              by_cases c15 : K = 27
              ·rw [if_pos c15] at H
               have c15b1 : (K != 27) = false := bne_eq_false_iff_eq.mpr c15
               clear c15 c14
               by_cases c16 : x2_1.length < 4398046511104
               ·rw [if_pos c16] at H
                have LMc16 := Aside0.mk c16
                clear c16
                by_cases c17 : x3_1.length < 4398046511104
                ·rw [if_pos c17] at H
                 have LMc17 := Aside0.mk c17
                 clear c17
                 try dsimp only at H
                 have H' := Aside0.mk H
                 clear H
                 have hc0 := (blk_cell BK363.out 0).trans rfl
                 have hc1 := (blk_cell BK363.out 1).trans rfl
                 have hc2 := (blk_cell BK363.out 2).trans rfl
                 have hc3 := (blk_cell BK363.out 3).trans rfl
                 have hf0 := blk_frozen BK363.out 1
                 have hf3 := blk_frozen BK363.out 3
                 go_upto_region 9 with (fail)
                 go_wp2_with (first | ((with_reducible refine gate_builtin (b := .append) (xs := #[.tmp 55, .tmp 57]) rfl ?_); at_builtin; refine Kd.R_append k62 (w0 := w) w.heap.size rfl (.tmp 55) (.tmp 57) 34 62 (.agg #[(.int .i64 0), (.int .i64 0), (.int .i64 0), (.int .i64 0)]) 32 rfl Try.underlying34 info62 rfl (by decide) (by omega) u2 x2_1 (⟨K, G, E, 0⟩ : S62) [.int .i64 K, .int .i64 G, .int .i64 E, .int .i64 0] (fun k_ => k_ ≠ gb363) (fun _ => False) rfl (by first | (go_simp; done) | (go_simp; rfl)) ?aP (fun _ hk => hk.elim) ?aF ?aO ?aB ?aS ?aL ?_; (case aP => exact k62_mkM _ _ _ (⟨K, G, E, 0⟩ : S62)); (case aB => exact HB.out); (case aF => exact (fun k_ hk => Kd.freshB BK363.out k_ hk)); (case aO => exact HO_2.out); (case aS => exact below_size HB.out); (case aL => have := LMc16.out; omega); intro v366 w25 ho hb hg hat; have n0_ := Aside0.mk (Kd.R_over' HO_3.out (Kd.R_typed HO_2.out) (by decide) hg); have n1_ := Aside0.mk (blk_grown BK363.out hg (Kd.R_away HO_2.out (fun _ hk => hk))); have n2_ := Aside0.mk (hb); have n3_ := Aside0.mk (ho); clear HO_3 BK363 HB HO_2; have HO_3 := n0_; have BK363 := n1_; have HB := n2_; have HO_2 := n3_; clear n0_ n1_ n2_ n3_; clear ho hb hg hat hc0 hc1 hc2 hc3; have hc0 := (blk_cell BK363.out 0).trans rfl; have hc1 := (blk_cell BK363.out 1).trans rfl; have hc2 := (blk_cell BK363.out 2).trans rfl; have hc3 := (blk_cell BK363.out 3).trans rfl) | ((with_reducible refine gate_builtin (b := .append) (xs := #[.tmp 59, .tmp 70]) rfl ?_); at_builtin; refine Kd.R_append k64 (w0 := w) w.heap.size rfl (.tmp 59) (.tmp 70) 35 64 (.agg #[(.int .i64 0), (.int .i64 0), (.int .i64 0), (.bool false)]) 32 rfl Try.underlying35 info64 rfl (by decide) (by omega) u3 x3_1 (⟨K, G, E, false⟩ : S64) [.int .i64 K, .int .i64 G, .int .i64 E, .bool false] (fun _ => True) (fun _ => False) rfl (by first | rfl | (go_simp; done) | (go_simp; rfl)) ?aP (fun _ hk => hk.elim) ?aF ?aO ?aB ?aS ?aL ?_; (case aP => exact k64_mkM _ _ _ (⟨K, G, E, false⟩ : S64)); (case aB => exact HB.out); (case aF => exact (fun _ _ => trivial)); (case aO => exact Kd.R_mono HO_3.out (fun _ _ => trivial)); (case aS => exact below_size HB.out); (case aL => have := LMc17.out; omega); intro v369 w27 ho hb hg hat; have n1_ := Aside0.mk (Kd.R_over' HO_2.out (Kd.R_typed HO_3.out) (by decide) hg); have n2_ := Aside0.mk (hb); have n3_ := Aside0.mk (ho); clear HO_3 BK363 HB HO_2; have HO_2 := n1_; have HB := n2_; have HO_3 := n3_; clear n1_ n2_ n3_; clear ho hb hg hat hc0 hc1 hc2 hc3))
                 go_roundg kj1
                 case measure => have := HK1.out; have := HJ1.out; omega
                 case rel => exact ⟨_, _, (wrap64 (x4_1 + 3)), vz, H', ⟨by have := HK1.out; have := HJ1.out; omega⟩, ⟨Kd.R_mono HO_2.out (fun _ _ => trivial)⟩, HO_3, HB⟩
                ·rw [if_neg c17] at H
                 exact absurd H (by simp)
               ·rw [if_neg c16] at H
                exact absurd H (by simp)
              ·rw [if_neg c15] at H
               have c15b1 : (K != 27) = true := bne_iff_ne.mpr c15
               clear c15 c14
               by_cases c16 : x2_1.length < 4398046511104
               ·rw [if_pos c16] at H
                have LMc16 := Aside0.mk c16
                clear c16
                by_cases c17 : x3_1.length < 4398046511104
                ·rw [if_pos c17] at H
                 have LMc17 := Aside0.mk c17
                 clear c17
                 try dsimp only at H
                 have H' := Aside0.mk H
                 clear H
                 have hc0 := (blk_cell BK363.out 0).trans rfl
                 have hc1 := (blk_cell BK363.out 1).trans rfl
                 have hc2 := (blk_cell BK363.out 2).trans rfl
                 have hc3 := (blk_cell BK363.out 3).trans rfl
                 have hf0 := blk_frozen BK363.out 1
                 have hf3 := blk_frozen BK363.out 3
                 go_upto_region 9 with (fail)
                 have n0_ : Aside0 (Kd.R k62 62 (w20.setCell ⟨gb363, 1, none⟩ (.int .i64 0)) w.heap.size (fun k_ => k_ ≠ gb363) u2 x2_1) := ⟨(Kd.R_far (p := ⟨gb363, 1, none⟩) HO_2.out (fun _ hk => hk) (.int .i64 0))⟩
                 have n1_ : Aside0 (Kd.R k64 64 (w20.setCell ⟨gb363, 1, none⟩ (.int .i64 0)) w.heap.size (fun k_ => k_ ≠ gb363) u3 x3_1) := ⟨(Kd.R_far (p := ⟨gb363, 1, none⟩) HO_3.out (fun _ hk => hk) (.int .i64 0))⟩
                 have n2_ : Aside0 ((w20.setCell ⟨gb363, 1, none⟩ (.int .i64 0)).heap[gb363]? = some (.cells #[.int .i64 K, .int .i64 0, .int .i64 E, .int .i64 0] 62 (0, 0))) := ⟨by refine blk_put (cs := #[.int .i64 K, .int .i64 G, .int .i64 E, .int .i64 0]) ?_ 1 _ rfl; exact BK363.out⟩
                 have n3_ : Aside0 (Below w.heap.size w (w20.setCell ⟨gb363, 1, none⟩ (.int .i64 0))) := ⟨bs⟩
                 clear HO_2 HO_3 BK363 HB hc0 hc1 hc2 hc3 hf0 hf3 hxb
                 generalize (w20.setCell ⟨gb363, 1, none⟩ (.int .i64 0)) = w21 at n0_ n1_ n2_ n3_ ⊢
                 have HO_2 := n0_
                 have HO_3 := n1_
                 have BK363 := n2_
                 have HB := n3_
                 clear n0_ n1_ n2_ n3_
                 have hc0 := (blk_cell BK363.out 0).trans rfl
                 have hc1 := (blk_cell BK363.out 1).trans rfl
                 have hc2 := (blk_cell BK363.out 2).trans rfl
                 have hc3 := (blk_cell BK363.out 3).trans rfl
                 go_wp2_with (first | ((with_reducible refine gate_builtin (b := .append) (xs := #[.tmp 55, .tmp 57]) rfl ?_); at_builtin; refine Kd.R_append k62 (w0 := w) w.heap.size rfl (.tmp 55) (.tmp 57) 34 62 (.agg #[(.int .i64 0), (.int .i64 0), (.int .i64 0), (.int .i64 0)]) 32 rfl Try.underlying34 info62 rfl (by decide) (by omega) u2 x2_1 (⟨K, 0, E, 0⟩ : S62) [.int .i64 K, .int .i64 0, .int .i64 E, .int .i64 0] (fun k_ => k_ ≠ gb363) (fun _ => False) rfl (by first | (go_simp; done) | (go_simp; rfl)) ?aP (fun _ hk => hk.elim) ?aF ?aO ?aB ?aS ?aL ?_; (case aP => exact k62_mkM _ _ _ (⟨K, 0, E, 0⟩ : S62)); (case aB => exact HB.out); (case aF => exact (fun k_ hk => Kd.freshB BK363.out k_ hk)); (case aO => exact HO_2.out); (case aS => exact below_size HB.out); (case aL => have := LMc16.out; omega); intro v366 w25 ho hb hg hat; have n0_ := Aside0.mk (Kd.R_over' HO_3.out (Kd.R_typed HO_2.out) (by decide) hg); have n1_ := Aside0.mk (blk_grown BK363.out hg (Kd.R_away HO_2.out (fun _ hk => hk))); have n2_ := Aside0.mk (hb); have n3_ := Aside0.mk (ho); clear HO_3 BK363 HB HO_2; have HO_3 := n0_; have BK363 := n1_; have HB := n2_; have HO_2 := n3_; clear n0_ n1_ n2_ n3_; clear ho hb hg hat hc0 hc1 hc2 hc3; have hc0 := (blk_cell BK363.out 0).trans rfl; have hc1 := (blk_cell BK363.out 1).trans rfl; have hc2 := (blk_cell BK363.out 2).trans rfl; have hc3 := (blk_cell BK363.out 3).trans rfl) | ((with_reducible refine gate_builtin (b := .append) (xs := #[.tmp 59, .tmp 70]) rfl ?_); at_builtin; refine Kd.R_append k64 (w0 := w) w.heap.size rfl (.tmp 59) (.tmp 70) 35 64 (.agg #[(.int .i64 0), (.int .i64 0), (.int .i64 0), (.bool false)]) 32 rfl Try.underlying35 info64 rfl (by decide) (by omega) u3 x3_1 (⟨K, 0, E, false⟩ : S64) [.int .i64 K, .int .i64 0, .int .i64 E, .bool false] (fun _ => True) (fun _ => False) rfl (by first | rfl | (go_simp; done) | (go_simp; rfl)) ?aP (fun _ hk => hk.elim) ?aF ?aO ?aB ?aS ?aL ?_; (case aP => exact k64_mkM _ _ _ (⟨K, 0, E, false⟩ : S64)); (case aB => exact HB.out); (case aF => exact (fun _ _ => trivial)); (case aO => exact Kd.R_mono HO_3.out (fun _ _ => trivial)); (case aS => exact below_size HB.out); (case aL => have := LMc17.out; omega); intro v369 w27 ho hb hg hat; have n1_ := Aside0.mk (Kd.R_over' HO_2.out (Kd.R_typed HO_3.out) (by decide) hg); have n2_ := Aside0.mk (hb); have n3_ := Aside0.mk (ho); clear HO_3 BK363 HB HO_2; have HO_2 := n1_; have HB := n2_; have HO_3 := n3_; clear n1_ n2_ n3_; clear ho hb hg hat hc0 hc1 hc2 hc3))
                 go_roundg kj1
                 case measure => have := HK1.out; have := HJ1.out; omega
                 case rel => exact ⟨_, _, (wrap64 (x4_1 + 3)), vz, H', ⟨by have := HK1.out; have := HJ1.out; omega⟩, ⟨Kd.R_mono HO_2.out (fun _ _ => trivial)⟩, HO_3, HB⟩
                ·rw [if_neg c17] at H
                 exact absurd H (by simp)
               ·rw [if_neg c16] at H
                exact absurd H (by simp)
             ·rw [if_neg c14] at H
              have c14b0 : (G == 2) = false := beq_eq_false_iff_ne.mpr c14
              clear c14
              by_cases c16 : x2_1.length < 4398046511104
              ·rw [if_pos c16] at H
               have LMc16 := Aside0.mk c16
               clear c16
               by_cases c17 : x3_1.length < 4398046511104
               ·rw [if_pos c17] at H
                have LMc17 := Aside0.mk c17
                clear c17
                try dsimp only at H
                have H' := Aside0.mk H
                clear H
                have hc0 := (blk_cell BK363.out 0).trans rfl
                have hc1 := (blk_cell BK363.out 1).trans rfl
                have hc2 := (blk_cell BK363.out 2).trans rfl
                have hc3 := (blk_cell BK363.out 3).trans rfl
                have hf0 := blk_frozen BK363.out 1
                have hf3 := blk_frozen BK363.out 3
                go_upto_region 9 with (fail)
                go_wp2_with (first | ((with_reducible refine gate_builtin (b := .append) (xs := #[.tmp 55, .tmp 57]) rfl ?_); at_builtin; refine Kd.R_append k62 (w0 := w) w.heap.size rfl (.tmp 55) (.tmp 57) 34 62 (.agg #[(.int .i64 0), (.int .i64 0), (.int .i64 0), (.int .i64 0)]) 32 rfl Try.underlying34 info62 rfl (by decide) (by omega) u2 x2_1 (⟨K, G, E, 0⟩ : S62) [.int .i64 K, .int .i64 G, .int .i64 E, .int .i64 0] (fun k_ => k_ ≠ gb363) (fun _ => False) rfl (by first | (go_simp; done) | (go_simp; rfl)) ?aP (fun _ hk => hk.elim) ?aF ?aO ?aB ?aS ?aL ?_; (case aP => exact k62_mkM _ _ _ (⟨K, G, E, 0⟩ : S62)); (case aB => exact HB.out); (case aF => exact (fun k_ hk => Kd.freshB BK363.out k_ hk)); (case aO => exact HO_2.out); (case aS => exact below_size HB.out); (case aL => have := LMc16.out; omega); intro v366 w25 ho hb hg hat; have n0_ := Aside0.mk (Kd.R_over' HO_3.out (Kd.R_typed HO_2.out) (by decide) hg); have n1_ := Aside0.mk (blk_grown BK363.out hg (Kd.R_away HO_2.out (fun _ hk => hk))); have n2_ := Aside0.mk (hb); have n3_ := Aside0.mk (ho); clear HO_3 BK363 HB HO_2; have HO_3 := n0_; have BK363 := n1_; have HB := n2_; have HO_2 := n3_; clear n0_ n1_ n2_ n3_; clear ho hb hg hat hc0 hc1 hc2 hc3; have hc0 := (blk_cell BK363.out 0).trans rfl; have hc1 := (blk_cell BK363.out 1).trans rfl; have hc2 := (blk_cell BK363.out 2).trans rfl; have hc3 := (blk_cell BK363.out 3).trans rfl) | ((with_reducible refine gate_builtin (b := .append) (xs := #[.tmp 59, .tmp 70]) rfl ?_); at_builtin; refine Kd.R_append k64 (w0 := w) w.heap.size rfl (.tmp 59) (.tmp 70) 35 64 (.agg #[(.int .i64 0), (.int .i64 0), (.int .i64 0), (.bool false)]) 32 rfl Try.underlying35 info64 rfl (by decide) (by omega) u3 x3_1 (⟨K, G, E, false⟩ : S64) [.int .i64 K, .int .i64 G, .int .i64 E, .bool false] (fun _ => True) (fun _ => False) rfl (by first | rfl | (go_simp; done) | (go_simp; rfl)) ?aP (fun _ hk => hk.elim) ?aF ?aO ?aB ?aS ?aL ?_; (case aP => exact k64_mkM _ _ _ (⟨K, G, E, false⟩ : S64)); (case aB => exact HB.out); (case aF => exact (fun _ _ => trivial)); (case aO => exact Kd.R_mono HO_3.out (fun _ _ => trivial)); (case aS => exact below_size HB.out); (case aL => have := LMc17.out; omega); intro v369 w27 ho hb hg hat; have n1_ := Aside0.mk (Kd.R_over' HO_2.out (Kd.R_typed HO_3.out) (by decide) hg); have n2_ := Aside0.mk (hb); have n3_ := Aside0.mk (ho); clear HO_3 BK363 HB HO_2; have HO_2 := n1_; have HB := n2_; have HO_3 := n3_; clear n1_ n2_ n3_; clear ho hb hg hat hc0 hc1 hc2 hc3))
                go_roundg kj1
                case measure => have := HK1.out; have := HJ1.out; omega
                case rel => exact ⟨_, _, (wrap64 (x4_1 + 3)), vz, H', ⟨by have := HK1.out; have := HJ1.out; omega⟩, ⟨Kd.R_mono HO_2.out (fun _ _ => trivial)⟩, HO_3, HB⟩
               ·rw [if_neg c17] at H
                exact absurd H (by simp)
              ·rw [if_neg c16] at H
               exact absurd H (by simp)
           ·rw [if_neg c12] at H
            exact absurd H (by simp)
          ·rw [if_neg c11] at H
           exact absurd H (by simp)
         ·rw [if_neg c9] at H
          exact absurd H (by simp)
        ·rw [if_neg c8] at H
         exact absurd H (by simp)
       ·rw [if_neg c6] at H
        exact absurd H (by simp)
      ·rw [if_neg c5] at H
       exact absurd H (by simp)
     ·replace c4 := Bool.eq_false_iff.mpr c4
      subst c4
      rw [if_neg (show ¬ (false = true) by decide)] at H
      simp only [Option.some.injEq, Prod.mk.injEq] at H
      obtain ⟨rfl, rfl⟩ := H
      go_wp2
      go_ret2
      exact ⟨_, _, ez, by (with_reducible repeat (first | apply Kd.R_alloc | apply Kd.R_drewN | apply Kd.R_drew)); exact HO_2.out, by (with_reducible repeat (first | apply Kd.R_alloc | apply Kd.R_drewN | apply Kd.R_drew)); exact HO_3.out, bz⟩

end Go.Proofs.Ytnanfoahimccpaa.Ln
