/- Functions of the translation as Lean functions, and their walks: lines written by a program, a turned copy of the kit's print. -/
import Derived.Test.YtnanfoahimccpaaLnx0
import Derived.Test.YtnanfoahimccpaaLnx1
namespace Go.Proofs.Ytnanfoahimccpaa.Ln
open Go.RowKit Go.Proofs.YtnanfoahimccpaaW.PrintWords Go.Proofs.YtnanfoahimccpaaW.PrintLast Go.Proofs.YtnanfoahimccpaaW.PrintMore
attribute [local go_sem] max2_int max_two
set_option linter.unusedVariables false
set_option linter.unusedSimpArgs false

mutual
def spec_lbLast.j3 : Nat → List (S64) → Int → Int → Int → Int → Int → Int → Option (Bool)
 | 0, _, _, _, _, _, _, _ => none
 | k + 1, x298000, x298001, x298002, x298003, x298004, x298005, x298006 => spec_lbLast.l0 k 0 (wrap64 (x298001 - 1)) x298000 x298001 x298002 x298003 x298004 x298005 x298006
def spec_lbLast.l0 : Nat → Int → Int → List (S64) → Int → Int → Int → Int → Int → Int → Option (Bool)
 | 0, _, _, _, _, _, _, _, _, _ => none
 | k + 1, x7, x8, x298000, x298001, x298002, x298003, x298004, x298005, x298006 => if x8 ≥ 0 then (if 0 ≤ x8 then (if x8 < (x298000.length : Int) then (if ((rd_T64 x298000 x8).f0) = 39 then (spec_lbLast.l0 k (wrap64 (x7 + 1)) (wrap64 (x8 - 1)) x298000 x298001 x298002 x298003 x298004 x298005 x298006) else (if x298004 = 39 then (some ((Int.tmod x7 2) == 1)) else (some false))) else (none)) else (none)) else (if x298004 = 39 then (some ((Int.tmod x7 2) == 1)) else (some false))
def spec_lbLast.j0 : Nat → Bool → List (S64) → Int → Int → Int → Int → Int → Int → Int → Int → Int → Bool → Int → Int → Int → Bool → Option (Bool)
 | 0, _, _, _, _, _, _, _, _, _, _, _, _, _, _, _, _ => none
 | k + 1, x22, x298000, x298001, x298002, x298003, x298004, x298005, x298006, x301000, x301001, x301002, x301003, x302000, x302001, x302002, x302003 => if x22 = true then (some true) else ((spec_lbLast_1.f k x298003).bind fun t304 => (if t304 = true then (if x298004 = 35 then ((spec_lbLast_2.f k x302000 x302001 x302002 x302003).bind fun t305 => (spec_lbLast.j1 k (!t305) x298000 x298001 x298002 x298003 x298004 x298005 x298006 x301000 x301001 x301002 x301003)) else (spec_lbLast.j1 k false x298000 x298001 x298002 x298003 x298004 x298005 x298006 x301000 x301001 x301002 x301003)) else (spec_lbLast.j1 k false x298000 x298001 x298002 x298003 x298004 x298005 x298006 x301000 x301001 x301002 x301003)))
def spec_lbLast.j1 : Nat → Bool → List (S64) → Int → Int → Int → Int → Int → Int → Int → Int → Int → Bool → Option (Bool)
 | 0, _, _, _, _, _, _, _, _, _, _, _, _ => none
 | k + 1, x36, x298000, x298001, x298002, x298003, x298004, x298005, x298006, x301000, x301001, x301002, x301003 => if x36 = true then (spec_lbLast.j2 k x36 x298000 x298001 x298002 x298003 x298004 x298005 x298006 x301000 x301001 x301002 x301003) else (if x298003 = 19 then ((spec_lbLast_2.f k x301000 x301001 x301002 x301003).bind fun t306 => (if t306 = true then (spec_lbLast.j2 k false x298000 x298001 x298002 x298003 x298004 x298005 x298006 x301000 x301001 x301002 x301003) else ((spec_lbLast_1.f k x298004).bind fun t307 => (spec_lbLast.j2 k t307 x298000 x298001 x298002 x298003 x298004 x298005 x298006 x301000 x301001 x301002 x301003)))) else (spec_lbLast.j2 k false x298000 x298001 x298002 x298003 x298004 x298005 x298006 x301000 x301001 x301002 x301003))
def spec_lbLast.j2 : Nat → Bool → List (S64) → Int → Int → Int → Int → Int → Int → Int → Int → Int → Bool → Option (Bool)
 | 0, _, _, _, _, _, _, _, _, _, _, _, _ => none
 | k + 1, x36, x298000, x298001, x298002, x298003, x298004, x298005, x298006, x301000, x301001, x301002, x301003 => if x36 = true then (some true) else (if x298004 = 21 then (if x298003 = 20 then (some true) else (if x301003 = true then (if x301001 = 2 then (some true) else (spec_lbLast.j3 k x298000 x298001 x298002 x298003 x298004 x298005 x298006)) else (spec_lbLast.j3 k x298000 x298001 x298002 x298003 x298004 x298005 x298006))) else (spec_lbLast.j3 k x298000 x298001 x298002 x298003 x298004 x298005 x298006))
end
def spec_lbLast.f (k : Nat) (l0_0 : List (S64)) (a0_1 : Int) (a0_2 : Int) (a0_3 : Int) (a0_4 : Int) (a0_5 : Int) (a0_6 : Int) : Option (Bool) := if 0 ≤ (wrap64 (a0_1 - 1)) then (if (wrap64 (a0_1 - 1)) < (l0_0.length : Int) then (if 0 ≤ a0_1 then (if a0_1 < (l0_0.length : Int) then ((spec_lbLetter.f k a0_4).bind fun t302 => (if t302 = true then ((spec_lbLetter.f k a0_3).bind fun t303 => (if t303 = true then (spec_lbLast.j0 k true l0_0 a0_1 a0_2 a0_3 a0_4 a0_5 a0_6 ((rd_T64 l0_0 (wrap64 (a0_1 - 1))).f0) ((rd_T64 l0_0 (wrap64 (a0_1 - 1))).f1) ((rd_T64 l0_0 (wrap64 (a0_1 - 1))).f2) ((rd_T64 l0_0 (wrap64 (a0_1 - 1))).f3) ((rd_T64 l0_0 a0_1).f0) ((rd_T64 l0_0 a0_1).f1) ((rd_T64 l0_0 a0_1).f2) ((rd_T64 l0_0 a0_1).f3)) else (spec_lbLast.j0 k (a0_3 == 29) l0_0 a0_1 a0_2 a0_3 a0_4 a0_5 a0_6 ((rd_T64 l0_0 (wrap64 (a0_1 - 1))).f0) ((rd_T64 l0_0 (wrap64 (a0_1 - 1))).f1) ((rd_T64 l0_0 (wrap64 (a0_1 - 1))).f2) ((rd_T64 l0_0 (wrap64 (a0_1 - 1))).f3) ((rd_T64 l0_0 a0_1).f0) ((rd_T64 l0_0 a0_1).f1) ((rd_T64 l0_0 a0_1).f2) ((rd_T64 l0_0 a0_1).f3)))) else (spec_lbLast.j0 k false l0_0 a0_1 a0_2 a0_3 a0_4 a0_5 a0_6 ((rd_T64 l0_0 (wrap64 (a0_1 - 1))).f0) ((rd_T64 l0_0 (wrap64 (a0_1 - 1))).f1) ((rd_T64 l0_0 (wrap64 (a0_1 - 1))).f2) ((rd_T64 l0_0 (wrap64 (a0_1 - 1))).f3) ((rd_T64 l0_0 a0_1).f0) ((rd_T64 l0_0 a0_1).f1) ((rd_T64 l0_0 a0_1).f2) ((rd_T64 l0_0 a0_1).f3)))) else (none)) else (none)) else (none)) else (none)
def spec_lbLast.T1 : Bool × List (List Nat × List Nat) := (true, [([], []), ([0], [0]), ([], []), ([2], [2]), ([3], [3]), ([1, 4], [1, 4]), ([5], [5]), ([], []), ([7], [7]), ([], []), ([9], [9]), ([8, 10], [8, 10]), ([11], [11]), ([], []), ([], []), ([13, 6, 0, 1, 2, 3, 4, 5, 6, 13, 14], [6, 13]), ([14, 12, 15, 0, 1, 2, 3, 4, 5, 6, 7, 8, 9, 10, 11, 12, 13, 14, 15], [12, 14])])
def spec_lbLast.B1 : List Nat := [0, 1, 0, 4, 12, 31, 63, 0, 128, 0, 512, 1920, 3968, 0, 0, 24703, 65535]
theorem spec_lbLast.tab1 : rtab .any (opsOf Try.f69 1) = spec_lbLast.T1 := by kernel_rfl
theorem spec_lbLast.bits1 : waitsOk spec_lbLast.T1.2 spec_lbLast.B1 = true := by kernel_rfl
set_option maxHeartbeats 8000000 in
set_option maxRecDepth 100000 in
theorem spec_lbLast.calls (k : Nat) (A0_0 : Option Addr) (c0_0 : Nat) (l0_0 : List (S64)) (a0_1 : Int) (a0_2 : Int) (a0_3 : Int) (a0_4 : Int) (a0_5 : Int) (a0_6 : Int) (r : Bool) (w : World) (hr0_0 : Kd.C k64 w A0_0 l0_0.length l0_0) (hc0_0 : l0_0.length ≤ c0_0) (h : spec_lbLast.f k l0_0 a0_1 a0_2 a0_3 a0_4 a0_5 a0_6 = some r) :
  Calls Try.prog 69 #[.agg #[.slice A0_0 l0_0.length c0_0, .int .i64 a0_1, .int .i64 a0_2, .int .i64 a0_3, .int .i64 a0_4, .int .i64 a0_5, .int .i64 a0_6]] w fun e w' => e = .returned (.bool r) ∧ Below w.heap.size w w' := by
 have hu74 := Try.underlying74
 have hu64 := Try.underlying64
 have HR0_0 := Aside0.mk hr0_0
 have HC0_0 := Aside0.mk hc0_0
 clear hr0_0 hc0_0
 have HB := Aside0.mk (Below.refl w.heap.size w)
 have H : (if 0 ≤ (wrap64 (a0_1 - 1)) then (if (wrap64 (a0_1 - 1)) < (l0_0.length : Int) then (if 0 ≤ a0_1 then (if a0_1 < (l0_0.length : Int) then ((spec_lbLetter.f k a0_4).bind fun t302 => (if t302 = true then ((spec_lbLetter.f k a0_3).bind fun t303 => (if t303 = true then (spec_lbLast.j0 k true l0_0 a0_1 a0_2 a0_3 a0_4 a0_5 a0_6 ((rd_T64 l0_0 (wrap64 (a0_1 - 1))).f0) ((rd_T64 l0_0 (wrap64 (a0_1 - 1))).f1) ((rd_T64 l0_0 (wrap64 (a0_1 - 1))).f2) ((rd_T64 l0_0 (wrap64 (a0_1 - 1))).f3) ((rd_T64 l0_0 a0_1).f0) ((rd_T64 l0_0 a0_1).f1) ((rd_T64 l0_0 a0_1).f2) ((rd_T64 l0_0 a0_1).f3)) else (spec_lbLast.j0 k (a0_3 == 29) l0_0 a0_1 a0_2 a0_3 a0_4 a0_5 a0_6 ((rd_T64 l0_0 (wrap64 (a0_1 - 1))).f0) ((rd_T64 l0_0 (wrap64 (a0_1 - 1))).f1) ((rd_T64 l0_0 (wrap64 (a0_1 - 1))).f2) ((rd_T64 l0_0 (wrap64 (a0_1 - 1))).f3) ((rd_T64 l0_0 a0_1).f0) ((rd_T64 l0_0 a0_1).f1) ((rd_T64 l0_0 a0_1).f2) ((rd_T64 l0_0 a0_1).f3)))) else (spec_lbLast.j0 k false l0_0 a0_1 a0_2 a0_3 a0_4 a0_5 a0_6 ((rd_T64 l0_0 (wrap64 (a0_1 - 1))).f0) ((rd_T64 l0_0 (wrap64 (a0_1 - 1))).f1) ((rd_T64 l0_0 (wrap64 (a0_1 - 1))).f2) ((rd_T64 l0_0 (wrap64 (a0_1 - 1))).f3) ((rd_T64 l0_0 a0_1).f0) ((rd_T64 l0_0 a0_1).f1) ((rd_T64 l0_0 a0_1).f2) ((rd_T64 l0_0 a0_1).f3)))) else (none)) else (none)) else (none)) else (none)) = some r := h
 clear h
 obtain ⟨ji2, hji2⟩ : ∃ j_ : Int, (wrap64 (a0_1 - 1)) = j_ := ⟨_, rfl⟩
 first | rw [hji2] at H | simp only [hji2] at H
 have hji2w : (IntKind.i64.wrap (a0_1 - 1)) = ji2 := (i64_w _).trans hji2
 by_cases c3 : 0 ≤ (ji2)
 ·rw [if_pos c3] at H
  have c3b0 : decide (0 ≤ (ji2)) = true := decide_eq_true c3
  clear c3
  by_cases c4 : (ji2) < (l0_0.length : Int)
  ·rw [if_pos c4] at H
   have c4b0 : decide ((ji2) < (l0_0.length : Int)) = true := decide_eq_true c4
   clear c4
   by_cases c5 : 0 ≤ a0_1
   ·rw [if_pos c5] at H
    have c5b0 : decide (0 ≤ a0_1) = true := decide_eq_true c5
    clear c5
    by_cases c6 : a0_1 < (l0_0.length : Int)
    ·rw [if_pos c6] at H
     have c6b0 : decide (a0_1 < (l0_0.length : Int)) = true := decide_eq_true c6
     clear c6
     have HC7 := Aside0.mk H
     clear H
     go_enter Try.func69, Try.ntmps69
     try go_wp2_with (first | ((with_reducible refine gate_dst (N := 1) rfl ?_); refine box_event ?hg (N := 1) ?hd (cs := #[.slice A0_0 l0_0.length c0_0, .int .i64 a0_1, .int .i64 a0_2, .int .i64 a0_3, .int .i64 a0_4, .int .i64 a0_5, .int .i64 a0_6]) (t := 74) ?hr ?_; (case hd => rfl); (case hg => rfl); (case hr => first | (go_simp; done) | (go_simp; rfl)); intro gb297 hg w8 hbox hb; have n0_ := Aside0.mk (below_step bz hb); have n1_ := Aside0.mk (hbox); have n2_ := Aside0.mk ((by rw [hg]; exact (below_size bz) : w.heap.size ≤ gb297)); have n3_ := Aside0.mk ((by rw [hg]; exact (below_size bz) : w.heap.size ≤ gb297)); clear HB; have HB := n0_; have BK297 := n1_; have GW297 := n2_; have GE297 := n3_; clear n0_ n1_ n2_ n3_; clear hb hbox hg))
     have n0_ := Aside0.mk (blk_drew BK297.out)
     have n1_ := Aside0.mk (below_drew1 HB.out)
     clear BK297
     clear HB
     have BK297 := n0_
     have HB := n1_
     clear n0_ n1_
     have p298 : 0 ≤ ((ji2) : Int) := of_decide_eq_true az
     have q298 : (ji2) < (l0_0.length : Int) := of_decide_eq_true az
     obtain ⟨ad298, e298, hx298_0, hx298_1, hx298_2, hx298_3⟩ := at_T64 HR0_0.out (ji2) p298 q298
     have hw298_3 := hx298_3
     have hw298_2 := hx298_2
     have hw298_1 := hx298_1
     have hw298_0 := hx298_0
     cases e298
     replace hx298_0 := (HB.out.cell (World.block_lt_of_cell? w _ hx298_0)).trans hx298_0
     replace hx298_1 := (HB.out.cell (World.block_lt_of_cell? w _ hx298_1)).trans hx298_1
     replace hx298_2 := (HB.out.cell (World.block_lt_of_cell? w _ hx298_2)).trans hx298_2
     replace hx298_3 := (HB.out.cell (World.block_lt_of_cell? w _ hx298_3)).trans hx298_3
     replace p298 := eq_true p298
     replace q298 := eq_true q298
     have p299 : 0 ≤ (a0_1 : Int) := of_decide_eq_true az
     have q299 : a0_1 < (l0_0.length : Int) := of_decide_eq_true az
     obtain ⟨ad299, e299, hx299_0, hx299_1, hx299_2, hx299_3⟩ := at_T64 HR0_0.out a0_1 p299 q299
     have hw299_3 := hx299_3
     have hw299_2 := hx299_2
     have hw299_1 := hx299_1
     have hw299_0 := hx299_0
     obtain rfl : ad298 = ad299 := (by injection e299)
     replace hx299_0 := (HB.out.cell (World.block_lt_of_cell? w _ hx299_0)).trans hx299_0
     replace hx299_1 := (HB.out.cell (World.block_lt_of_cell? w _ hx299_1)).trans hx299_1
     replace hx299_2 := (HB.out.cell (World.block_lt_of_cell? w _ hx299_2)).trans hx299_2
     replace hx299_3 := (HB.out.cell (World.block_lt_of_cell? w _ hx299_3)).trans hx299_3
     replace p299 := eq_true p299
     replace q299 := eq_true q299
     refine start_ (n := 17) (S := fun w' => w'.cell? ⟨gb297, 0, none⟩ = some (.slice (some ad298) l0_0.length c0_0) ∧ w'.cell? ⟨gb297, 1, none⟩ = some (.int .i64 a0_1) ∧ w'.cell? ⟨gb297, 2, none⟩ = some (.int .i64 a0_2) ∧ w'.cell? ⟨gb297, 3, none⟩ = some (.int .i64 a0_3) ∧ w'.cell? ⟨gb297, 4, none⟩ = some (.int .i64 a0_4) ∧ w'.cell? ⟨gb297, 5, none⟩ = some (.int .i64 a0_5) ∧ w'.cell? ⟨gb297, 6, none⟩ = some (.int .i64 a0_6) ∧ w'.cell? (ad298.add (((ji2)).toNat * 4)) = some (.int .i64 ((rd_T64 l0_0 (ji2)).f0)) ∧ w'.cell? ⟨(ad298.add (((ji2)).toNat * 4)).block, (ad298.add (((ji2)).toNat * 4)).off + 1, none⟩ = some (.int .i64 ((rd_T64 l0_0 (ji2)).f1)) ∧ w'.cell? ⟨(ad298.add (((ji2)).toNat * 4)).block, (ad298.add (((ji2)).toNat * 4)).off + 2, none⟩ = some (.int .i64 ((rd_T64 l0_0 (ji2)).f2)) ∧ w'.cell? ⟨(ad298.add (((ji2)).toNat * 4)).block, (ad298.add (((ji2)).toNat * 4)).off + 3, none⟩ = some (.bool ((rd_T64 l0_0 (ji2)).f3)) ∧ w'.cell? (ad298.add ((a0_1).toNat * 4)) = some (.int .i64 ((rd_T64 l0_0 a0_1).f0)) ∧ w'.cell? ⟨(ad298.add ((a0_1).toNat * 4)).block, (ad298.add ((a0_1).toNat * 4)).off + 1, none⟩ = some (.int .i64 ((rd_T64 l0_0 a0_1).f1)) ∧ w'.cell? ⟨(ad298.add ((a0_1).toNat * 4)).block, (ad298.add ((a0_1).toNat * 4)).off + 2, none⟩ = some (.int .i64 ((rd_T64 l0_0 a0_1).f2)) ∧ w'.cell? ⟨(ad298.add ((a0_1).toNat * 4)).block, (ad298.add ((a0_1).toNat * 4)).off + 3, none⟩ = some (.bool ((rd_T64 l0_0 a0_1).f3))) (ds := []) #[false, false, false, false, false, false, false, false, false, false, false, false, false, false, false, false, false] (by kernel_rfl) rfl rfl ⟨(blk_cell BK297.out 0).trans rfl, (blk_cell BK297.out 1).trans rfl, (blk_cell BK297.out 2).trans rfl, (blk_cell BK297.out 3).trans rfl, (blk_cell BK297.out 4).trans rfl, (blk_cell BK297.out 5).trans rfl, (blk_cell BK297.out 6).trans rfl, ((HB.out.cell (World.block_lt_of_cell? w _ hw298_0)).trans hw298_0), ((HB.out.cell (World.block_lt_of_cell? w _ hw298_1)).trans hw298_1), ((HB.out.cell (World.block_lt_of_cell? w _ hw298_2)).trans hw298_2), ((HB.out.cell (World.block_lt_of_cell? w _ hw298_3)).trans hw298_3), ((HB.out.cell (World.block_lt_of_cell? w _ hw299_0)).trans hw299_0), ((HB.out.cell (World.block_lt_of_cell? w _ hw299_1)).trans hw299_1), ((HB.out.cell (World.block_lt_of_cell? w _ hw299_2)).trans hw299_2), ((HB.out.cell (World.block_lt_of_cell? w _ hw299_3)).trans hw299_3)⟩ (fun hHeld => ?_); refine with_tabW spec_lbLast.tab1 spec_lbLast.bits1 (fun HT_ HW_ => ?_)
     generalize w8.drew = w9 at BK297 HB hx298_0 hx298_1 hx298_2 hx298_3 hx299_0 hx299_1 hx299_2 hx299_3 hHeld ⊢
     refine pure_ (i := 0) (N := some 9) (v := ?_) (a' := ?_) #[true, false, false, false, false, false, false, false, false, false, false, false, false, false, false, false, false] rfl rfl (any_of HT_.out (by kernel_rfl)) (fun _ _ _ h => h) (Or.inl ⟨by rfl, ?_⟩) ?_ ?_
     rotate_left
     ·intro w'
      go_simp
      with_reducible rfl
     rotate_left
     ·simp only [Act.put, List.setIfInBounds_toArray, List.set_cons_zero, List.set_cons_succ, i64_w]
      rfl
     refine pure_ (i := 2) (N := some 11) (v := ?_) (a' := ?_) #[true, false, true, false, false, false, false, false, false, false, false, false, false, false, false, false, false] rfl rfl (any_of HT_.out (by kernel_rfl)) (fun _ _ _ h => h) (Or.inl ⟨by rfl, ?_⟩) ?_ ?_
     rotate_left
     ·intro w'
      go_simp
      with_reducible rfl
     rotate_left
     ·simp only [Act.put, List.setIfInBounds_toArray, List.set_cons_zero, List.set_cons_succ, i64_w]
      rfl
     refine pure_ (i := 7) (N := some 16) (v := ?_) (a' := ?_) #[true, false, true, false, false, false, false, true, false, false, false, false, false, false, false, false, false] rfl rfl (any_of HT_.out (by kernel_rfl)) (fun _ _ _ h => h) (Or.inl ⟨by rfl, ?_⟩) ?_ ?_
     rotate_left
     ·intro w'
      go_simp
      with_reducible rfl
     rotate_left
     ·simp only [Act.put, List.setIfInBounds_toArray, List.set_cons_zero, List.set_cons_succ, i64_w]
      rfl
     refine pure_ (i := 9) (N := some 18) (v := ?_) (a' := ?_) #[true, false, true, false, false, false, false, true, false, true, false, false, false, false, false, false, false] rfl rfl (any_of HT_.out (by kernel_rfl)) (fun _ _ _ h => h) (Or.inl ⟨by rfl, ?_⟩) ?_ ?_
     rotate_left
     ·intro w'
      go_simp
      with_reducible rfl
     rotate_left
     ·simp only [Act.put, List.setIfInBounds_toArray, List.set_cons_zero, List.set_cons_succ, i64_w]
      rfl
     refine take_ (i := 1) (N := some 10) (v := ?_) (a' := ?_) #[true, true, true, false, false, false, false, true, false, true, false, false, false, false, false, false, false] rfl rfl (take_ofW HT_.out HW_.out (by kernel_rfl)) (fun _ _ _ h => h) (Or.inl ⟨by rfl, ?_⟩) hHeld ?_ ?_
     rotate_left
     ·rintro w' ⟨s0, s1, s2, s3, s4, s5, s6, s7, s8, s9, s10, s11, s12, s13, s14⟩
      go_simp
      with_reducible rfl
     rotate_left
     ·simp only [Act.put, List.setIfInBounds_toArray, List.set_cons_zero, List.set_cons_succ, i64_w]
      rfl
     refine take_ (i := 3) (N := some 12) (v := ?_) (a' := ?_) #[true, true, true, true, false, false, false, true, false, true, false, false, false, false, false, false, false] rfl rfl (take_ofW HT_.out HW_.out (by kernel_rfl)) (fun _ _ _ h => h) (Or.inl ⟨by rfl, ?_⟩) hHeld ?_ ?_
     rotate_left
     ·rintro w' ⟨s0, s1, s2, s3, s4, s5, s6, s7, s8, s9, s10, s11, s12, s13, s14⟩
      go_simp
      with_reducible rfl
     rotate_left
     ·simp only [Act.put, List.setIfInBounds_toArray, List.set_cons_zero, List.set_cons_succ, i64_w]
      rfl
     refine pure_ (i := 4) (N := some 13) (v := ?_) (a' := ?_) #[true, true, true, true, true, false, false, true, false, true, false, false, false, false, false, false, false] rfl rfl (any_of HT_.out (by kernel_rfl)) (fun _ _ _ h => h) (Or.inl ⟨by rfl, ?_⟩) ?_ ?_
     rotate_left
     ·intro w'
      go_simp
      with_reducible rfl
     rotate_left
     ·simp only [Act.put, List.setIfInBounds_toArray, List.set_cons_zero, List.set_cons_succ, i64_w]
      rfl
     refine pure_ (i := 5) (N := some 14) (v := ?_) (a' := ?_) #[true, true, true, true, true, true, false, true, false, true, false, false, false, false, false, false, false] rfl rfl (any_of HT_.out (by kernel_rfl)) (fun _ _ _ h => h) (Or.inl ⟨by rfl, ?_⟩) ?_ ?_
     rotate_left
     ·intro w'
      go_simp
      with_reducible rfl
     rotate_left
     ·simp only [Act.put, List.setIfInBounds_toArray, List.set_cons_zero, List.set_cons_succ, i64_w]
      rfl
     refine take_ (i := 6) (N := some 15) (v := ?_) (a' := ?_) #[true, true, true, true, true, true, true, true, false, true, false, false, false, false, false, false, false] rfl rfl (take_ofW HT_.out HW_.out (by kernel_rfl)) (fun _ _ _ h => h) (Or.inl ⟨by rfl, ?_⟩) hHeld ?_ ?_
     rotate_left
     ·rintro w' ⟨s0, s1, s2, s3, s4, s5, s6, s7, s8, s9, s10, s11, s12, s13, s14⟩
      go_simp
      with_reducible rfl
     rotate_left
     ·simp only [Act.put, List.setIfInBounds_toArray, List.set_cons_zero, List.set_cons_succ, i64_w]
      rfl
     refine take_ (i := 8) (N := some 17) (v := ?_) (a' := ?_) #[true, true, true, true, true, true, true, true, true, true, false, false, false, false, false, false, false] rfl rfl (take_ofW HT_.out HW_.out (by kernel_rfl)) (fun _ _ _ h => h) (Or.inl ⟨by rfl, ?_⟩) hHeld ?_ ?_
     rotate_left
     ·rintro w' ⟨s0, s1, s2, s3, s4, s5, s6, s7, s8, s9, s10, s11, s12, s13, s14⟩
      go_simp
      with_reducible rfl
     rotate_left
     ·simp only [Act.put, List.setIfInBounds_toArray, List.set_cons_zero, List.set_cons_succ, i64_w]
      rfl
     refine take_ (i := 10) (N := some 19) (v := ?_) (a' := ?_) #[true, true, true, true, true, true, true, true, true, true, true, false, false, false, false, false, false] rfl rfl (take_ofW HT_.out HW_.out (by kernel_rfl)) (fun _ _ _ h => h) (Or.inl ⟨by rfl, ?_⟩) hHeld ?_ ?_
     rotate_left
     ·rintro w' ⟨s0, s1, s2, s3, s4, s5, s6, s7, s8, s9, s10, s11, s12, s13, s14⟩
      go_simp
      with_reducible rfl
     rotate_left
     ·simp only [Act.put, List.setIfInBounds_toArray, List.set_cons_zero, List.set_cons_succ, i64_w]
      rfl
     refine pure_ (i := 11) (N := some 20) (v := ?_) (a' := ?_) #[true, true, true, true, true, true, true, true, true, true, true, true, false, false, false, false, false] rfl rfl (any_of HT_.out (by kernel_rfl)) (fun _ _ _ h => h) (Or.inl ⟨by rfl, ?_⟩) ?_ ?_
     rotate_left
     ·intro w'
      go_simp
      with_reducible rfl
     rotate_left
     ·simp only [Act.put, List.setIfInBounds_toArray, List.set_cons_zero, List.set_cons_succ, i64_w]
      rfl
     refine take_ (i := 12) (N := some 21) (v := ?_) (a' := ?_) #[true, true, true, true, true, true, true, true, true, true, true, true, true, false, false, false, false] rfl rfl (take_ofW HT_.out HW_.out (by kernel_rfl)) (fun _ _ _ h => h) (Or.inl ⟨by rfl, ?_⟩) hHeld ?_ ?_
     rotate_left
     ·rintro w' ⟨s0, s1, s2, s3, s4, s5, s6, s7, s8, s9, s10, s11, s12, s13, s14⟩
      go_simp
      with_reducible rfl
     rotate_left
     ·simp only [Act.put, List.setIfInBounds_toArray, List.set_cons_zero, List.set_cons_succ, i64_w]
      rfl
     refine join_ (σ := Nat × Nat) 2 #[true, true, true, true, true, true, true, true, true, true, true, true, true, true, true, false, false] (fun s_ => [(3, .pointer (some ⟨s_.1, 0, none⟩)), (4, .pointer (some ⟨s_.2, 0, none⟩))]) (fun s_ w' => (w'.cell? ⟨gb297, 0, none⟩ = some (.slice (some ad298) l0_0.length c0_0) ∧ w'.cell? ⟨gb297, 1, none⟩ = some (.int .i64 a0_1) ∧ w'.cell? ⟨gb297, 2, none⟩ = some (.int .i64 a0_2) ∧ w'.cell? ⟨gb297, 3, none⟩ = some (.int .i64 a0_3) ∧ w'.cell? ⟨gb297, 4, none⟩ = some (.int .i64 a0_4) ∧ w'.cell? ⟨gb297, 5, none⟩ = some (.int .i64 a0_5) ∧ w'.cell? ⟨gb297, 6, none⟩ = some (.int .i64 a0_6) ∧ w'.cell? (ad298.add (((ji2)).toNat * 4)) = some (.int .i64 ((rd_T64 l0_0 (ji2)).f0)) ∧ w'.cell? ⟨(ad298.add (((ji2)).toNat * 4)).block, (ad298.add (((ji2)).toNat * 4)).off + 1, none⟩ = some (.int .i64 ((rd_T64 l0_0 (ji2)).f1)) ∧ w'.cell? ⟨(ad298.add (((ji2)).toNat * 4)).block, (ad298.add (((ji2)).toNat * 4)).off + 2, none⟩ = some (.int .i64 ((rd_T64 l0_0 (ji2)).f2)) ∧ w'.cell? ⟨(ad298.add (((ji2)).toNat * 4)).block, (ad298.add (((ji2)).toNat * 4)).off + 3, none⟩ = some (.bool ((rd_T64 l0_0 (ji2)).f3)) ∧ w'.cell? (ad298.add ((a0_1).toNat * 4)) = some (.int .i64 ((rd_T64 l0_0 a0_1).f0)) ∧ w'.cell? ⟨(ad298.add ((a0_1).toNat * 4)).block, (ad298.add ((a0_1).toNat * 4)).off + 1, none⟩ = some (.int .i64 ((rd_T64 l0_0 a0_1).f1)) ∧ w'.cell? ⟨(ad298.add ((a0_1).toNat * 4)).block, (ad298.add ((a0_1).toNat * 4)).off + 2, none⟩ = some (.int .i64 ((rd_T64 l0_0 a0_1).f2)) ∧ w'.cell? ⟨(ad298.add ((a0_1).toNat * 4)).block, (ad298.add ((a0_1).toNat * 4)).off + 3, none⟩ = some (.bool ((rd_T64 l0_0 a0_1).f3))) ∧ (w'.heap[gb297]? = some (.cells #[.slice (some ad298) l0_0.length c0_0, .int .i64 a0_1, .int .i64 a0_2, .int .i64 a0_3, .int .i64 a0_4, .int .i64 a0_5, .int .i64 a0_6] 74 (0, 0))) ∧ (w'.heap[s_.1]? = some (.cells #[.int .i64 0, .int .i64 0, .int .i64 0, .bool false] 64 (0, 0))) ∧ (w'.heap[s_.2]? = some (.cells #[.int .i64 0, .int .i64 0, .int .i64 0, .bool false] 64 (0, 0))) ∧ (w.heap.size ≤ s_.1) ∧ (w.heap.size ≤ s_.1) ∧ (gb297 ≠ s_.1) ∧ (s_.1 ≠ gb297) ∧ (s_.2 ≠ s_.1) ∧ (s_.1 ≠ s_.2) ∧ (w.heap.size ≤ s_.2) ∧ (w.heap.size ≤ s_.2) ∧ (gb297 ≠ s_.2) ∧ (s_.2 ≠ gb297) ∧ (Below w.heap.size w w')) ?_ ?_
     rotate_left
     ·intro hCont
      refine two_ (i := 13) (j := 14) (Ni := some 3) (Nj := some 4) #[true, true, true, true, true, true, true, true, true, true, true, true, true, true, false, false, false] #[true, true, true, true, true, true, true, true, true, true, true, true, true, false, true, false, false] rfl rfl rfl rfl (two_of HT_.out (by kernel_rfl)) (by decide) (by decide) (fun K hK => ?_) (fun K hK => ?_)
      ·skip
       refine box_step ?hg (N := 3) ?hd (cs := #[.int .i64 0, .int .i64 0, .int .i64 0, .bool false]) (t := 64) ?hr ?_; (case hd => rfl); (case hg => rfl); (case hr => first | (go_simp; done) | (go_simp; rfl))
       intro gb300 hg w10 hbox hb
       have n0_ := Aside0.mk (blk_below (g := gb297) (o := .cells #[.slice (some ad298) l0_0.length c0_0, .int .i64 a0_1, .int .i64 a0_2, .int .i64 a0_3, .int .i64 a0_4, .int .i64 a0_5, .int .i64 a0_6] 74 (0, 0)) kz hb)
       have n1_ := Aside0.mk (below_step bs hb)
       have n2_ := Aside0.mk (hbox)
       have n3_ := Aside0.mk ((by rw [hg]; exact (below_size bs) : w.heap.size ≤ gb300))
       have n4_ := Aside0.mk ((by rw [hg]; exact (below_size bs) : w.heap.size ≤ gb300))
       have n5_ := Aside0.mk ((by rw [hg]; exact Nat.ne_of_lt (blk_lt (g := gb297) (o := .cells #[.slice (some ad298) l0_0.length c0_0, .int .i64 a0_1, .int .i64 a0_2, .int .i64 a0_3, .int .i64 a0_4, .int .i64 a0_5, .int .i64 a0_6] 74 (0, 0)) kz) : gb297 ≠ gb300))
       have n6_ := Aside0.mk ((by rw [hg]; exact Nat.ne_of_gt (blk_lt (g := gb297) (o := .cells #[.slice (some ad298) l0_0.length c0_0, .int .i64 a0_1, .int .i64 a0_2, .int .i64 a0_3, .int .i64 a0_4, .int .i64 a0_5, .int .i64 a0_6] 74 (0, 0)) kz) : gb300 ≠ gb297))
       clear BK297
       clear HB
       have BK297 := n0_
       have HB := n1_
       have BK300 := n2_
       have GW300 := n3_
       have GE300 := n4_
       have NB297_300 := n5_
       have NB300_297 := n6_
       clear n0_ n1_ n2_ n3_ n4_ n5_ n6_
       clear hb hbox hg
       refine hK.out _ _ ⟨(blk_cell BK297.out 0).trans rfl, (blk_cell BK297.out 1).trans rfl, (blk_cell BK297.out 2).trans rfl, (blk_cell BK297.out 3).trans rfl, (blk_cell BK297.out 4).trans rfl, (blk_cell BK297.out 5).trans rfl, (blk_cell BK297.out 6).trans rfl, ((HB.out.cell (World.block_lt_of_cell? w _ hw298_0)).trans hw298_0), ((HB.out.cell (World.block_lt_of_cell? w _ hw298_1)).trans hw298_1), ((HB.out.cell (World.block_lt_of_cell? w _ hw298_2)).trans hw298_2), ((HB.out.cell (World.block_lt_of_cell? w _ hw298_3)).trans hw298_3), ((HB.out.cell (World.block_lt_of_cell? w _ hw299_0)).trans hw299_0), ((HB.out.cell (World.block_lt_of_cell? w _ hw299_1)).trans hw299_1), ((HB.out.cell (World.block_lt_of_cell? w _ hw299_2)).trans hw299_2), ((HB.out.cell (World.block_lt_of_cell? w _ hw299_3)).trans hw299_3)⟩ (fun hHeld => ?_)
       clear hK K
       refine norm_ (a' := ?_) ?_ ?_
       rotate_left
       ·show Act.put _ (some 3) _ = _
        simp only [Act.put, List.setIfInBounds_toArray, List.set_cons_zero, List.set_cons_succ, i64_w]
        rfl
       refine one_ (i := 14) (N := some 4) #[true, true, true, true, true, true, true, true, true, true, true, true, true, true, true, false, false] rfl rfl (one_of HT_.out (by kernel_rfl)) (by decide) (fun K hK => ?_)
       refine box_step ?hg (N := 4) ?hd (cs := #[.int .i64 0, .int .i64 0, .int .i64 0, .bool false]) (t := 64) ?hr ?_; (case hd => rfl); (case hg => rfl); (case hr => first | (go_simp; done) | (go_simp; rfl))
       intro gb301 hg w11 hbox hb
       have n0_ := Aside0.mk (blk_below (g := gb297) (o := .cells #[.slice (some ad298) l0_0.length c0_0, .int .i64 a0_1, .int .i64 a0_2, .int .i64 a0_3, .int .i64 a0_4, .int .i64 a0_5, .int .i64 a0_6] 74 (0, 0)) kz hb)
       have n1_ := Aside0.mk (blk_below (g := gb300) (o := .cells #[.int .i64 0, .int .i64 0, .int .i64 0, .bool false] 64 (0, 0)) kz hb)
       have n2_ := Aside0.mk (below_step bs hb)
       have n3_ := Aside0.mk (hbox)
       have n4_ := Aside0.mk ((by rw [hg]; exact (below_size bs) : w.heap.size ≤ gb301))
       have n5_ := Aside0.mk ((by rw [hg]; exact (below_size bs) : w.heap.size ≤ gb301))
       have n6_ := Aside0.mk ((by rw [hg]; exact Nat.ne_of_lt (blk_lt (g := gb297) (o := .cells #[.slice (some ad298) l0_0.length c0_0, .int .i64 a0_1, .int .i64 a0_2, .int .i64 a0_3, .int .i64 a0_4, .int .i64 a0_5, .int .i64 a0_6] 74 (0, 0)) kz) : gb297 ≠ gb301))
       have n7_ := Aside0.mk ((by rw [hg]; exact Nat.ne_of_gt (blk_lt (g := gb297) (o := .cells #[.slice (some ad298) l0_0.length c0_0, .int .i64 a0_1, .int .i64 a0_2, .int .i64 a0_3, .int .i64 a0_4, .int .i64 a0_5, .int .i64 a0_6] 74 (0, 0)) kz) : gb301 ≠ gb297))
       have n8_ := Aside0.mk ((by rw [hg]; exact Nat.ne_of_lt (blk_lt (g := gb300) (o := .cells #[.int .i64 0, .int .i64 0, .int .i64 0, .bool false] 64 (0, 0)) kz) : gb300 ≠ gb301))
       have n9_ := Aside0.mk ((by rw [hg]; exact Nat.ne_of_gt (blk_lt (g := gb300) (o := .cells #[.int .i64 0, .int .i64 0, .int .i64 0, .bool false] 64 (0, 0)) kz) : gb301 ≠ gb300))
       clear BK297
       clear BK300
       clear HB
       have BK297 := n0_
       have BK300 := n1_
       have HB := n2_
       have BK301 := n3_
       have GW301 := n4_
       have GE301 := n5_
       have NB297_301 := n6_
       have NB301_297 := n7_
       have NB300_301 := n8_
       have NB301_300 := n9_
       clear n0_ n1_ n2_ n3_ n4_ n5_ n6_ n7_ n8_ n9_
       clear hb hbox hg
       refine hK.out _ _ ⟨(blk_cell BK297.out 0).trans rfl, (blk_cell BK297.out 1).trans rfl, (blk_cell BK297.out 2).trans rfl, (blk_cell BK297.out 3).trans rfl, (blk_cell BK297.out 4).trans rfl, (blk_cell BK297.out 5).trans rfl, (blk_cell BK297.out 6).trans rfl, ((HB.out.cell (World.block_lt_of_cell? w _ hw298_0)).trans hw298_0), ((HB.out.cell (World.block_lt_of_cell? w _ hw298_1)).trans hw298_1), ((HB.out.cell (World.block_lt_of_cell? w _ hw298_2)).trans hw298_2), ((HB.out.cell (World.block_lt_of_cell? w _ hw298_3)).trans hw298_3), ((HB.out.cell (World.block_lt_of_cell? w _ hw299_0)).trans hw299_0), ((HB.out.cell (World.block_lt_of_cell? w _ hw299_1)).trans hw299_1), ((HB.out.cell (World.block_lt_of_cell? w _ hw299_2)).trans hw299_2), ((HB.out.cell (World.block_lt_of_cell? w _ hw299_3)).trans hw299_3)⟩ (fun hHeld => ?_)
       clear hK K
       refine norm_ (a' := ?_) ?_ ?_
       rotate_left
       ·show Act.put _ (some 4) _ = _
        simp only [Act.put, List.setIfInBounds_toArray, List.set_cons_zero, List.set_cons_succ, i64_w]
        rfl
       exact norm_ (by simp only [putAll, Act.put, List.setIfInBounds_toArray, List.set_cons_zero, List.set_cons_succ]) (hCont (gb300, gb301) _ ⟨hHeld, kz, kz, kz, GW300.out, GE300.out, NB297_300.out, NB300_297.out, NB301_300.out, NB300_301.out, GW301.out, GE301.out, NB297_301.out, NB301_297.out, bs⟩)
      ·skip
       refine box_step ?hg (N := 4) ?hd (cs := #[.int .i64 0, .int .i64 0, .int .i64 0, .bool false]) (t := 64) ?hr ?_; (case hd => rfl); (case hg => rfl); (case hr => first | (go_simp; done) | (go_simp; rfl))
       intro gb301 hg w10 hbox hb
       have n0_ := Aside0.mk (blk_below (g := gb297) (o := .cells #[.slice (some ad298) l0_0.length c0_0, .int .i64 a0_1, .int .i64 a0_2, .int .i64 a0_3, .int .i64 a0_4, .int .i64 a0_5, .int .i64 a0_6] 74 (0, 0)) kz hb)
       have n1_ := Aside0.mk (below_step bs hb)
       have n2_ := Aside0.mk (hbox)
       have n3_ := Aside0.mk ((by rw [hg]; exact (below_size bs) : w.heap.size ≤ gb301))
       have n4_ := Aside0.mk ((by rw [hg]; exact (below_size bs) : w.heap.size ≤ gb301))
       have n5_ := Aside0.mk ((by rw [hg]; exact Nat.ne_of_lt (blk_lt (g := gb297) (o := .cells #[.slice (some ad298) l0_0.length c0_0, .int .i64 a0_1, .int .i64 a0_2, .int .i64 a0_3, .int .i64 a0_4, .int .i64 a0_5, .int .i64 a0_6] 74 (0, 0)) kz) : gb297 ≠ gb301))
       have n6_ := Aside0.mk ((by rw [hg]; exact Nat.ne_of_gt (blk_lt (g := gb297) (o := .cells #[.slice (some ad298) l0_0.length c0_0, .int .i64 a0_1, .int .i64 a0_2, .int .i64 a0_3, .int .i64 a0_4, .int .i64 a0_5, .int .i64 a0_6] 74 (0, 0)) kz) : gb301 ≠ gb297))
       clear BK297
       clear HB
       have BK297 := n0_
       have HB := n1_
       have BK301 := n2_
       have GW301 := n3_
       have GE301 := n4_
       have NB297_301 := n5_
       have NB301_297 := n6_
       clear n0_ n1_ n2_ n3_ n4_ n5_ n6_
       clear hb hbox hg
       refine hK.out _ _ ⟨(blk_cell BK297.out 0).trans rfl, (blk_cell BK297.out 1).trans rfl, (blk_cell BK297.out 2).trans rfl, (blk_cell BK297.out 3).trans rfl, (blk_cell BK297.out 4).trans rfl, (blk_cell BK297.out 5).trans rfl, (blk_cell BK297.out 6).trans rfl, ((HB.out.cell (World.block_lt_of_cell? w _ hw298_0)).trans hw298_0), ((HB.out.cell (World.block_lt_of_cell? w _ hw298_1)).trans hw298_1), ((HB.out.cell (World.block_lt_of_cell? w _ hw298_2)).trans hw298_2), ((HB.out.cell (World.block_lt_of_cell? w _ hw298_3)).trans hw298_3), ((HB.out.cell (World.block_lt_of_cell? w _ hw299_0)).trans hw299_0), ((HB.out.cell (World.block_lt_of_cell? w _ hw299_1)).trans hw299_1), ((HB.out.cell (World.block_lt_of_cell? w _ hw299_2)).trans hw299_2), ((HB.out.cell (World.block_lt_of_cell? w _ hw299_3)).trans hw299_3)⟩ (fun hHeld => ?_)
       clear hK K
       refine norm_ (a' := ?_) ?_ ?_
       rotate_left
       ·show Act.put _ (some 4) _ = _
        simp only [Act.put, List.setIfInBounds_toArray, List.set_cons_zero, List.set_cons_succ, i64_w]
        rfl
       refine one_ (i := 13) (N := some 3) #[true, true, true, true, true, true, true, true, true, true, true, true, true, true, true, false, false] rfl rfl (one_of HT_.out (by kernel_rfl)) (by decide) (fun K hK => ?_)
       refine box_step ?hg (N := 3) ?hd (cs := #[.int .i64 0, .int .i64 0, .int .i64 0, .bool false]) (t := 64) ?hr ?_; (case hd => rfl); (case hg => rfl); (case hr => first | (go_simp; done) | (go_simp; rfl))
       intro gb300 hg w11 hbox hb
       have n0_ := Aside0.mk (blk_below (g := gb297) (o := .cells #[.slice (some ad298) l0_0.length c0_0, .int .i64 a0_1, .int .i64 a0_2, .int .i64 a0_3, .int .i64 a0_4, .int .i64 a0_5, .int .i64 a0_6] 74 (0, 0)) kz hb)
       have n1_ := Aside0.mk (blk_below (g := gb301) (o := .cells #[.int .i64 0, .int .i64 0, .int .i64 0, .bool false] 64 (0, 0)) kz hb)
       have n2_ := Aside0.mk (below_step bs hb)
       have n3_ := Aside0.mk (hbox)
       have n4_ := Aside0.mk ((by rw [hg]; exact (below_size bs) : w.heap.size ≤ gb300))
       have n5_ := Aside0.mk ((by rw [hg]; exact (below_size bs) : w.heap.size ≤ gb300))
       have n6_ := Aside0.mk ((by rw [hg]; exact Nat.ne_of_lt (blk_lt (g := gb297) (o := .cells #[.slice (some ad298) l0_0.length c0_0, .int .i64 a0_1, .int .i64 a0_2, .int .i64 a0_3, .int .i64 a0_4, .int .i64 a0_5, .int .i64 a0_6] 74 (0, 0)) kz) : gb297 ≠ gb300))
       have n7_ := Aside0.mk ((by rw [hg]; exact Nat.ne_of_gt (blk_lt (g := gb297) (o := .cells #[.slice (some ad298) l0_0.length c0_0, .int .i64 a0_1, .int .i64 a0_2, .int .i64 a0_3, .int .i64 a0_4, .int .i64 a0_5, .int .i64 a0_6] 74 (0, 0)) kz) : gb300 ≠ gb297))
       have n8_ := Aside0.mk ((by rw [hg]; exact Nat.ne_of_lt (blk_lt (g := gb301) (o := .cells #[.int .i64 0, .int .i64 0, .int .i64 0, .bool false] 64 (0, 0)) kz) : gb301 ≠ gb300))
       have n9_ := Aside0.mk ((by rw [hg]; exact Nat.ne_of_gt (blk_lt (g := gb301) (o := .cells #[.int .i64 0, .int .i64 0, .int .i64 0, .bool false] 64 (0, 0)) kz) : gb300 ≠ gb301))
       clear BK297
       clear BK301
       clear HB
       have BK297 := n0_
       have BK301 := n1_
       have HB := n2_
       have BK300 := n3_
       have GW300 := n4_
       have GE300 := n5_
       have NB297_300 := n6_
       have NB300_297 := n7_
       have NB301_300 := n8_
       have NB300_301 := n9_
       clear n0_ n1_ n2_ n3_ n4_ n5_ n6_ n7_ n8_ n9_
       clear hb hbox hg
       refine hK.out _ _ ⟨(blk_cell BK297.out 0).trans rfl, (blk_cell BK297.out 1).trans rfl, (blk_cell BK297.out 2).trans rfl, (blk_cell BK297.out 3).trans rfl, (blk_cell BK297.out 4).trans rfl, (blk_cell BK297.out 5).trans rfl, (blk_cell BK297.out 6).trans rfl, ((HB.out.cell (World.block_lt_of_cell? w _ hw298_0)).trans hw298_0), ((HB.out.cell (World.block_lt_of_cell? w _ hw298_1)).trans hw298_1), ((HB.out.cell (World.block_lt_of_cell? w _ hw298_2)).trans hw298_2), ((HB.out.cell (World.block_lt_of_cell? w _ hw298_3)).trans hw298_3), ((HB.out.cell (World.block_lt_of_cell? w _ hw299_0)).trans hw299_0), ((HB.out.cell (World.block_lt_of_cell? w _ hw299_1)).trans hw299_1), ((HB.out.cell (World.block_lt_of_cell? w _ hw299_2)).trans hw299_2), ((HB.out.cell (World.block_lt_of_cell? w _ hw299_3)).trans hw299_3)⟩ (fun hHeld => ?_)
       clear hK K
       refine norm_ (a' := ?_) ?_ ?_
       rotate_left
       ·show Act.put _ (some 3) _ = _
        simp only [Act.put, List.setIfInBounds_toArray, List.set_cons_zero, List.set_cons_succ, i64_w]
        rfl
       exact norm_ (by simp only [putAll, Act.put, List.setIfInBounds_toArray, List.set_cons_zero, List.set_cons_succ]) (hCont (gb300, gb301) _ ⟨hHeld, kz, kz, kz, GW300.out, GE300.out, NB297_300.out, NB300_297.out, NB301_300.out, NB300_301.out, GW301.out, GE301.out, NB297_301.out, NB301_297.out, bs⟩)
     rintro ⟨gb300, gb301⟩ w12 ⟨hS_, h0_, h1_, h2_, h3_, h4_, h5_, h6_, h7_, h8_, h9_, h10_, h11_, h12_, h13_⟩
     have n0_ : Aside0 (w12.heap[gb297]? = some (.cells #[.slice (some ad298) l0_0.length c0_0, .int .i64 a0_1, .int .i64 a0_2, .int .i64 a0_3, .int .i64 a0_4, .int .i64 a0_5, .int .i64 a0_6] 74 (0, 0))) := ⟨h0_⟩
     have n1_ : Aside0 (w12.heap[gb300]? = some (.cells #[.int .i64 0, .int .i64 0, .int .i64 0, .bool false] 64 (0, 0))) := ⟨h1_⟩
     have n2_ : Aside0 (w12.heap[gb301]? = some (.cells #[.int .i64 0, .int .i64 0, .int .i64 0, .bool false] 64 (0, 0))) := ⟨h2_⟩
     have n3_ : Aside0 (w.heap.size ≤ gb300) := ⟨h3_⟩
     have n4_ : Aside0 (w.heap.size ≤ gb300) := ⟨h4_⟩
     have n5_ : Aside0 (gb297 ≠ gb300) := ⟨h5_⟩
     have n6_ : Aside0 (gb300 ≠ gb297) := ⟨h6_⟩
     have n7_ : Aside0 (gb301 ≠ gb300) := ⟨h7_⟩
     have n8_ : Aside0 (gb300 ≠ gb301) := ⟨h8_⟩
     have n9_ : Aside0 (w.heap.size ≤ gb301) := ⟨h9_⟩
     have n10_ : Aside0 (w.heap.size ≤ gb301) := ⟨h10_⟩
     have n11_ : Aside0 (gb297 ≠ gb301) := ⟨h11_⟩
     have n12_ : Aside0 (gb301 ≠ gb297) := ⟨h12_⟩
     have n13_ : Aside0 (Below w.heap.size w w12) := ⟨h13_⟩
     clear BK297
     clear HB
     clear h0_ h1_ h2_ h3_ h4_ h5_ h6_ h7_ h8_ h9_ h10_ h11_ h12_ h13_
     have BK297 := n0_
     have BK300 := n1_
     have BK301 := n2_
     have GW300 := n3_
     have GE300 := n4_
     have NB297_300 := n5_
     have NB300_297 := n6_
     have NB301_300 := n7_
     have NB300_301 := n8_
     have GW301 := n9_
     have GE301 := n10_
     have NB297_301 := n11_
     have NB301_297 := n12_
     have HB := n13_
     clear n0_ n1_ n2_ n3_ n4_ n5_ n6_ n7_ n8_ n9_ n10_ n11_ n12_ n13_
     have hHeld : w12.cell? ⟨gb297, 0, none⟩ = some (.slice (some ad298) l0_0.length c0_0) ∧ w12.cell? ⟨gb297, 1, none⟩ = some (.int .i64 a0_1) ∧ w12.cell? ⟨gb297, 2, none⟩ = some (.int .i64 a0_2) ∧ w12.cell? ⟨gb297, 3, none⟩ = some (.int .i64 a0_3) ∧ w12.cell? ⟨gb297, 4, none⟩ = some (.int .i64 a0_4) ∧ w12.cell? ⟨gb297, 5, none⟩ = some (.int .i64 a0_5) ∧ w12.cell? ⟨gb297, 6, none⟩ = some (.int .i64 a0_6) ∧ w12.cell? (ad298.add (((ji2)).toNat * 4)) = some (.int .i64 ((rd_T64 l0_0 (ji2)).f0)) ∧ w12.cell? ⟨(ad298.add (((ji2)).toNat * 4)).block, (ad298.add (((ji2)).toNat * 4)).off + 1, none⟩ = some (.int .i64 ((rd_T64 l0_0 (ji2)).f1)) ∧ w12.cell? ⟨(ad298.add (((ji2)).toNat * 4)).block, (ad298.add (((ji2)).toNat * 4)).off + 2, none⟩ = some (.int .i64 ((rd_T64 l0_0 (ji2)).f2)) ∧ w12.cell? ⟨(ad298.add (((ji2)).toNat * 4)).block, (ad298.add (((ji2)).toNat * 4)).off + 3, none⟩ = some (.bool ((rd_T64 l0_0 (ji2)).f3)) ∧ w12.cell? (ad298.add ((a0_1).toNat * 4)) = some (.int .i64 ((rd_T64 l0_0 a0_1).f0)) ∧ w12.cell? ⟨(ad298.add ((a0_1).toNat * 4)).block, (ad298.add ((a0_1).toNat * 4)).off + 1, none⟩ = some (.int .i64 ((rd_T64 l0_0 a0_1).f1)) ∧ w12.cell? ⟨(ad298.add ((a0_1).toNat * 4)).block, (ad298.add ((a0_1).toNat * 4)).off + 2, none⟩ = some (.int .i64 ((rd_T64 l0_0 a0_1).f2)) ∧ w12.cell? ⟨(ad298.add ((a0_1).toNat * 4)).block, (ad298.add ((a0_1).toNat * 4)).off + 3, none⟩ = some (.bool ((rd_T64 l0_0 a0_1).f3)) := hS_
     refine norm_ (a' := ?_) ?_ ?_
     rotate_left
     ·simp only [putAll, Act.put, List.setIfInBounds_toArray, List.set_cons_zero, List.set_cons_succ]
      rfl
     refine one_ (i := 15) (N := none) #[true, true, true, true, true, true, true, true, true, true, true, true, true, true, true, true, false] rfl rfl (one_of HT_.out (by kernel_rfl)) (by decide) (fun K hK => ?_)
     have hs13 : w12.cell? ⟨gb300, 0, none⟩ = some (.int .i64 0) := (blk_cell BK300.out 0).trans rfl
     have hfs13 := blk_frozen BK300.out 0
     have hns13_0 := NB297_300.out
     have hns13_2 := NB301_300.out
     have hms13_0 := NB300_297.out
     have hms13_2 := NB300_301.out
     have hs14 : w12.cell? ⟨gb300, 1, none⟩ = some (.int .i64 0) := (blk_cell BK300.out 1).trans rfl
     have hfs14 := blk_frozen BK300.out 1
     have hns14_0 := NB297_300.out
     have hns14_2 := NB301_300.out
     have hms14_0 := NB300_297.out
     have hms14_2 := NB300_301.out
     have hs15 : w12.cell? ⟨gb300, 2, none⟩ = some (.int .i64 0) := (blk_cell BK300.out 2).trans rfl
     have hfs15 := blk_frozen BK300.out 2
     have hns15_0 := NB297_300.out
     have hns15_2 := NB301_300.out
     have hms15_0 := NB300_297.out
     have hms15_2 := NB300_301.out
     have hs16 : w12.cell? ⟨gb300, 3, none⟩ = some (.bool false) := (blk_cell BK300.out 3).trans rfl
     have hfs16 := blk_frozen BK300.out 3
     have hns16_0 := NB297_300.out
     have hns16_2 := NB301_300.out
     have hms16_0 := NB300_297.out
     have hms16_2 := NB300_301.out
     refine skip_ (w1 := ?_) (by rfl) rfl ?_ ?_
     rotate_left
     ·go_simp
      rfl
     refine hK.out _ _ ⟨((cell_far (p := ⟨gb300, _, none⟩) NB297_300.out _).trans (((cell_far (p := ⟨gb300, _, none⟩) NB297_300.out _).trans (((cell_far (p := ⟨gb300, _, none⟩) NB297_300.out _).trans (((cell_far (p := ⟨gb300, _, none⟩) NB297_300.out _).trans (hHeld.1)))))))), ((cell_far (p := ⟨gb300, _, none⟩) NB297_300.out _).trans (((cell_far (p := ⟨gb300, _, none⟩) NB297_300.out _).trans (((cell_far (p := ⟨gb300, _, none⟩) NB297_300.out _).trans (((cell_far (p := ⟨gb300, _, none⟩) NB297_300.out _).trans (hHeld.2.1)))))))), ((cell_far (p := ⟨gb300, _, none⟩) NB297_300.out _).trans (((cell_far (p := ⟨gb300, _, none⟩) NB297_300.out _).trans (((cell_far (p := ⟨gb300, _, none⟩) NB297_300.out _).trans (((cell_far (p := ⟨gb300, _, none⟩) NB297_300.out _).trans (hHeld.2.2.1)))))))), ((cell_far (p := ⟨gb300, _, none⟩) NB297_300.out _).trans (((cell_far (p := ⟨gb300, _, none⟩) NB297_300.out _).trans (((cell_far (p := ⟨gb300, _, none⟩) NB297_300.out _).trans (((cell_far (p := ⟨gb300, _, none⟩) NB297_300.out _).trans (hHeld.2.2.2.1)))))))), ((cell_far (p := ⟨gb300, _, none⟩) NB297_300.out _).trans (((cell_far (p := ⟨gb300, _, none⟩) NB297_300.out _).trans (((cell_far (p := ⟨gb300, _, none⟩) NB297_300.out _).trans (((cell_far (p := ⟨gb300, _, none⟩) NB297_300.out _).trans (hHeld.2.2.2.2.1)))))))), ((cell_far (p := ⟨gb300, _, none⟩) NB297_300.out _).trans (((cell_far (p := ⟨gb300, _, none⟩) NB297_300.out _).trans (((cell_far (p := ⟨gb300, _, none⟩) NB297_300.out _).trans (((cell_far (p := ⟨gb300, _, none⟩) NB297_300.out _).trans (hHeld.2.2.2.2.2.1)))))))), ((cell_far (p := ⟨gb300, _, none⟩) NB297_300.out _).trans (((cell_far (p := ⟨gb300, _, none⟩) NB297_300.out _).trans (((cell_far (p := ⟨gb300, _, none⟩) NB297_300.out _).trans (((cell_far (p := ⟨gb300, _, none⟩) NB297_300.out _).trans (hHeld.2.2.2.2.2.2.1)))))))), ((cell_far (p := ⟨gb300, _, none⟩) (by first | exact Nat.ne_of_lt (Nat.lt_of_lt_of_le (by have := World.block_lt_of_cell? _ _ hw298_0; first | rwa [add_block] at this | exact this) GW300.out) | (rw [add_block]; exact Nat.ne_of_lt (Nat.lt_of_lt_of_le (by have := World.block_lt_of_cell? _ _ hw298_0; first | rwa [add_block] at this | exact this) GW300.out)) | (show (Addr.add _ _).block ≠ _; rw [add_block]; exact Nat.ne_of_lt (Nat.lt_of_lt_of_le (by have := World.block_lt_of_cell? _ _ hw298_0; first | rwa [add_block] at this | exact this) GW300.out)) | (dsimp only; exact Nat.ne_of_lt (Nat.lt_of_lt_of_le (by have := World.block_lt_of_cell? _ _ hw298_0; first | rwa [add_block] at this | exact this) GW300.out))) _).trans (((cell_far (p := ⟨gb300, _, none⟩) (by first | exact Nat.ne_of_lt (Nat.lt_of_lt_of_le (by have := World.block_lt_of_cell? _ _ hw298_0; first | rwa [add_block] at this | exact this) GW300.out) | (rw [add_block]; exact Nat.ne_of_lt (Nat.lt_of_lt_of_le (by have := World.block_lt_of_cell? _ _ hw298_0; first | rwa [add_block] at this | exact this) GW300.out)) | (show (Addr.add _ _).block ≠ _; rw [add_block]; exact Nat.ne_of_lt (Nat.lt_of_lt_of_le (by have := World.block_lt_of_cell? _ _ hw298_0; first | rwa [add_block] at this | exact this) GW300.out)) | (dsimp only; exact Nat.ne_of_lt (Nat.lt_of_lt_of_le (by have := World.block_lt_of_cell? _ _ hw298_0; first | rwa [add_block] at this | exact this) GW300.out))) _).trans (((cell_far (p := ⟨gb300, _, none⟩) (by first | exact Nat.ne_of_lt (Nat.lt_of_lt_of_le (by have := World.block_lt_of_cell? _ _ hw298_0; first | rwa [add_block] at this | exact this) GW300.out) | (rw [add_block]; exact Nat.ne_of_lt (Nat.lt_of_lt_of_le (by have := World.block_lt_of_cell? _ _ hw298_0; first | rwa [add_block] at this | exact this) GW300.out)) | (show (Addr.add _ _).block ≠ _; rw [add_block]; exact Nat.ne_of_lt (Nat.lt_of_lt_of_le (by have := World.block_lt_of_cell? _ _ hw298_0; first | rwa [add_block] at this | exact this) GW300.out)) | (dsimp only; exact Nat.ne_of_lt (Nat.lt_of_lt_of_le (by have := World.block_lt_of_cell? _ _ hw298_0; first | rwa [add_block] at this | exact this) GW300.out))) _).trans (((cell_far (p := ⟨gb300, _, none⟩) (by first | exact Nat.ne_of_lt (Nat.lt_of_lt_of_le (by have := World.block_lt_of_cell? _ _ hw298_0; first | rwa [add_block] at this | exact this) GW300.out) | (rw [add_block]; exact Nat.ne_of_lt (Nat.lt_of_lt_of_le (by have := World.block_lt_of_cell? _ _ hw298_0; first | rwa [add_block] at this | exact this) GW300.out)) | (show (Addr.add _ _).block ≠ _; rw [add_block]; exact Nat.ne_of_lt (Nat.lt_of_lt_of_le (by have := World.block_lt_of_cell? _ _ hw298_0; first | rwa [add_block] at this | exact this) GW300.out)) | (dsimp only; exact Nat.ne_of_lt (Nat.lt_of_lt_of_le (by have := World.block_lt_of_cell? _ _ hw298_0; first | rwa [add_block] at this | exact this) GW300.out))) _).trans (hHeld.2.2.2.2.2.2.2.1)))))))), ((cell_far (p := ⟨gb300, _, none⟩) (by first | exact Nat.ne_of_lt (Nat.lt_of_lt_of_le (by have := World.block_lt_of_cell? _ _ hw298_1; first | rwa [add_block] at this | exact this) GW300.out) | (rw [add_block]; exact Nat.ne_of_lt (Nat.lt_of_lt_of_le (by have := World.block_lt_of_cell? _ _ hw298_1; first | rwa [add_block] at this | exact this) GW300.out)) | (show (Addr.add _ _).block ≠ _; rw [add_block]; exact Nat.ne_of_lt (Nat.lt_of_lt_of_le (by have := World.block_lt_of_cell? _ _ hw298_1; first | rwa [add_block] at this | exact this) GW300.out)) | (dsimp only; exact Nat.ne_of_lt (Nat.lt_of_lt_of_le (by have := World.block_lt_of_cell? _ _ hw298_1; first | rwa [add_block] at this | exact this) GW300.out))) _).trans (((cell_far (p := ⟨gb300, _, none⟩) (by first | exact Nat.ne_of_lt (Nat.lt_of_lt_of_le (by have := World.block_lt_of_cell? _ _ hw298_1; first | rwa [add_block] at this | exact this) GW300.out) | (rw [add_block]; exact Nat.ne_of_lt (Nat.lt_of_lt_of_le (by have := World.block_lt_of_cell? _ _ hw298_1; first | rwa [add_block] at this | exact this) GW300.out)) | (show (Addr.add _ _).block ≠ _; rw [add_block]; exact Nat.ne_of_lt (Nat.lt_of_lt_of_le (by have := World.block_lt_of_cell? _ _ hw298_1; first | rwa [add_block] at this | exact this) GW300.out)) | (dsimp only; exact Nat.ne_of_lt (Nat.lt_of_lt_of_le (by have := World.block_lt_of_cell? _ _ hw298_1; first | rwa [add_block] at this | exact this) GW300.out))) _).trans (((cell_far (p := ⟨gb300, _, none⟩) (by first | exact Nat.ne_of_lt (Nat.lt_of_lt_of_le (by have := World.block_lt_of_cell? _ _ hw298_1; first | rwa [add_block] at this | exact this) GW300.out) | (rw [add_block]; exact Nat.ne_of_lt (Nat.lt_of_lt_of_le (by have := World.block_lt_of_cell? _ _ hw298_1; first | rwa [add_block] at this | exact this) GW300.out)) | (show (Addr.add _ _).block ≠ _; rw [add_block]; exact Nat.ne_of_lt (Nat.lt_of_lt_of_le (by have := World.block_lt_of_cell? _ _ hw298_1; first | rwa [add_block] at this | exact this) GW300.out)) | (dsimp only; exact Nat.ne_of_lt (Nat.lt_of_lt_of_le (by have := World.block_lt_of_cell? _ _ hw298_1; first | rwa [add_block] at this | exact this) GW300.out))) _).trans (((cell_far (p := ⟨gb300, _, none⟩) (by first | exact Nat.ne_of_lt (Nat.lt_of_lt_of_le (by have := World.block_lt_of_cell? _ _ hw298_1; first | rwa [add_block] at this | exact this) GW300.out) | (rw [add_block]; exact Nat.ne_of_lt (Nat.lt_of_lt_of_le (by have := World.block_lt_of_cell? _ _ hw298_1; first | rwa [add_block] at this | exact this) GW300.out)) | (show (Addr.add _ _).block ≠ _; rw [add_block]; exact Nat.ne_of_lt (Nat.lt_of_lt_of_le (by have := World.block_lt_of_cell? _ _ hw298_1; first | rwa [add_block] at this | exact this) GW300.out)) | (dsimp only; exact Nat.ne_of_lt (Nat.lt_of_lt_of_le (by have := World.block_lt_of_cell? _ _ hw298_1; first | rwa [add_block] at this | exact this) GW300.out))) _).trans (hHeld.2.2.2.2.2.2.2.2.1)))))))), ((cell_far (p := ⟨gb300, _, none⟩) (by first | exact Nat.ne_of_lt (Nat.lt_of_lt_of_le (by have := World.block_lt_of_cell? _ _ hw298_2; first | rwa [add_block] at this | exact this) GW300.out) | (rw [add_block]; exact Nat.ne_of_lt (Nat.lt_of_lt_of_le (by have := World.block_lt_of_cell? _ _ hw298_2; first | rwa [add_block] at this | exact this) GW300.out)) | (show (Addr.add _ _).block ≠ _; rw [add_block]; exact Nat.ne_of_lt (Nat.lt_of_lt_of_le (by have := World.block_lt_of_cell? _ _ hw298_2; first | rwa [add_block] at this | exact this) GW300.out)) | (dsimp only; exact Nat.ne_of_lt (Nat.lt_of_lt_of_le (by have := World.block_lt_of_cell? _ _ hw298_2; first | rwa [add_block] at this | exact this) GW300.out))) _).trans (((cell_far (p := ⟨gb300, _, none⟩) (by first | exact Nat.ne_of_lt (Nat.lt_of_lt_of_le (by have := World.block_lt_of_cell? _ _ hw298_2; first | rwa [add_block] at this | exact this) GW300.out) | (rw [add_block]; exact Nat.ne_of_lt (Nat.lt_of_lt_of_le (by have := World.block_lt_of_cell? _ _ hw298_2; first | rwa [add_block] at this | exact this) GW300.out)) | (show (Addr.add _ _).block ≠ _; rw [add_block]; exact Nat.ne_of_lt (Nat.lt_of_lt_of_le (by have := World.block_lt_of_cell? _ _ hw298_2; first | rwa [add_block] at this | exact this) GW300.out)) | (dsimp only; exact Nat.ne_of_lt (Nat.lt_of_lt_of_le (by have := World.block_lt_of_cell? _ _ hw298_2; first | rwa [add_block] at this | exact this) GW300.out))) _).trans (((cell_far (p := ⟨gb300, _, none⟩) (by first | exact Nat.ne_of_lt (Nat.lt_of_lt_of_le (by have := World.block_lt_of_cell? _ _ hw298_2; first | rwa [add_block] at this | exact this) GW300.out) | (rw [add_block]; exact Nat.ne_of_lt (Nat.lt_of_lt_of_le (by have := World.block_lt_of_cell? _ _ hw298_2; first | rwa [add_block] at this | exact this) GW300.out)) | (show (Addr.add _ _).block ≠ _; rw [add_block]; exact Nat.ne_of_lt (Nat.lt_of_lt_of_le (by have := World.block_lt_of_cell? _ _ hw298_2; first | rwa [add_block] at this | exact this) GW300.out)) | (dsimp only; exact Nat.ne_of_lt (Nat.lt_of_lt_of_le (by have := World.block_lt_of_cell? _ _ hw298_2; first | rwa [add_block] at this | exact this) GW300.out))) _).trans (((cell_far (p := ⟨gb300, _, none⟩) (by first | exact Nat.ne_of_lt (Nat.lt_of_lt_of_le (by have := World.block_lt_of_cell? _ _ hw298_2; first | rwa [add_block] at this | exact this) GW300.out) | (rw [add_block]; exact Nat.ne_of_lt (Nat.lt_of_lt_of_le (by have := World.block_lt_of_cell? _ _ hw298_2; first | rwa [add_block] at this | exact this) GW300.out)) | (show (Addr.add _ _).block ≠ _; rw [add_block]; exact Nat.ne_of_lt (Nat.lt_of_lt_of_le (by have := World.block_lt_of_cell? _ _ hw298_2; first | rwa [add_block] at this | exact this) GW300.out)) | (dsimp only; exact Nat.ne_of_lt (Nat.lt_of_lt_of_le (by have := World.block_lt_of_cell? _ _ hw298_2; first | rwa [add_block] at this | exact this) GW300.out))) _).trans (hHeld.2.2.2.2.2.2.2.2.2.1)))))))), ((cell_far (p := ⟨gb300, _, none⟩) (by first | exact Nat.ne_of_lt (Nat.lt_of_lt_of_le (by have := World.block_lt_of_cell? _ _ hw298_3; first | rwa [add_block] at this | exact this) GW300.out) | (rw [add_block]; exact Nat.ne_of_lt (Nat.lt_of_lt_of_le (by have := World.block_lt_of_cell? _ _ hw298_3; first | rwa [add_block] at this | exact this) GW300.out)) | (show (Addr.add _ _).block ≠ _; rw [add_block]; exact Nat.ne_of_lt (Nat.lt_of_lt_of_le (by have := World.block_lt_of_cell? _ _ hw298_3; first | rwa [add_block] at this | exact this) GW300.out)) | (dsimp only; exact Nat.ne_of_lt (Nat.lt_of_lt_of_le (by have := World.block_lt_of_cell? _ _ hw298_3; first | rwa [add_block] at this | exact this) GW300.out))) _).trans (((cell_far (p := ⟨gb300, _, none⟩) (by first | exact Nat.ne_of_lt (Nat.lt_of_lt_of_le (by have := World.block_lt_of_cell? _ _ hw298_3; first | rwa [add_block] at this | exact this) GW300.out) | (rw [add_block]; exact Nat.ne_of_lt (Nat.lt_of_lt_of_le (by have := World.block_lt_of_cell? _ _ hw298_3; first | rwa [add_block] at this | exact this) GW300.out)) | (show (Addr.add _ _).block ≠ _; rw [add_block]; exact Nat.ne_of_lt (Nat.lt_of_lt_of_le (by have := World.block_lt_of_cell? _ _ hw298_3; first | rwa [add_block] at this | exact this) GW300.out)) | (dsimp only; exact Nat.ne_of_lt (Nat.lt_of_lt_of_le (by have := World.block_lt_of_cell? _ _ hw298_3; first | rwa [add_block] at this | exact this) GW300.out))) _).trans (((cell_far (p := ⟨gb300, _, none⟩) (by first | exact Nat.ne_of_lt (Nat.lt_of_lt_of_le (by have := World.block_lt_of_cell? _ _ hw298_3; first | rwa [add_block] at this | exact this) GW300.out) | (rw [add_block]; exact Nat.ne_of_lt (Nat.lt_of_lt_of_le (by have := World.block_lt_of_cell? _ _ hw298_3; first | rwa [add_block] at this | exact this) GW300.out)) | (show (Addr.add _ _).block ≠ _; rw [add_block]; exact Nat.ne_of_lt (Nat.lt_of_lt_of_le (by have := World.block_lt_of_cell? _ _ hw298_3; first | rwa [add_block] at this | exact this) GW300.out)) | (dsimp only; exact Nat.ne_of_lt (Nat.lt_of_lt_of_le (by have := World.block_lt_of_cell? _ _ hw298_3; first | rwa [add_block] at this | exact this) GW300.out))) _).trans (((cell_far (p := ⟨gb300, _, none⟩) (by first | exact Nat.ne_of_lt (Nat.lt_of_lt_of_le (by have := World.block_lt_of_cell? _ _ hw298_3; first | rwa [add_block] at this | exact this) GW300.out) | (rw [add_block]; exact Nat.ne_of_lt (Nat.lt_of_lt_of_le (by have := World.block_lt_of_cell? _ _ hw298_3; first | rwa [add_block] at this | exact this) GW300.out)) | (show (Addr.add _ _).block ≠ _; rw [add_block]; exact Nat.ne_of_lt (Nat.lt_of_lt_of_le (by have := World.block_lt_of_cell? _ _ hw298_3; first | rwa [add_block] at this | exact this) GW300.out)) | (dsimp only; exact Nat.ne_of_lt (Nat.lt_of_lt_of_le (by have := World.block_lt_of_cell? _ _ hw298_3; first | rwa [add_block] at this | exact this) GW300.out))) _).trans (hHeld.2.2.2.2.2.2.2.2.2.2.1)))))))), ((cell_far (p := ⟨gb300, _, none⟩) (by first | exact Nat.ne_of_lt (Nat.lt_of_lt_of_le (by have := World.block_lt_of_cell? _ _ hw299_0; first | rwa [add_block] at this | exact this) GW300.out) | (rw [add_block]; exact Nat.ne_of_lt (Nat.lt_of_lt_of_le (by have := World.block_lt_of_cell? _ _ hw299_0; first | rwa [add_block] at this | exact this) GW300.out)) | (show (Addr.add _ _).block ≠ _; rw [add_block]; exact Nat.ne_of_lt (Nat.lt_of_lt_of_le (by have := World.block_lt_of_cell? _ _ hw299_0; first | rwa [add_block] at this | exact this) GW300.out)) | (dsimp only; exact Nat.ne_of_lt (Nat.lt_of_lt_of_le (by have := World.block_lt_of_cell? _ _ hw299_0; first | rwa [add_block] at this | exact this) GW300.out))) _).trans (((cell_far (p := ⟨gb300, _, none⟩) (by first | exact Nat.ne_of_lt (Nat.lt_of_lt_of_le (by have := World.block_lt_of_cell? _ _ hw299_0; first | rwa [add_block] at this | exact this) GW300.out) | (rw [add_block]; exact Nat.ne_of_lt (Nat.lt_of_lt_of_le (by have := World.block_lt_of_cell? _ _ hw299_0; first | rwa [add_block] at this | exact this) GW300.out)) | (show (Addr.add _ _).block ≠ _; rw [add_block]; exact Nat.ne_of_lt (Nat.lt_of_lt_of_le (by have := World.block_lt_of_cell? _ _ hw299_0; first | rwa [add_block] at this | exact this) GW300.out)) | (dsimp only; exact Nat.ne_of_lt (Nat.lt_of_lt_of_le (by have := World.block_lt_of_cell? _ _ hw299_0; first | rwa [add_block] at this | exact this) GW300.out))) _).trans (((cell_far (p := ⟨gb300, _, none⟩) (by first | exact Nat.ne_of_lt (Nat.lt_of_lt_of_le (by have := World.block_lt_of_cell? _ _ hw299_0; first | rwa [add_block] at this | exact this) GW300.out) | (rw [add_block]; exact Nat.ne_of_lt (Nat.lt_of_lt_of_le (by have := World.block_lt_of_cell? _ _ hw299_0; first | rwa [add_block] at this | exact this) GW300.out)) | (show (Addr.add _ _).block ≠ _; rw [add_block]; exact Nat.ne_of_lt (Nat.lt_of_lt_of_le (by have := World.block_lt_of_cell? _ _ hw299_0; first | rwa [add_block] at this | exact this) GW300.out)) | (dsimp only; exact Nat.ne_of_lt (Nat.lt_of_lt_of_le (by have := World.block_lt_of_cell? _ _ hw299_0; first | rwa [add_block] at this | exact this) GW300.out))) _).trans (((cell_far (p := ⟨gb300, _, none⟩) (by first | exact Nat.ne_of_lt (Nat.lt_of_lt_of_le (by have := World.block_lt_of_cell? _ _ hw299_0; first | rwa [add_block] at this | exact this) GW300.out) | (rw [add_block]; exact Nat.ne_of_lt (Nat.lt_of_lt_of_le (by have := World.block_lt_of_cell? _ _ hw299_0; first | rwa [add_block] at this | exact this) GW300.out)) | (show (Addr.add _ _).block ≠ _; rw [add_block]; exact Nat.ne_of_lt (Nat.lt_of_lt_of_le (by have := World.block_lt_of_cell? _ _ hw299_0; first | rwa [add_block] at this | exact this) GW300.out)) | (dsimp only; exact Nat.ne_of_lt (Nat.lt_of_lt_of_le (by have := World.block_lt_of_cell? _ _ hw299_0; first | rwa [add_block] at this | exact this) GW300.out))) _).trans (hHeld.2.2.2.2.2.2.2.2.2.2.2.1)))))))), ((cell_far (p := ⟨gb300, _, none⟩) (by first | exact Nat.ne_of_lt (Nat.lt_of_lt_of_le (by have := World.block_lt_of_cell? _ _ hw299_1; first | rwa [add_block] at this | exact this) GW300.out) | (rw [add_block]; exact Nat.ne_of_lt (Nat.lt_of_lt_of_le (by have := World.block_lt_of_cell? _ _ hw299_1; first | rwa [add_block] at this | exact this) GW300.out)) | (show (Addr.add _ _).block ≠ _; rw [add_block]; exact Nat.ne_of_lt (Nat.lt_of_lt_of_le (by have := World.block_lt_of_cell? _ _ hw299_1; first | rwa [add_block] at this | exact this) GW300.out)) | (dsimp only; exact Nat.ne_of_lt (Nat.lt_of_lt_of_le (by have := World.block_lt_of_cell? _ _ hw299_1; first | rwa [add_block] at this | exact this) GW300.out))) _).trans (((cell_far (p := ⟨gb300, _, none⟩) (by first | exact Nat.ne_of_lt (Nat.lt_of_lt_of_le (by have := World.block_lt_of_cell? _ _ hw299_1; first | rwa [add_block] at this | exact this) GW300.out) | (rw [add_block]; exact Nat.ne_of_lt (Nat.lt_of_lt_of_le (by have := World.block_lt_of_cell? _ _ hw299_1; first | rwa [add_block] at this | exact this) GW300.out)) | (show (Addr.add _ _).block ≠ _; rw [add_block]; exact Nat.ne_of_lt (Nat.lt_of_lt_of_le (by have := World.block_lt_of_cell? _ _ hw299_1; first | rwa [add_block] at this | exact this) GW300.out)) | (dsimp only; exact Nat.ne_of_lt (Nat.lt_of_lt_of_le (by have := World.block_lt_of_cell? _ _ hw299_1; first | rwa [add_block] at this | exact this) GW300.out))) _).trans (((cell_far (p := ⟨gb300, _, none⟩) (by first | exact Nat.ne_of_lt (Nat.lt_of_lt_of_le (by have := World.block_lt_of_cell? _ _ hw299_1; first | rwa [add_block] at this | exact this) GW300.out) | (rw [add_block]; exact Nat.ne_of_lt (Nat.lt_of_lt_of_le (by have := World.block_lt_of_cell? _ _ hw299_1; first | rwa [add_block] at this | exact this) GW300.out)) | (show (Addr.add _ _).block ≠ _; rw [add_block]; exact Nat.ne_of_lt (Nat.lt_of_lt_of_le (by have := World.block_lt_of_cell? _ _ hw299_1; first | rwa [add_block] at this | exact this) GW300.out)) | (dsimp only; exact Nat.ne_of_lt (Nat.lt_of_lt_of_le (by have := World.block_lt_of_cell? _ _ hw299_1; first | rwa [add_block] at this | exact this) GW300.out))) _).trans (((cell_far (p := ⟨gb300, _, none⟩) (by first | exact Nat.ne_of_lt (Nat.lt_of_lt_of_le (by have := World.block_lt_of_cell? _ _ hw299_1; first | rwa [add_block] at this | exact this) GW300.out) | (rw [add_block]; exact Nat.ne_of_lt (Nat.lt_of_lt_of_le (by have := World.block_lt_of_cell? _ _ hw299_1; first | rwa [add_block] at this | exact this) GW300.out)) | (show (Addr.add _ _).block ≠ _; rw [add_block]; exact Nat.ne_of_lt (Nat.lt_of_lt_of_le (by have := World.block_lt_of_cell? _ _ hw299_1; first | rwa [add_block] at this | exact this) GW300.out)) | (dsimp only; exact Nat.ne_of_lt (Nat.lt_of_lt_of_le (by have := World.block_lt_of_cell? _ _ hw299_1; first | rwa [add_block] at this | exact this) GW300.out))) _).trans (hHeld.2.2.2.2.2.2.2.2.2.2.2.2.1)))))))), ((cell_far (p := ⟨gb300, _, none⟩) (by first | exact Nat.ne_of_lt (Nat.lt_of_lt_of_le (by have := World.block_lt_of_cell? _ _ hw299_2; first | rwa [add_block] at this | exact this) GW300.out) | (rw [add_block]; exact Nat.ne_of_lt (Nat.lt_of_lt_of_le (by have := World.block_lt_of_cell? _ _ hw299_2; first | rwa [add_block] at this | exact this) GW300.out)) | (show (Addr.add _ _).block ≠ _; rw [add_block]; exact Nat.ne_of_lt (Nat.lt_of_lt_of_le (by have := World.block_lt_of_cell? _ _ hw299_2; first | rwa [add_block] at this | exact this) GW300.out)) | (dsimp only; exact Nat.ne_of_lt (Nat.lt_of_lt_of_le (by have := World.block_lt_of_cell? _ _ hw299_2; first | rwa [add_block] at this | exact this) GW300.out))) _).trans (((cell_far (p := ⟨gb300, _, none⟩) (by first | exact Nat.ne_of_lt (Nat.lt_of_lt_of_le (by have := World.block_lt_of_cell? _ _ hw299_2; first | rwa [add_block] at this | exact this) GW300.out) | (rw [add_block]; exact Nat.ne_of_lt (Nat.lt_of_lt_of_le (by have := World.block_lt_of_cell? _ _ hw299_2; first | rwa [add_block] at this | exact this) GW300.out)) | (show (Addr.add _ _).block ≠ _; rw [add_block]; exact Nat.ne_of_lt (Nat.lt_of_lt_of_le (by have := World.block_lt_of_cell? _ _ hw299_2; first | rwa [add_block] at this | exact this) GW300.out)) | (dsimp only; exact Nat.ne_of_lt (Nat.lt_of_lt_of_le (by have := World.block_lt_of_cell? _ _ hw299_2; first | rwa [add_block] at this | exact this) GW300.out))) _).trans (((cell_far (p := ⟨gb300, _, none⟩) (by first | exact Nat.ne_of_lt (Nat.lt_of_lt_of_le (by have := World.block_lt_of_cell? _ _ hw299_2; first | rwa [add_block] at this | exact this) GW300.out) | (rw [add_block]; exact Nat.ne_of_lt (Nat.lt_of_lt_of_le (by have := World.block_lt_of_cell? _ _ hw299_2; first | rwa [add_block] at this | exact this) GW300.out)) | (show (Addr.add _ _).block ≠ _; rw [add_block]; exact Nat.ne_of_lt (Nat.lt_of_lt_of_le (by have := World.block_lt_of_cell? _ _ hw299_2; first | rwa [add_block] at this | exact this) GW300.out)) | (dsimp only; exact Nat.ne_of_lt (Nat.lt_of_lt_of_le (by have := World.block_lt_of_cell? _ _ hw299_2; first | rwa [add_block] at this | exact this) GW300.out))) _).trans (((cell_far (p := ⟨gb300, _, none⟩) (by first | exact Nat.ne_of_lt (Nat.lt_of_lt_of_le (by have := World.block_lt_of_cell? _ _ hw299_2; first | rwa [add_block] at this | exact this) GW300.out) | (rw [add_block]; exact Nat.ne_of_lt (Nat.lt_of_lt_of_le (by have := World.block_lt_of_cell? _ _ hw299_2; first | rwa [add_block] at this | exact this) GW300.out)) | (show (Addr.add _ _).block ≠ _; rw [add_block]; exact Nat.ne_of_lt (Nat.lt_of_lt_of_le (by have := World.block_lt_of_cell? _ _ hw299_2; first | rwa [add_block] at this | exact this) GW300.out)) | (dsimp only; exact Nat.ne_of_lt (Nat.lt_of_lt_of_le (by have := World.block_lt_of_cell? _ _ hw299_2; first | rwa [add_block] at this | exact this) GW300.out))) _).trans (hHeld.2.2.2.2.2.2.2.2.2.2.2.2.2.1)))))))), ((cell_far (p := ⟨gb300, _, none⟩) (by first | exact Nat.ne_of_lt (Nat.lt_of_lt_of_le (by have := World.block_lt_of_cell? _ _ hw299_3; first | rwa [add_block] at this | exact this) GW300.out) | (rw [add_block]; exact Nat.ne_of_lt (Nat.lt_of_lt_of_le (by have := World.block_lt_of_cell? _ _ hw299_3; first | rwa [add_block] at this | exact this) GW300.out)) | (show (Addr.add _ _).block ≠ _; rw [add_block]; exact Nat.ne_of_lt (Nat.lt_of_lt_of_le (by have := World.block_lt_of_cell? _ _ hw299_3; first | rwa [add_block] at this | exact this) GW300.out)) | (dsimp only; exact Nat.ne_of_lt (Nat.lt_of_lt_of_le (by have := World.block_lt_of_cell? _ _ hw299_3; first | rwa [add_block] at this | exact this) GW300.out))) _).trans (((cell_far (p := ⟨gb300, _, none⟩) (by first | exact Nat.ne_of_lt (Nat.lt_of_lt_of_le (by have := World.block_lt_of_cell? _ _ hw299_3; first | rwa [add_block] at this | exact this) GW300.out) | (rw [add_block]; exact Nat.ne_of_lt (Nat.lt_of_lt_of_le (by have := World.block_lt_of_cell? _ _ hw299_3; first | rwa [add_block] at this | exact this) GW300.out)) | (show (Addr.add _ _).block ≠ _; rw [add_block]; exact Nat.ne_of_lt (Nat.lt_of_lt_of_le (by have := World.block_lt_of_cell? _ _ hw299_3; first | rwa [add_block] at this | exact this) GW300.out)) | (dsimp only; exact Nat.ne_of_lt (Nat.lt_of_lt_of_le (by have := World.block_lt_of_cell? _ _ hw299_3; first | rwa [add_block] at this | exact this) GW300.out))) _).trans (((cell_far (p := ⟨gb300, _, none⟩) (by first | exact Nat.ne_of_lt (Nat.lt_of_lt_of_le (by have := World.block_lt_of_cell? _ _ hw299_3; first | rwa [add_block] at this | exact this) GW300.out) | (rw [add_block]; exact Nat.ne_of_lt (Nat.lt_of_lt_of_le (by have := World.block_lt_of_cell? _ _ hw299_3; first | rwa [add_block] at this | exact this) GW300.out)) | (show (Addr.add _ _).block ≠ _; rw [add_block]; exact Nat.ne_of_lt (Nat.lt_of_lt_of_le (by have := World.block_lt_of_cell? _ _ hw299_3; first | rwa [add_block] at this | exact this) GW300.out)) | (dsimp only; exact Nat.ne_of_lt (Nat.lt_of_lt_of_le (by have := World.block_lt_of_cell? _ _ hw299_3; first | rwa [add_block] at this | exact this) GW300.out))) _).trans (((cell_far (p := ⟨gb300, _, none⟩) (by first | exact Nat.ne_of_lt (Nat.lt_of_lt_of_le (by have := World.block_lt_of_cell? _ _ hw299_3; first | rwa [add_block] at this | exact this) GW300.out) | (rw [add_block]; exact Nat.ne_of_lt (Nat.lt_of_lt_of_le (by have := World.block_lt_of_cell? _ _ hw299_3; first | rwa [add_block] at this | exact this) GW300.out)) | (show (Addr.add _ _).block ≠ _; rw [add_block]; exact Nat.ne_of_lt (Nat.lt_of_lt_of_le (by have := World.block_lt_of_cell? _ _ hw299_3; first | rwa [add_block] at this | exact this) GW300.out)) | (dsimp only; exact Nat.ne_of_lt (Nat.lt_of_lt_of_le (by have := World.block_lt_of_cell? _ _ hw299_3; first | rwa [add_block] at this | exact this) GW300.out))) _).trans (hHeld.2.2.2.2.2.2.2.2.2.2.2.2.2.2))))))))⟩ (fun hHeld => ?_)
     clear hK K
     refine one_ (i := 16) (N := none) #[true, true, true, true, true, true, true, true, true, true, true, true, true, true, true, true, true] rfl rfl (one_of HT_.out (by kernel_rfl)) (by decide) (fun K hK => ?_)
     have hs17 : w12.cell? ⟨gb301, 0, none⟩ = some (.int .i64 0) := (blk_cell BK301.out 0).trans rfl
     have hfs17 := blk_frozen BK301.out 0
     have hns17_0 := NB297_301.out
     have hns17_1 := NB300_301.out
     have hms17_0 := NB301_297.out
     have hms17_1 := NB301_300.out
     have hs18 : w12.cell? ⟨gb301, 1, none⟩ = some (.int .i64 0) := (blk_cell BK301.out 1).trans rfl
     have hfs18 := blk_frozen BK301.out 1
     have hns18_0 := NB297_301.out
     have hns18_1 := NB300_301.out
     have hms18_0 := NB301_297.out
     have hms18_1 := NB301_300.out
     have hs19 : w12.cell? ⟨gb301, 2, none⟩ = some (.int .i64 0) := (blk_cell BK301.out 2).trans rfl
     have hfs19 := blk_frozen BK301.out 2
     have hns19_0 := NB297_301.out
     have hns19_1 := NB300_301.out
     have hms19_0 := NB301_297.out
     have hms19_1 := NB301_300.out
     have hs20 : w12.cell? ⟨gb301, 3, none⟩ = some (.bool false) := (blk_cell BK301.out 3).trans rfl
     have hfs20 := blk_frozen BK301.out 3
     have hns20_0 := NB297_301.out
     have hns20_1 := NB300_301.out
     have hms20_0 := NB301_297.out
     have hms20_1 := NB301_300.out
     refine skip_ (w1 := ?_) (by rfl) rfl ?_ ?_
     rotate_left
     ·go_simp
      rfl
     refine hK.out _ _ ⟨((cell_far (p := ⟨gb301, _, none⟩) NB297_301.out _).trans (((cell_far (p := ⟨gb301, _, none⟩) NB297_301.out _).trans (((cell_far (p := ⟨gb301, _, none⟩) NB297_301.out _).trans (((cell_far (p := ⟨gb301, _, none⟩) NB297_301.out _).trans (hHeld.1)))))))), ((cell_far (p := ⟨gb301, _, none⟩) NB297_301.out _).trans (((cell_far (p := ⟨gb301, _, none⟩) NB297_301.out _).trans (((cell_far (p := ⟨gb301, _, none⟩) NB297_301.out _).trans (((cell_far (p := ⟨gb301, _, none⟩) NB297_301.out _).trans (hHeld.2.1)))))))), ((cell_far (p := ⟨gb301, _, none⟩) NB297_301.out _).trans (((cell_far (p := ⟨gb301, _, none⟩) NB297_301.out _).trans (((cell_far (p := ⟨gb301, _, none⟩) NB297_301.out _).trans (((cell_far (p := ⟨gb301, _, none⟩) NB297_301.out _).trans (hHeld.2.2.1)))))))), ((cell_far (p := ⟨gb301, _, none⟩) NB297_301.out _).trans (((cell_far (p := ⟨gb301, _, none⟩) NB297_301.out _).trans (((cell_far (p := ⟨gb301, _, none⟩) NB297_301.out _).trans (((cell_far (p := ⟨gb301, _, none⟩) NB297_301.out _).trans (hHeld.2.2.2.1)))))))), ((cell_far (p := ⟨gb301, _, none⟩) NB297_301.out _).trans (((cell_far (p := ⟨gb301, _, none⟩) NB297_301.out _).trans (((cell_far (p := ⟨gb301, _, none⟩) NB297_301.out _).trans (((cell_far (p := ⟨gb301, _, none⟩) NB297_301.out _).trans (hHeld.2.2.2.2.1)))))))), ((cell_far (p := ⟨gb301, _, none⟩) NB297_301.out _).trans (((cell_far (p := ⟨gb301, _, none⟩) NB297_301.out _).trans (((cell_far (p := ⟨gb301, _, none⟩) NB297_301.out _).trans (((cell_far (p := ⟨gb301, _, none⟩) NB297_301.out _).trans (hHeld.2.2.2.2.2.1)))))))), ((cell_far (p := ⟨gb301, _, none⟩) NB297_301.out _).trans (((cell_far (p := ⟨gb301, _, none⟩) NB297_301.out _).trans (((cell_far (p := ⟨gb301, _, none⟩) NB297_301.out _).trans (((cell_far (p := ⟨gb301, _, none⟩) NB297_301.out _).trans (hHeld.2.2.2.2.2.2.1)))))))), ((cell_far (p := ⟨gb301, _, none⟩) (by first | exact Nat.ne_of_lt (Nat.lt_of_lt_of_le (by have := World.block_lt_of_cell? _ _ hw298_0; first | rwa [add_block] at this | exact this) GW301.out) | (rw [add_block]; exact Nat.ne_of_lt (Nat.lt_of_lt_of_le (by have := World.block_lt_of_cell? _ _ hw298_0; first | rwa [add_block] at this | exact this) GW301.out)) | (show (Addr.add _ _).block ≠ _; rw [add_block]; exact Nat.ne_of_lt (Nat.lt_of_lt_of_le (by have := World.block_lt_of_cell? _ _ hw298_0; first | rwa [add_block] at this | exact this) GW301.out)) | (dsimp only; exact Nat.ne_of_lt (Nat.lt_of_lt_of_le (by have := World.block_lt_of_cell? _ _ hw298_0; first | rwa [add_block] at this | exact this) GW301.out))) _).trans (((cell_far (p := ⟨gb301, _, none⟩) (by first | exact Nat.ne_of_lt (Nat.lt_of_lt_of_le (by have := World.block_lt_of_cell? _ _ hw298_0; first | rwa [add_block] at this | exact this) GW301.out) | (rw [add_block]; exact Nat.ne_of_lt (Nat.lt_of_lt_of_le (by have := World.block_lt_of_cell? _ _ hw298_0; first | rwa [add_block] at this | exact this) GW301.out)) | (show (Addr.add _ _).block ≠ _; rw [add_block]; exact Nat.ne_of_lt (Nat.lt_of_lt_of_le (by have := World.block_lt_of_cell? _ _ hw298_0; first | rwa [add_block] at this | exact this) GW301.out)) | (dsimp only; exact Nat.ne_of_lt (Nat.lt_of_lt_of_le (by have := World.block_lt_of_cell? _ _ hw298_0; first | rwa [add_block] at this | exact this) GW301.out))) _).trans (((cell_far (p := ⟨gb301, _, none⟩) (by first | exact Nat.ne_of_lt (Nat.lt_of_lt_of_le (by have := World.block_lt_of_cell? _ _ hw298_0; first | rwa [add_block] at this | exact this) GW301.out) | (rw [add_block]; exact Nat.ne_of_lt (Nat.lt_of_lt_of_le (by have := World.block_lt_of_cell? _ _ hw298_0; first | rwa [add_block] at this | exact this) GW301.out)) | (show (Addr.add _ _).block ≠ _; rw [add_block]; exact Nat.ne_of_lt (Nat.lt_of_lt_of_le (by have := World.block_lt_of_cell? _ _ hw298_0; first | rwa [add_block] at this | exact this) GW301.out)) | (dsimp only; exact Nat.ne_of_lt (Nat.lt_of_lt_of_le (by have := World.block_lt_of_cell? _ _ hw298_0; first | rwa [add_block] at this | exact this) GW301.out))) _).trans (((cell_far (p := ⟨gb301, _, none⟩) (by first | exact Nat.ne_of_lt (Nat.lt_of_lt_of_le (by have := World.block_lt_of_cell? _ _ hw298_0; first | rwa [add_block] at this | exact this) GW301.out) | (rw [add_block]; exact Nat.ne_of_lt (Nat.lt_of_lt_of_le (by have := World.block_lt_of_cell? _ _ hw298_0; first | rwa [add_block] at this | exact this) GW301.out)) | (show (Addr.add _ _).block ≠ _; rw [add_block]; exact Nat.ne_of_lt (Nat.lt_of_lt_of_le (by have := World.block_lt_of_cell? _ _ hw298_0; first | rwa [add_block] at this | exact this) GW301.out)) | (dsimp only; exact Nat.ne_of_lt (Nat.lt_of_lt_of_le (by have := World.block_lt_of_cell? _ _ hw298_0; first | rwa [add_block] at this | exact this) GW301.out))) _).trans (hHeld.2.2.2.2.2.2.2.1)))))))), ((cell_far (p := ⟨gb301, _, none⟩) (by first | exact Nat.ne_of_lt (Nat.lt_of_lt_of_le (by have := World.block_lt_of_cell? _ _ hw298_1; first | rwa [add_block] at this | exact this) GW301.out) | (rw [add_block]; exact Nat.ne_of_lt (Nat.lt_of_lt_of_le (by have := World.block_lt_of_cell? _ _ hw298_1; first | rwa [add_block] at this | exact this) GW301.out)) | (show (Addr.add _ _).block ≠ _; rw [add_block]; exact Nat.ne_of_lt (Nat.lt_of_lt_of_le (by have := World.block_lt_of_cell? _ _ hw298_1; first | rwa [add_block] at this | exact this) GW301.out)) | (dsimp only; exact Nat.ne_of_lt (Nat.lt_of_lt_of_le (by have := World.block_lt_of_cell? _ _ hw298_1; first | rwa [add_block] at this | exact this) GW301.out))) _).trans (((cell_far (p := ⟨gb301, _, none⟩) (by first | exact Nat.ne_of_lt (Nat.lt_of_lt_of_le (by have := World.block_lt_of_cell? _ _ hw298_1; first | rwa [add_block] at this | exact this) GW301.out) | (rw [add_block]; exact Nat.ne_of_lt (Nat.lt_of_lt_of_le (by have := World.block_lt_of_cell? _ _ hw298_1; first | rwa [add_block] at this | exact this) GW301.out)) | (show (Addr.add _ _).block ≠ _; rw [add_block]; exact Nat.ne_of_lt (Nat.lt_of_lt_of_le (by have := World.block_lt_of_cell? _ _ hw298_1; first | rwa [add_block] at this | exact this) GW301.out)) | (dsimp only; exact Nat.ne_of_lt (Nat.lt_of_lt_of_le (by have := World.block_lt_of_cell? _ _ hw298_1; first | rwa [add_block] at this | exact this) GW301.out))) _).trans (((cell_far (p := ⟨gb301, _, none⟩) (by first | exact Nat.ne_of_lt (Nat.lt_of_lt_of_le (by have := World.block_lt_of_cell? _ _ hw298_1; first | rwa [add_block] at this | exact this) GW301.out) | (rw [add_block]; exact Nat.ne_of_lt (Nat.lt_of_lt_of_le (by have := World.block_lt_of_cell? _ _ hw298_1; first | rwa [add_block] at this | exact this) GW301.out)) | (show (Addr.add _ _).block ≠ _; rw [add_block]; exact Nat.ne_of_lt (Nat.lt_of_lt_of_le (by have := World.block_lt_of_cell? _ _ hw298_1; first | rwa [add_block] at this | exact this) GW301.out)) | (dsimp only; exact Nat.ne_of_lt (Nat.lt_of_lt_of_le (by have := World.block_lt_of_cell? _ _ hw298_1; first | rwa [add_block] at this | exact this) GW301.out))) _).trans (((cell_far (p := ⟨gb301, _, none⟩) (by first | exact Nat.ne_of_lt (Nat.lt_of_lt_of_le (by have := World.block_lt_of_cell? _ _ hw298_1; first | rwa [add_block] at this | exact this) GW301.out) | (rw [add_block]; exact Nat.ne_of_lt (Nat.lt_of_lt_of_le (by have := World.block_lt_of_cell? _ _ hw298_1; first | rwa [add_block] at this | exact this) GW301.out)) | (show (Addr.add _ _).block ≠ _; rw [add_block]; exact Nat.ne_of_lt (Nat.lt_of_lt_of_le (by have := World.block_lt_of_cell? _ _ hw298_1; first | rwa [add_block] at this | exact this) GW301.out)) | (dsimp only; exact Nat.ne_of_lt (Nat.lt_of_lt_of_le (by have := World.block_lt_of_cell? _ _ hw298_1; first | rwa [add_block] at this | exact this) GW301.out))) _).trans (hHeld.2.2.2.2.2.2.2.2.1)))))))), ((cell_far (p := ⟨gb301, _, none⟩) (by first | exact Nat.ne_of_lt (Nat.lt_of_lt_of_le (by have := World.block_lt_of_cell? _ _ hw298_2; first | rwa [add_block] at this | exact this) GW301.out) | (rw [add_block]; exact Nat.ne_of_lt (Nat.lt_of_lt_of_le (by have := World.block_lt_of_cell? _ _ hw298_2; first | rwa [add_block] at this | exact this) GW301.out)) | (show (Addr.add _ _).block ≠ _; rw [add_block]; exact Nat.ne_of_lt (Nat.lt_of_lt_of_le (by have := World.block_lt_of_cell? _ _ hw298_2; first | rwa [add_block] at this | exact this) GW301.out)) | (dsimp only; exact Nat.ne_of_lt (Nat.lt_of_lt_of_le (by have := World.block_lt_of_cell? _ _ hw298_2; first | rwa [add_block] at this | exact this) GW301.out))) _).trans (((cell_far (p := ⟨gb301, _, none⟩) (by first | exact Nat.ne_of_lt (Nat.lt_of_lt_of_le (by have := World.block_lt_of_cell? _ _ hw298_2; first | rwa [add_block] at this | exact this) GW301.out) | (rw [add_block]; exact Nat.ne_of_lt (Nat.lt_of_lt_of_le (by have := World.block_lt_of_cell? _ _ hw298_2; first | rwa [add_block] at this | exact this) GW301.out)) | (show (Addr.add _ _).block ≠ _; rw [add_block]; exact Nat.ne_of_lt (Nat.lt_of_lt_of_le (by have := World.block_lt_of_cell? _ _ hw298_2; first | rwa [add_block] at this | exact this) GW301.out)) | (dsimp only; exact Nat.ne_of_lt (Nat.lt_of_lt_of_le (by have := World.block_lt_of_cell? _ _ hw298_2; first | rwa [add_block] at this | exact this) GW301.out))) _).trans (((cell_far (p := ⟨gb301, _, none⟩) (by first | exact Nat.ne_of_lt (Nat.lt_of_lt_of_le (by have := World.block_lt_of_cell? _ _ hw298_2; first | rwa [add_block] at this | exact this) GW301.out) | (rw [add_block]; exact Nat.ne_of_lt (Nat.lt_of_lt_of_le (by have := World.block_lt_of_cell? _ _ hw298_2; first | rwa [add_block] at this | exact this) GW301.out)) | (show (Addr.add _ _).block ≠ _; rw [add_block]; exact Nat.ne_of_lt (Nat.lt_of_lt_of_le (by have := World.block_lt_of_cell? _ _ hw298_2; first | rwa [add_block] at this | exact this) GW301.out)) | (dsimp only; exact Nat.ne_of_lt (Nat.lt_of_lt_of_le (by have := World.block_lt_of_cell? _ _ hw298_2; first | rwa [add_block] at this | exact this) GW301.out))) _).trans (((cell_far (p := ⟨gb301, _, none⟩) (by first | exact Nat.ne_of_lt (Nat.lt_of_lt_of_le (by have := World.block_lt_of_cell? _ _ hw298_2; first | rwa [add_block] at this | exact this) GW301.out) | (rw [add_block]; exact Nat.ne_of_lt (Nat.lt_of_lt_of_le (by have := World.block_lt_of_cell? _ _ hw298_2; first | rwa [add_block] at this | exact this) GW301.out)) | (show (Addr.add _ _).block ≠ _; rw [add_block]; exact Nat.ne_of_lt (Nat.lt_of_lt_of_le (by have := World.block_lt_of_cell? _ _ hw298_2; first | rwa [add_block] at this | exact this) GW301.out)) | (dsimp only; exact Nat.ne_of_lt (Nat.lt_of_lt_of_le (by have := World.block_lt_of_cell? _ _ hw298_2; first | rwa [add_block] at this | exact this) GW301.out))) _).trans (hHeld.2.2.2.2.2.2.2.2.2.1)))))))), ((cell_far (p := ⟨gb301, _, none⟩) (by first | exact Nat.ne_of_lt (Nat.lt_of_lt_of_le (by have := World.block_lt_of_cell? _ _ hw298_3; first | rwa [add_block] at this | exact this) GW301.out) | (rw [add_block]; exact Nat.ne_of_lt (Nat.lt_of_lt_of_le (by have := World.block_lt_of_cell? _ _ hw298_3; first | rwa [add_block] at this | exact this) GW301.out)) | (show (Addr.add _ _).block ≠ _; rw [add_block]; exact Nat.ne_of_lt (Nat.lt_of_lt_of_le (by have := World.block_lt_of_cell? _ _ hw298_3; first | rwa [add_block] at this | exact this) GW301.out)) | (dsimp only; exact Nat.ne_of_lt (Nat.lt_of_lt_of_le (by have := World.block_lt_of_cell? _ _ hw298_3; first | rwa [add_block] at this | exact this) GW301.out))) _).trans (((cell_far (p := ⟨gb301, _, none⟩) (by first | exact Nat.ne_of_lt (Nat.lt_of_lt_of_le (by have := World.block_lt_of_cell? _ _ hw298_3; first | rwa [add_block] at this | exact this) GW301.out) | (rw [add_block]; exact Nat.ne_of_lt (Nat.lt_of_lt_of_le (by have := World.block_lt_of_cell? _ _ hw298_3; first | rwa [add_block] at this | exact this) GW301.out)) | (show (Addr.add _ _).block ≠ _; rw [add_block]; exact Nat.ne_of_lt (Nat.lt_of_lt_of_le (by have := World.block_lt_of_cell? _ _ hw298_3; first | rwa [add_block] at this | exact this) GW301.out)) | (dsimp only; exact Nat.ne_of_lt (Nat.lt_of_lt_of_le (by have := World.block_lt_of_cell? _ _ hw298_3; first | rwa [add_block] at this | exact this) GW301.out))) _).trans (((cell_far (p := ⟨gb301, _, none⟩) (by first | exact Nat.ne_of_lt (Nat.lt_of_lt_of_le (by have := World.block_lt_of_cell? _ _ hw298_3; first | rwa [add_block] at this | exact this) GW301.out) | (rw [add_block]; exact Nat.ne_of_lt (Nat.lt_of_lt_of_le (by have := World.block_lt_of_cell? _ _ hw298_3; first | rwa [add_block] at this | exact this) GW301.out)) | (show (Addr.add _ _).block ≠ _; rw [add_block]; exact Nat.ne_of_lt (Nat.lt_of_lt_of_le (by have := World.block_lt_of_cell? _ _ hw298_3; first | rwa [add_block] at this | exact this) GW301.out)) | (dsimp only; exact Nat.ne_of_lt (Nat.lt_of_lt_of_le (by have := World.block_lt_of_cell? _ _ hw298_3; first | rwa [add_block] at this | exact this) GW301.out))) _).trans (((cell_far (p := ⟨gb301, _, none⟩) (by first | exact Nat.ne_of_lt (Nat.lt_of_lt_of_le (by have := World.block_lt_of_cell? _ _ hw298_3; first | rwa [add_block] at this | exact this) GW301.out) | (rw [add_block]; exact Nat.ne_of_lt (Nat.lt_of_lt_of_le (by have := World.block_lt_of_cell? _ _ hw298_3; first | rwa [add_block] at this | exact this) GW301.out)) | (show (Addr.add _ _).block ≠ _; rw [add_block]; exact Nat.ne_of_lt (Nat.lt_of_lt_of_le (by have := World.block_lt_of_cell? _ _ hw298_3; first | rwa [add_block] at this | exact this) GW301.out)) | (dsimp only; exact Nat.ne_of_lt (Nat.lt_of_lt_of_le (by have := World.block_lt_of_cell? _ _ hw298_3; first | rwa [add_block] at this | exact this) GW301.out))) _).trans (hHeld.2.2.2.2.2.2.2.2.2.2.1)))))))), ((cell_far (p := ⟨gb301, _, none⟩) (by first | exact Nat.ne_of_lt (Nat.lt_of_lt_of_le (by have := World.block_lt_of_cell? _ _ hw299_0; first | rwa [add_block] at this | exact this) GW301.out) | (rw [add_block]; exact Nat.ne_of_lt (Nat.lt_of_lt_of_le (by have := World.block_lt_of_cell? _ _ hw299_0; first | rwa [add_block] at this | exact this) GW301.out)) | (show (Addr.add _ _).block ≠ _; rw [add_block]; exact Nat.ne_of_lt (Nat.lt_of_lt_of_le (by have := World.block_lt_of_cell? _ _ hw299_0; first | rwa [add_block] at this | exact this) GW301.out)) | (dsimp only; exact Nat.ne_of_lt (Nat.lt_of_lt_of_le (by have := World.block_lt_of_cell? _ _ hw299_0; first | rwa [add_block] at this | exact this) GW301.out))) _).trans (((cell_far (p := ⟨gb301, _, none⟩) (by first | exact Nat.ne_of_lt (Nat.lt_of_lt_of_le (by have := World.block_lt_of_cell? _ _ hw299_0; first | rwa [add_block] at this | exact this) GW301.out) | (rw [add_block]; exact Nat.ne_of_lt (Nat.lt_of_lt_of_le (by have := World.block_lt_of_cell? _ _ hw299_0; first | rwa [add_block] at this | exact this) GW301.out)) | (show (Addr.add _ _).block ≠ _; rw [add_block]; exact Nat.ne_of_lt (Nat.lt_of_lt_of_le (by have := World.block_lt_of_cell? _ _ hw299_0; first | rwa [add_block] at this | exact this) GW301.out)) | (dsimp only; exact Nat.ne_of_lt (Nat.lt_of_lt_of_le (by have := World.block_lt_of_cell? _ _ hw299_0; first | rwa [add_block] at this | exact this) GW301.out))) _).trans (((cell_far (p := ⟨gb301, _, none⟩) (by first | exact Nat.ne_of_lt (Nat.lt_of_lt_of_le (by have := World.block_lt_of_cell? _ _ hw299_0; first | rwa [add_block] at this | exact this) GW301.out) | (rw [add_block]; exact Nat.ne_of_lt (Nat.lt_of_lt_of_le (by have := World.block_lt_of_cell? _ _ hw299_0; first | rwa [add_block] at this | exact this) GW301.out)) | (show (Addr.add _ _).block ≠ _; rw [add_block]; exact Nat.ne_of_lt (Nat.lt_of_lt_of_le (by have := World.block_lt_of_cell? _ _ hw299_0; first | rwa [add_block] at this | exact this) GW301.out)) | (dsimp only; exact Nat.ne_of_lt (Nat.lt_of_lt_of_le (by have := World.block_lt_of_cell? _ _ hw299_0; first | rwa [add_block] at this | exact this) GW301.out))) _).trans (((cell_far (p := ⟨gb301, _, none⟩) (by first | exact Nat.ne_of_lt (Nat.lt_of_lt_of_le (by have := World.block_lt_of_cell? _ _ hw299_0; first | rwa [add_block] at this | exact this) GW301.out) | (rw [add_block]; exact Nat.ne_of_lt (Nat.lt_of_lt_of_le (by have := World.block_lt_of_cell? _ _ hw299_0; first | rwa [add_block] at this | exact this) GW301.out)) | (show (Addr.add _ _).block ≠ _; rw [add_block]; exact Nat.ne_of_lt (Nat.lt_of_lt_of_le (by have := World.block_lt_of_cell? _ _ hw299_0; first | rwa [add_block] at this | exact this) GW301.out)) | (dsimp only; exact Nat.ne_of_lt (Nat.lt_of_lt_of_le (by have := World.block_lt_of_cell? _ _ hw299_0; first | rwa [add_block] at this | exact this) GW301.out))) _).trans (hHeld.2.2.2.2.2.2.2.2.2.2.2.1)))))))), ((cell_far (p := ⟨gb301, _, none⟩) (by first | exact Nat.ne_of_lt (Nat.lt_of_lt_of_le (by have := World.block_lt_of_cell? _ _ hw299_1; first | rwa [add_block] at this | exact this) GW301.out) | (rw [add_block]; exact Nat.ne_of_lt (Nat.lt_of_lt_of_le (by have := World.block_lt_of_cell? _ _ hw299_1; first | rwa [add_block] at this | exact this) GW301.out)) | (show (Addr.add _ _).block ≠ _; rw [add_block]; exact Nat.ne_of_lt (Nat.lt_of_lt_of_le (by have := World.block_lt_of_cell? _ _ hw299_1; first | rwa [add_block] at this | exact this) GW301.out)) | (dsimp only; exact Nat.ne_of_lt (Nat.lt_of_lt_of_le (by have := World.block_lt_of_cell? _ _ hw299_1; first | rwa [add_block] at this | exact this) GW301.out))) _).trans (((cell_far (p := ⟨gb301, _, none⟩) (by first | exact Nat.ne_of_lt (Nat.lt_of_lt_of_le (by have := World.block_lt_of_cell? _ _ hw299_1; first | rwa [add_block] at this | exact this) GW301.out) | (rw [add_block]; exact Nat.ne_of_lt (Nat.lt_of_lt_of_le (by have := World.block_lt_of_cell? _ _ hw299_1; first | rwa [add_block] at this | exact this) GW301.out)) | (show (Addr.add _ _).block ≠ _; rw [add_block]; exact Nat.ne_of_lt (Nat.lt_of_lt_of_le (by have := World.block_lt_of_cell? _ _ hw299_1; first | rwa [add_block] at this | exact this) GW301.out)) | (dsimp only; exact Nat.ne_of_lt (Nat.lt_of_lt_of_le (by have := World.block_lt_of_cell? _ _ hw299_1; first | rwa [add_block] at this | exact this) GW301.out))) _).trans (((cell_far (p := ⟨gb301, _, none⟩) (by first | exact Nat.ne_of_lt (Nat.lt_of_lt_of_le (by have := World.block_lt_of_cell? _ _ hw299_1; first | rwa [add_block] at this | exact this) GW301.out) | (rw [add_block]; exact Nat.ne_of_lt (Nat.lt_of_lt_of_le (by have := World.block_lt_of_cell? _ _ hw299_1; first | rwa [add_block] at this | exact this) GW301.out)) | (show (Addr.add _ _).block ≠ _; rw [add_block]; exact Nat.ne_of_lt (Nat.lt_of_lt_of_le (by have := World.block_lt_of_cell? _ _ hw299_1; first | rwa [add_block] at this | exact this) GW301.out)) | (dsimp only; exact Nat.ne_of_lt (Nat.lt_of_lt_of_le (by have := World.block_lt_of_cell? _ _ hw299_1; first | rwa [add_block] at this | exact this) GW301.out))) _).trans (((cell_far (p := ⟨gb301, _, none⟩) (by first | exact Nat.ne_of_lt (Nat.lt_of_lt_of_le (by have := World.block_lt_of_cell? _ _ hw299_1; first | rwa [add_block] at this | exact this) GW301.out) | (rw [add_block]; exact Nat.ne_of_lt (Nat.lt_of_lt_of_le (by have := World.block_lt_of_cell? _ _ hw299_1; first | rwa [add_block] at this | exact this) GW301.out)) | (show (Addr.add _ _).block ≠ _; rw [add_block]; exact Nat.ne_of_lt (Nat.lt_of_lt_of_le (by have := World.block_lt_of_cell? _ _ hw299_1; first | rwa [add_block] at this | exact this) GW301.out)) | (dsimp only; exact Nat.ne_of_lt (Nat.lt_of_lt_of_le (by have := World.block_lt_of_cell? _ _ hw299_1; first | rwa [add_block] at this | exact this) GW301.out))) _).trans (hHeld.2.2.2.2.2.2.2.2.2.2.2.2.1)))))))), ((cell_far (p := ⟨gb301, _, none⟩) (by first | exact Nat.ne_of_lt (Nat.lt_of_lt_of_le (by have := World.block_lt_of_cell? _ _ hw299_2; first | rwa [add_block] at this | exact this) GW301.out) | (rw [add_block]; exact Nat.ne_of_lt (Nat.lt_of_lt_of_le (by have := World.block_lt_of_cell? _ _ hw299_2; first | rwa [add_block] at this | exact this) GW301.out)) | (show (Addr.add _ _).block ≠ _; rw [add_block]; exact Nat.ne_of_lt (Nat.lt_of_lt_of_le (by have := World.block_lt_of_cell? _ _ hw299_2; first | rwa [add_block] at this | exact this) GW301.out)) | (dsimp only; exact Nat.ne_of_lt (Nat.lt_of_lt_of_le (by have := World.block_lt_of_cell? _ _ hw299_2; first | rwa [add_block] at this | exact this) GW301.out))) _).trans (((cell_far (p := ⟨gb301, _, none⟩) (by first | exact Nat.ne_of_lt (Nat.lt_of_lt_of_le (by have := World.block_lt_of_cell? _ _ hw299_2; first | rwa [add_block] at this | exact this) GW301.out) | (rw [add_block]; exact Nat.ne_of_lt (Nat.lt_of_lt_of_le (by have := World.block_lt_of_cell? _ _ hw299_2; first | rwa [add_block] at this | exact this) GW301.out)) | (show (Addr.add _ _).block ≠ _; rw [add_block]; exact Nat.ne_of_lt (Nat.lt_of_lt_of_le (by have := World.block_lt_of_cell? _ _ hw299_2; first | rwa [add_block] at this | exact this) GW301.out)) | (dsimp only; exact Nat.ne_of_lt (Nat.lt_of_lt_of_le (by have := World.block_lt_of_cell? _ _ hw299_2; first | rwa [add_block] at this | exact this) GW301.out))) _).trans (((cell_far (p := ⟨gb301, _, none⟩) (by first | exact Nat.ne_of_lt (Nat.lt_of_lt_of_le (by have := World.block_lt_of_cell? _ _ hw299_2; first | rwa [add_block] at this | exact this) GW301.out) | (rw [add_block]; exact Nat.ne_of_lt (Nat.lt_of_lt_of_le (by have := World.block_lt_of_cell? _ _ hw299_2; first | rwa [add_block] at this | exact this) GW301.out)) | (show (Addr.add _ _).block ≠ _; rw [add_block]; exact Nat.ne_of_lt (Nat.lt_of_lt_of_le (by have := World.block_lt_of_cell? _ _ hw299_2; first | rwa [add_block] at this | exact this) GW301.out)) | (dsimp only; exact Nat.ne_of_lt (Nat.lt_of_lt_of_le (by have := World.block_lt_of_cell? _ _ hw299_2; first | rwa [add_block] at this | exact this) GW301.out))) _).trans (((cell_far (p := ⟨gb301, _, none⟩) (by first | exact Nat.ne_of_lt (Nat.lt_of_lt_of_le (by have := World.block_lt_of_cell? _ _ hw299_2; first | rwa [add_block] at this | exact this) GW301.out) | (rw [add_block]; exact Nat.ne_of_lt (Nat.lt_of_lt_of_le (by have := World.block_lt_of_cell? _ _ hw299_2; first | rwa [add_block] at this | exact this) GW301.out)) | (show (Addr.add _ _).block ≠ _; rw [add_block]; exact Nat.ne_of_lt (Nat.lt_of_lt_of_le (by have := World.block_lt_of_cell? _ _ hw299_2; first | rwa [add_block] at this | exact this) GW301.out)) | (dsimp only; exact Nat.ne_of_lt (Nat.lt_of_lt_of_le (by have := World.block_lt_of_cell? _ _ hw299_2; first | rwa [add_block] at this | exact this) GW301.out))) _).trans (hHeld.2.2.2.2.2.2.2.2.2.2.2.2.2.1)))))))), ((cell_far (p := ⟨gb301, _, none⟩) (by first | exact Nat.ne_of_lt (Nat.lt_of_lt_of_le (by have := World.block_lt_of_cell? _ _ hw299_3; first | rwa [add_block] at this | exact this) GW301.out) | (rw [add_block]; exact Nat.ne_of_lt (Nat.lt_of_lt_of_le (by have := World.block_lt_of_cell? _ _ hw299_3; first | rwa [add_block] at this | exact this) GW301.out)) | (show (Addr.add _ _).block ≠ _; rw [add_block]; exact Nat.ne_of_lt (Nat.lt_of_lt_of_le (by have := World.block_lt_of_cell? _ _ hw299_3; first | rwa [add_block] at this | exact this) GW301.out)) | (dsimp only; exact Nat.ne_of_lt (Nat.lt_of_lt_of_le (by have := World.block_lt_of_cell? _ _ hw299_3; first | rwa [add_block] at this | exact this) GW301.out))) _).trans (((cell_far (p := ⟨gb301, _, none⟩) (by first | exact Nat.ne_of_lt (Nat.lt_of_lt_of_le (by have := World.block_lt_of_cell? _ _ hw299_3; first | rwa [add_block] at this | exact this) GW301.out) | (rw [add_block]; exact Nat.ne_of_lt (Nat.lt_of_lt_of_le (by have := World.block_lt_of_cell? _ _ hw299_3; first | rwa [add_block] at this | exact this) GW301.out)) | (show (Addr.add _ _).block ≠ _; rw [add_block]; exact Nat.ne_of_lt (Nat.lt_of_lt_of_le (by have := World.block_lt_of_cell? _ _ hw299_3; first | rwa [add_block] at this | exact this) GW301.out)) | (dsimp only; exact Nat.ne_of_lt (Nat.lt_of_lt_of_le (by have := World.block_lt_of_cell? _ _ hw299_3; first | rwa [add_block] at this | exact this) GW301.out))) _).trans (((cell_far (p := ⟨gb301, _, none⟩) (by first | exact Nat.ne_of_lt (Nat.lt_of_lt_of_le (by have := World.block_lt_of_cell? _ _ hw299_3; first | rwa [add_block] at this | exact this) GW301.out) | (rw [add_block]; exact Nat.ne_of_lt (Nat.lt_of_lt_of_le (by have := World.block_lt_of_cell? _ _ hw299_3; first | rwa [add_block] at this | exact this) GW301.out)) | (show (Addr.add _ _).block ≠ _; rw [add_block]; exact Nat.ne_of_lt (Nat.lt_of_lt_of_le (by have := World.block_lt_of_cell? _ _ hw299_3; first | rwa [add_block] at this | exact this) GW301.out)) | (dsimp only; exact Nat.ne_of_lt (Nat.lt_of_lt_of_le (by have := World.block_lt_of_cell? _ _ hw299_3; first | rwa [add_block] at this | exact this) GW301.out))) _).trans (((cell_far (p := ⟨gb301, _, none⟩) (by first | exact Nat.ne_of_lt (Nat.lt_of_lt_of_le (by have := World.block_lt_of_cell? _ _ hw299_3; first | rwa [add_block] at this | exact this) GW301.out) | (rw [add_block]; exact Nat.ne_of_lt (Nat.lt_of_lt_of_le (by have := World.block_lt_of_cell? _ _ hw299_3; first | rwa [add_block] at this | exact this) GW301.out)) | (show (Addr.add _ _).block ≠ _; rw [add_block]; exact Nat.ne_of_lt (Nat.lt_of_lt_of_le (by have := World.block_lt_of_cell? _ _ hw299_3; first | rwa [add_block] at this | exact this) GW301.out)) | (dsimp only; exact Nat.ne_of_lt (Nat.lt_of_lt_of_le (by have := World.block_lt_of_cell? _ _ hw299_3; first | rwa [add_block] at this | exact this) GW301.out))) _).trans (hHeld.2.2.2.2.2.2.2.2.2.2.2.2.2.2))))))))⟩ (fun hHeld => ?_)
     clear hK K
     refine done_ (done_of HT_.out (by kernel_rfl)) ?_
     go_upto_block 0 with (fail)
     go_cut [] (fun wc => ∃ (kq : Nat), Aside0 (spec_lbLast.j3 kq l0_0 a0_1 a0_2 a0_3 a0_4 a0_5 a0_6 = some r) ∧ Aside0 (kq ≤ k) ∧ Aside0 (wc.heap[gb297]? = some (.cells #[(.slice (some ad298) l0_0.length c0_0), .int .i64 a0_1, .int .i64 a0_2, .int .i64 a0_3, .int .i64 a0_4, .int .i64 a0_5, .int .i64 a0_6] 74 (0, 0))) ∧ Aside0 (wc.heap[gb300]? = some (.cells #[.int .i64 ((rd_T64 l0_0 (ji2)).f0), .int .i64 ((rd_T64 l0_0 (ji2)).f1), .int .i64 ((rd_T64 l0_0 (ji2)).f2), .bool ((rd_T64 l0_0 (ji2)).f3)] 64 (0, 0))) ∧ Aside0 (wc.heap[gb301]? = some (.cells #[.int .i64 ((rd_T64 l0_0 a0_1).f0), .int .i64 ((rd_T64 l0_0 a0_1).f1), .int .i64 ((rd_T64 l0_0 a0_1).f2), .bool ((rd_T64 l0_0 a0_1).f3)] 64 (0, 0))) ∧ Aside0 (Below w.heap.size w wc))
     case first =>
      have H := HC7.out
      clear HC7
      have HC21 := Aside0.mk H
      clear H
      go_upto_region 4 with (fail)
      go_cut [22] (fun v22 wc => ∃ (kq : Nat) (x22_20 : Bool), v22 = .bool x22_20 ∧ Aside0 (spec_lbLast.j0 kq x22_20 l0_0 a0_1 a0_2 a0_3 a0_4 a0_5 a0_6 ((rd_T64 l0_0 (ji2)).f0) ((rd_T64 l0_0 (ji2)).f1) ((rd_T64 l0_0 (ji2)).f2) ((rd_T64 l0_0 (ji2)).f3) ((rd_T64 l0_0 a0_1).f0) ((rd_T64 l0_0 a0_1).f1) ((rd_T64 l0_0 a0_1).f2) ((rd_T64 l0_0 a0_1).f3) = some r) ∧ Aside0 (kq ≤ k) ∧ Aside0 (wc.heap[gb297]? = some (.cells #[(.slice (some ad298) l0_0.length c0_0), .int .i64 a0_1, .int .i64 a0_2, .int .i64 a0_3, .int .i64 a0_4, .int .i64 a0_5, .int .i64 a0_6] 74 (0, 0))) ∧ Aside0 (wc.heap[gb300]? = some (.cells #[.int .i64 ((rd_T64 l0_0 (ji2)).f0), .int .i64 ((rd_T64 l0_0 (ji2)).f1), .int .i64 ((rd_T64 l0_0 (ji2)).f2), .bool ((rd_T64 l0_0 (ji2)).f3)] 64 (0, 0))) ∧ Aside0 (wc.heap[gb301]? = some (.cells #[.int .i64 ((rd_T64 l0_0 a0_1).f0), .int .i64 ((rd_T64 l0_0 a0_1).f1), .int .i64 ((rd_T64 l0_0 a0_1).f2), .bool ((rd_T64 l0_0 a0_1).f3)] 64 (0, 0))) ∧ Aside0 (Below w.heap.size w wc))
      case first =>
       have H := HC21.out
       clear HC21
       replace H := Option.bind_eq_some_iff.mp H
       obtain ⟨t302, A220, H⟩ := H
       try dsimp only at H
       have A22 := Aside0.mk A220
       clear A220
       by_cases c23 : t302 = true
       ·subst c23
        rw [if_pos rfl] at H
        replace H := Option.bind_eq_some_iff.mp H
        obtain ⟨t303, A240, H⟩ := H
        try dsimp only at H
        have A24 := Aside0.mk A240
        clear A240
        by_cases c25 : t303 = true
        ·subst c25
         rw [if_pos rfl] at H
         have H' := Aside0.mk H
         clear H
         have hnb26 := NB297_300.out
         have hnc26 := NB300_297.out
         have hnb27 := NB297_301.out
         have hnc27 := NB301_297.out
         have hcz28_0 : w12.cell? ⟨gb297, 0, none⟩ = some (.slice (some ad298) l0_0.length c0_0) := (blk_cell BK297.out 0).trans rfl
         have hcz28_1 : w12.cell? ⟨gb297, 1, none⟩ = some (.int .i64 a0_1) := (blk_cell BK297.out 1).trans rfl
         have hcz28_2 : w12.cell? ⟨gb297, 2, none⟩ = some (.int .i64 a0_2) := (blk_cell BK297.out 2).trans rfl
         have hcz28_3 : w12.cell? ⟨gb297, 3, none⟩ = some (.int .i64 a0_3) := (blk_cell BK297.out 3).trans rfl
         have hcz28_4 : w12.cell? ⟨gb297, 4, none⟩ = some (.int .i64 a0_4) := (blk_cell BK297.out 4).trans rfl
         have hcz28_5 : w12.cell? ⟨gb297, 5, none⟩ = some (.int .i64 a0_5) := (blk_cell BK297.out 5).trans rfl
         have hcz28_6 : w12.cell? ⟨gb297, 6, none⟩ = some (.int .i64 a0_6) := (blk_cell BK297.out 6).trans rfl
         have hfz28_0 := blk_frozen BK297.out 0
         have hfz28_1 := blk_frozen BK297.out 1
         have hfz28_2 := blk_frozen BK297.out 2
         have hfz28_3 := blk_frozen BK297.out 3
         have hfz28_4 := blk_frozen BK297.out 4
         have hfz28_5 := blk_frozen BK297.out 5
         have hfz28_6 := blk_frozen BK297.out 6
         go_wp2_with (first | ((with_reducible refine gate_callee (f := 86) rfl ?_); refine goesL_ (some 25) rfl rfl Try.func86 (by kernel_rfl) rfl #[.int .i64 a0_4] rfl mz ?_; (with_reducible refine (spec_lbLetter.calls k a0_4 true _ A22.out).mono ?_); rintro e w29 ⟨rfl, hb⟩; refine ⟨_, rfl, ?_⟩; have n0_ := Aside0.mk (blk_below (g := gb297) (o := .cells #[.slice (some ad298) l0_0.length c0_0, .int .i64 a0_1, .int .i64 a0_2, .int .i64 a0_3, .int .i64 a0_4, .int .i64 a0_5, .int .i64 a0_6] 74 (0, 0)) (by (with_reducible repeat (first | refine blk_drewN ?_ _ | refine blk_drew ?_ | refine blk_alloc ?_ _)); refine blk_far ?_ NB297_301.out _; (with_reducible repeat (first | refine blk_drewN ?_ _ | refine blk_drew ?_ | refine blk_alloc ?_ _)); refine blk_far ?_ NB297_301.out _; (with_reducible repeat (first | refine blk_drewN ?_ _ | refine blk_drew ?_ | refine blk_alloc ?_ _)); refine blk_far ?_ NB297_301.out _; (with_reducible repeat (first | refine blk_drewN ?_ _ | refine blk_drew ?_ | refine blk_alloc ?_ _)); refine blk_far ?_ NB297_301.out _; (with_reducible repeat (first | refine blk_drewN ?_ _ | refine blk_drew ?_ | refine blk_alloc ?_ _)); refine blk_far ?_ NB297_300.out _; (with_reducible repeat (first | refine blk_drewN ?_ _ | refine blk_drew ?_ | refine blk_alloc ?_ _)); refine blk_far ?_ NB297_300.out _; (with_reducible repeat (first | refine blk_drewN ?_ _ | refine blk_drew ?_ | refine blk_alloc ?_ _)); refine blk_far ?_ NB297_300.out _; (with_reducible repeat (first | refine blk_drewN ?_ _ | refine blk_drew ?_ | refine blk_alloc ?_ _)); refine blk_far ?_ NB297_300.out _; (with_reducible repeat (first | refine blk_drewN ?_ _ | refine blk_drew ?_ | refine blk_alloc ?_ _)); exact BK297.out) hb); have n1_ := Aside0.mk (blk_below (g := gb300) (o := .cells #[.int .i64 ((rd_T64 l0_0 (ji2)).f0), .int .i64 ((rd_T64 l0_0 (ji2)).f1), .int .i64 ((rd_T64 l0_0 (ji2)).f2), .bool ((rd_T64 l0_0 (ji2)).f3)] 64 (0, 0)) (by (with_reducible repeat (first | refine blk_drewN ?_ _ | refine blk_drew ?_ | refine blk_alloc ?_ _)); refine blk_far ?_ NB300_301.out _; (with_reducible repeat (first | refine blk_drewN ?_ _ | refine blk_drew ?_ | refine blk_alloc ?_ _)); refine blk_far ?_ NB300_301.out _; (with_reducible repeat (first | refine blk_drewN ?_ _ | refine blk_drew ?_ | refine blk_alloc ?_ _)); refine blk_far ?_ NB300_301.out _; (with_reducible repeat (first | refine blk_drewN ?_ _ | refine blk_drew ?_ | refine blk_alloc ?_ _)); refine blk_far ?_ NB300_301.out _; (with_reducible repeat (first | refine blk_drewN ?_ _ | refine blk_drew ?_ | refine blk_alloc ?_ _)); refine blk_put (cs := #[.int .i64 ((rd_T64 l0_0 (ji2)).f0), .int .i64 ((rd_T64 l0_0 (ji2)).f1), .int .i64 ((rd_T64 l0_0 (ji2)).f2), .bool false]) ?_ 3 _ rfl; (with_reducible repeat (first | refine blk_drewN ?_ _ | refine blk_drew ?_ | refine blk_alloc ?_ _)); refine blk_put (cs := #[.int .i64 ((rd_T64 l0_0 (ji2)).f0), .int .i64 ((rd_T64 l0_0 (ji2)).f1), .int .i64 0, .bool false]) ?_ 2 _ rfl; (with_reducible repeat (first | refine blk_drewN ?_ _ | refine blk_drew ?_ | refine blk_alloc ?_ _)); refine blk_put (cs := #[.int .i64 ((rd_T64 l0_0 (ji2)).f0), .int .i64 0, .int .i64 0, .bool false]) ?_ 1 _ rfl; (with_reducible repeat (first | refine blk_drewN ?_ _ | refine blk_drew ?_ | refine blk_alloc ?_ _)); refine blk_put (cs := #[.int .i64 0, .int .i64 0, .int .i64 0, .bool false]) ?_ 0 _ rfl; (with_reducible repeat (first | refine blk_drewN ?_ _ | refine blk_drew ?_ | refine blk_alloc ?_ _)); exact BK300.out) hb); have n2_ := Aside0.mk (blk_below (g := gb301) (o := .cells #[.int .i64 ((rd_T64 l0_0 a0_1).f0), .int .i64 ((rd_T64 l0_0 a0_1).f1), .int .i64 ((rd_T64 l0_0 a0_1).f2), .bool ((rd_T64 l0_0 a0_1).f3)] 64 (0, 0)) (by (with_reducible repeat (first | refine blk_drewN ?_ _ | refine blk_drew ?_ | refine blk_alloc ?_ _)); refine blk_put (cs := #[.int .i64 ((rd_T64 l0_0 a0_1).f0), .int .i64 ((rd_T64 l0_0 a0_1).f1), .int .i64 ((rd_T64 l0_0 a0_1).f2), .bool false]) ?_ 3 _ rfl; (with_reducible repeat (first | refine blk_drewN ?_ _ | refine blk_drew ?_ | refine blk_alloc ?_ _)); refine blk_put (cs := #[.int .i64 ((rd_T64 l0_0 a0_1).f0), .int .i64 ((rd_T64 l0_0 a0_1).f1), .int .i64 0, .bool false]) ?_ 2 _ rfl; (with_reducible repeat (first | refine blk_drewN ?_ _ | refine blk_drew ?_ | refine blk_alloc ?_ _)); refine blk_put (cs := #[.int .i64 ((rd_T64 l0_0 a0_1).f0), .int .i64 0, .int .i64 0, .bool false]) ?_ 1 _ rfl; (with_reducible repeat (first | refine blk_drewN ?_ _ | refine blk_drew ?_ | refine blk_alloc ?_ _)); refine blk_put (cs := #[.int .i64 0, .int .i64 0, .int .i64 0, .bool false]) ?_ 0 _ rfl; (with_reducible repeat (first | refine blk_drewN ?_ _ | refine blk_drew ?_ | refine blk_alloc ?_ _)); refine blk_far ?_ NB301_300.out _; (with_reducible repeat (first | refine blk_drewN ?_ _ | refine blk_drew ?_ | refine blk_alloc ?_ _)); refine blk_far ?_ NB301_300.out _; (with_reducible repeat (first | refine blk_drewN ?_ _ | refine blk_drew ?_ | refine blk_alloc ?_ _)); refine blk_far ?_ NB301_300.out _; (with_reducible repeat (first | refine blk_drewN ?_ _ | refine blk_drew ?_ | refine blk_alloc ?_ _)); refine blk_far ?_ NB301_300.out _; (with_reducible repeat (first | refine blk_drewN ?_ _ | refine blk_drew ?_ | refine blk_alloc ?_ _)); exact BK301.out) hb); have n3_ := Aside0.mk (below_step bs hb); clear BK297; clear BK300; clear BK301; clear HB; have BK297 := n0_; have BK300 := n1_; have BK301 := n2_; have HB := n3_; clear n0_ n1_ n2_ n3_; (try clear hb); (try clear hb2); (try clear hk); (try clear hi); have hcz30_0 : w29.cell? ⟨gb297, 0, none⟩ = some (.slice (some ad298) l0_0.length c0_0) := (blk_cell BK297.out 0).trans rfl; have hcz30_1 : w29.cell? ⟨gb297, 1, none⟩ = some (.int .i64 a0_1) := (blk_cell BK297.out 1).trans rfl; have hcz30_2 : w29.cell? ⟨gb297, 2, none⟩ = some (.int .i64 a0_2) := (blk_cell BK297.out 2).trans rfl; have hcz30_3 : w29.cell? ⟨gb297, 3, none⟩ = some (.int .i64 a0_3) := (blk_cell BK297.out 3).trans rfl; have hcz30_4 : w29.cell? ⟨gb297, 4, none⟩ = some (.int .i64 a0_4) := (blk_cell BK297.out 4).trans rfl; have hcz30_5 : w29.cell? ⟨gb297, 5, none⟩ = some (.int .i64 a0_5) := (blk_cell BK297.out 5).trans rfl; have hcz30_6 : w29.cell? ⟨gb297, 6, none⟩ = some (.int .i64 a0_6) := (blk_cell BK297.out 6).trans rfl; have hfz30_0 := blk_frozen BK297.out 0; have hfz30_1 := blk_frozen BK297.out 1; have hfz30_2 := blk_frozen BK297.out 2; have hfz30_3 := blk_frozen BK297.out 3; have hfz30_4 := blk_frozen BK297.out 4; have hfz30_5 := blk_frozen BK297.out 5; have hfz30_6 := blk_frozen BK297.out 6) | (go_at_call 86; (with_reducible refine (spec_lbLetter.calls k a0_3 true _ A24.out).mono ?_); rintro e w31 ⟨rfl, hb⟩; have n0_ := Aside0.mk (blk_below (g := gb297) (o := .cells #[.slice (some ad298) l0_0.length c0_0, .int .i64 a0_1, .int .i64 a0_2, .int .i64 a0_3, .int .i64 a0_4, .int .i64 a0_5, .int .i64 a0_6] 74 (0, 0)) kz hb); have n1_ := Aside0.mk (blk_below (g := gb300) (o := .cells #[.int .i64 ((rd_T64 l0_0 (ji2)).f0), .int .i64 ((rd_T64 l0_0 (ji2)).f1), .int .i64 ((rd_T64 l0_0 (ji2)).f2), .bool ((rd_T64 l0_0 (ji2)).f3)] 64 (0, 0)) kz hb); have n2_ := Aside0.mk (blk_below (g := gb301) (o := .cells #[.int .i64 ((rd_T64 l0_0 a0_1).f0), .int .i64 ((rd_T64 l0_0 a0_1).f1), .int .i64 ((rd_T64 l0_0 a0_1).f2), .bool ((rd_T64 l0_0 a0_1).f3)] 64 (0, 0)) kz hb); have n3_ := Aside0.mk (below_step bs hb); clear BK297; clear BK300; clear BK301; clear HB; have BK297 := n0_; have BK300 := n1_; have BK301 := n2_; have HB := n3_; clear n0_ n1_ n2_ n3_; (try clear hb); (try clear hb2); (try clear hk); (try clear hi)))
         go_meet
         case rel => exact ⟨_, (true), vz, H', ⟨by first | omega | exact Nat.le_refl _⟩, ⟨kz⟩, ⟨kz⟩, ⟨kz⟩, ⟨bs⟩⟩
        ·replace c25 := Bool.eq_false_iff.mpr c25
         subst c25
         rw [if_neg (show ¬ (false = true) by decide)] at H
         have H' := Aside0.mk H
         clear H
         have hnb32 := NB297_300.out
         have hnc32 := NB300_297.out
         have hnb33 := NB297_301.out
         have hnc33 := NB301_297.out
         have hcz34_0 : w12.cell? ⟨gb297, 0, none⟩ = some (.slice (some ad298) l0_0.length c0_0) := (blk_cell BK297.out 0).trans rfl
         have hcz34_1 : w12.cell? ⟨gb297, 1, none⟩ = some (.int .i64 a0_1) := (blk_cell BK297.out 1).trans rfl
         have hcz34_2 : w12.cell? ⟨gb297, 2, none⟩ = some (.int .i64 a0_2) := (blk_cell BK297.out 2).trans rfl
         have hcz34_3 : w12.cell? ⟨gb297, 3, none⟩ = some (.int .i64 a0_3) := (blk_cell BK297.out 3).trans rfl
         have hcz34_4 : w12.cell? ⟨gb297, 4, none⟩ = some (.int .i64 a0_4) := (blk_cell BK297.out 4).trans rfl
         have hcz34_5 : w12.cell? ⟨gb297, 5, none⟩ = some (.int .i64 a0_5) := (blk_cell BK297.out 5).trans rfl
         have hcz34_6 : w12.cell? ⟨gb297, 6, none⟩ = some (.int .i64 a0_6) := (blk_cell BK297.out 6).trans rfl
         have hfz34_0 := blk_frozen BK297.out 0
         have hfz34_1 := blk_frozen BK297.out 1
         have hfz34_2 := blk_frozen BK297.out 2
         have hfz34_3 := blk_frozen BK297.out 3
         have hfz34_4 := blk_frozen BK297.out 4
         have hfz34_5 := blk_frozen BK297.out 5
         have hfz34_6 := blk_frozen BK297.out 6
         go_wp2_with (first | ((with_reducible refine gate_callee (f := 86) rfl ?_); refine goesL_ (some 25) rfl rfl Try.func86 (by kernel_rfl) rfl #[.int .i64 a0_4] rfl mz ?_; (with_reducible refine (spec_lbLetter.calls k a0_4 true _ A22.out).mono ?_); rintro e w35 ⟨rfl, hb⟩; refine ⟨_, rfl, ?_⟩; have n0_ := Aside0.mk (blk_below (g := gb297) (o := .cells #[.slice (some ad298) l0_0.length c0_0, .int .i64 a0_1, .int .i64 a0_2, .int .i64 a0_3, .int .i64 a0_4, .int .i64 a0_5, .int .i64 a0_6] 74 (0, 0)) (by (with_reducible repeat (first | refine blk_drewN ?_ _ | refine blk_drew ?_ | refine blk_alloc ?_ _)); refine blk_far ?_ NB297_301.out _; (with_reducible repeat (first | refine blk_drewN ?_ _ | refine blk_drew ?_ | refine blk_alloc ?_ _)); refine blk_far ?_ NB297_301.out _; (with_reducible repeat (first | refine blk_drewN ?_ _ | refine blk_drew ?_ | refine blk_alloc ?_ _)); refine blk_far ?_ NB297_301.out _; (with_reducible repeat (first | refine blk_drewN ?_ _ | refine blk_drew ?_ | refine blk_alloc ?_ _)); refine blk_far ?_ NB297_301.out _; (with_reducible repeat (first | refine blk_drewN ?_ _ | refine blk_drew ?_ | refine blk_alloc ?_ _)); refine blk_far ?_ NB297_300.out _; (with_reducible repeat (first | refine blk_drewN ?_ _ | refine blk_drew ?_ | refine blk_alloc ?_ _)); refine blk_far ?_ NB297_300.out _; (with_reducible repeat (first | refine blk_drewN ?_ _ | refine blk_drew ?_ | refine blk_alloc ?_ _)); refine blk_far ?_ NB297_300.out _; (with_reducible repeat (first | refine blk_drewN ?_ _ | refine blk_drew ?_ | refine blk_alloc ?_ _)); refine blk_far ?_ NB297_300.out _; (with_reducible repeat (first | refine blk_drewN ?_ _ | refine blk_drew ?_ | refine blk_alloc ?_ _)); exact BK297.out) hb); have n1_ := Aside0.mk (blk_below (g := gb300) (o := .cells #[.int .i64 ((rd_T64 l0_0 (ji2)).f0), .int .i64 ((rd_T64 l0_0 (ji2)).f1), .int .i64 ((rd_T64 l0_0 (ji2)).f2), .bool ((rd_T64 l0_0 (ji2)).f3)] 64 (0, 0)) (by (with_reducible repeat (first | refine blk_drewN ?_ _ | refine blk_drew ?_ | refine blk_alloc ?_ _)); refine blk_far ?_ NB300_301.out _; (with_reducible repeat (first | refine blk_drewN ?_ _ | refine blk_drew ?_ | refine blk_alloc ?_ _)); refine blk_far ?_ NB300_301.out _; (with_reducible repeat (first | refine blk_drewN ?_ _ | refine blk_drew ?_ | refine blk_alloc ?_ _)); refine blk_far ?_ NB300_301.out _; (with_reducible repeat (first | refine blk_drewN ?_ _ | refine blk_drew ?_ | refine blk_alloc ?_ _)); refine blk_far ?_ NB300_301.out _; (with_reducible repeat (first | refine blk_drewN ?_ _ | refine blk_drew ?_ | refine blk_alloc ?_ _)); refine blk_put (cs := #[.int .i64 ((rd_T64 l0_0 (ji2)).f0), .int .i64 ((rd_T64 l0_0 (ji2)).f1), .int .i64 ((rd_T64 l0_0 (ji2)).f2), .bool false]) ?_ 3 _ rfl; (with_reducible repeat (first | refine blk_drewN ?_ _ | refine blk_drew ?_ | refine blk_alloc ?_ _)); refine blk_put (cs := #[.int .i64 ((rd_T64 l0_0 (ji2)).f0), .int .i64 ((rd_T64 l0_0 (ji2)).f1), .int .i64 0, .bool false]) ?_ 2 _ rfl; (with_reducible repeat (first | refine blk_drewN ?_ _ | refine blk_drew ?_ | refine blk_alloc ?_ _)); refine blk_put (cs := #[.int .i64 ((rd_T64 l0_0 (ji2)).f0), .int .i64 0, .int .i64 0, .bool false]) ?_ 1 _ rfl; (with_reducible repeat (first | refine blk_drewN ?_ _ | refine blk_drew ?_ | refine blk_alloc ?_ _)); refine blk_put (cs := #[.int .i64 0, .int .i64 0, .int .i64 0, .bool false]) ?_ 0 _ rfl; (with_reducible repeat (first | refine blk_drewN ?_ _ | refine blk_drew ?_ | refine blk_alloc ?_ _)); exact BK300.out) hb); have n2_ := Aside0.mk (blk_below (g := gb301) (o := .cells #[.int .i64 ((rd_T64 l0_0 a0_1).f0), .int .i64 ((rd_T64 l0_0 a0_1).f1), .int .i64 ((rd_T64 l0_0 a0_1).f2), .bool ((rd_T64 l0_0 a0_1).f3)] 64 (0, 0)) (by (with_reducible repeat (first | refine blk_drewN ?_ _ | refine blk_drew ?_ | refine blk_alloc ?_ _)); refine blk_put (cs := #[.int .i64 ((rd_T64 l0_0 a0_1).f0), .int .i64 ((rd_T64 l0_0 a0_1).f1), .int .i64 ((rd_T64 l0_0 a0_1).f2), .bool false]) ?_ 3 _ rfl; (with_reducible repeat (first | refine blk_drewN ?_ _ | refine blk_drew ?_ | refine blk_alloc ?_ _)); refine blk_put (cs := #[.int .i64 ((rd_T64 l0_0 a0_1).f0), .int .i64 ((rd_T64 l0_0 a0_1).f1), .int .i64 0, .bool false]) ?_ 2 _ rfl; (with_reducible repeat (first | refine blk_drewN ?_ _ | refine blk_drew ?_ | refine blk_alloc ?_ _)); refine blk_put (cs := #[.int .i64 ((rd_T64 l0_0 a0_1).f0), .int .i64 0, .int .i64 0, .bool false]) ?_ 1 _ rfl; (with_reducible repeat (first | refine blk_drewN ?_ _ | refine blk_drew ?_ | refine blk_alloc ?_ _)); refine blk_put (cs := #[.int .i64 0, .int .i64 0, .int .i64 0, .bool false]) ?_ 0 _ rfl; (with_reducible repeat (first | refine blk_drewN ?_ _ | refine blk_drew ?_ | refine blk_alloc ?_ _)); refine blk_far ?_ NB301_300.out _; (with_reducible repeat (first | refine blk_drewN ?_ _ | refine blk_drew ?_ | refine blk_alloc ?_ _)); refine blk_far ?_ NB301_300.out _; (with_reducible repeat (first | refine blk_drewN ?_ _ | refine blk_drew ?_ | refine blk_alloc ?_ _)); refine blk_far ?_ NB301_300.out _; (with_reducible repeat (first | refine blk_drewN ?_ _ | refine blk_drew ?_ | refine blk_alloc ?_ _)); refine blk_far ?_ NB301_300.out _; (with_reducible repeat (first | refine blk_drewN ?_ _ | refine blk_drew ?_ | refine blk_alloc ?_ _)); exact BK301.out) hb); have n3_ := Aside0.mk (below_step bs hb); clear BK297; clear BK300; clear BK301; clear HB; have BK297 := n0_; have BK300 := n1_; have BK301 := n2_; have HB := n3_; clear n0_ n1_ n2_ n3_; (try clear hb); (try clear hb2); (try clear hk); (try clear hi); have hcz36_0 : w35.cell? ⟨gb297, 0, none⟩ = some (.slice (some ad298) l0_0.length c0_0) := (blk_cell BK297.out 0).trans rfl; have hcz36_1 : w35.cell? ⟨gb297, 1, none⟩ = some (.int .i64 a0_1) := (blk_cell BK297.out 1).trans rfl; have hcz36_2 : w35.cell? ⟨gb297, 2, none⟩ = some (.int .i64 a0_2) := (blk_cell BK297.out 2).trans rfl; have hcz36_3 : w35.cell? ⟨gb297, 3, none⟩ = some (.int .i64 a0_3) := (blk_cell BK297.out 3).trans rfl; have hcz36_4 : w35.cell? ⟨gb297, 4, none⟩ = some (.int .i64 a0_4) := (blk_cell BK297.out 4).trans rfl; have hcz36_5 : w35.cell? ⟨gb297, 5, none⟩ = some (.int .i64 a0_5) := (blk_cell BK297.out 5).trans rfl; have hcz36_6 : w35.cell? ⟨gb297, 6, none⟩ = some (.int .i64 a0_6) := (blk_cell BK297.out 6).trans rfl; have hfz36_0 := blk_frozen BK297.out 0; have hfz36_1 := blk_frozen BK297.out 1; have hfz36_2 := blk_frozen BK297.out 2; have hfz36_3 := blk_frozen BK297.out 3; have hfz36_4 := blk_frozen BK297.out 4; have hfz36_5 := blk_frozen BK297.out 5; have hfz36_6 := blk_frozen BK297.out 6) | (go_at_call 86; (with_reducible refine (spec_lbLetter.calls k a0_3 false _ A24.out).mono ?_); rintro e w37 ⟨rfl, hb⟩; have n0_ := Aside0.mk (blk_below (g := gb297) (o := .cells #[.slice (some ad298) l0_0.length c0_0, .int .i64 a0_1, .int .i64 a0_2, .int .i64 a0_3, .int .i64 a0_4, .int .i64 a0_5, .int .i64 a0_6] 74 (0, 0)) kz hb); have n1_ := Aside0.mk (blk_below (g := gb300) (o := .cells #[.int .i64 ((rd_T64 l0_0 (ji2)).f0), .int .i64 ((rd_T64 l0_0 (ji2)).f1), .int .i64 ((rd_T64 l0_0 (ji2)).f2), .bool ((rd_T64 l0_0 (ji2)).f3)] 64 (0, 0)) kz hb); have n2_ := Aside0.mk (blk_below (g := gb301) (o := .cells #[.int .i64 ((rd_T64 l0_0 a0_1).f0), .int .i64 ((rd_T64 l0_0 a0_1).f1), .int .i64 ((rd_T64 l0_0 a0_1).f2), .bool ((rd_T64 l0_0 a0_1).f3)] 64 (0, 0)) kz hb); have n3_ := Aside0.mk (below_step bs hb); clear BK297; clear BK300; clear BK301; clear HB; have BK297 := n0_; have BK300 := n1_; have BK301 := n2_; have HB := n3_; clear n0_ n1_ n2_ n3_; (try clear hb); (try clear hb2); (try clear hk); (try clear hi); have hcz38_0 : w37.cell? ⟨gb297, 0, none⟩ = some (.slice (some ad298) l0_0.length c0_0) := (blk_cell BK297.out 0).trans rfl; have hcz38_1 : w37.cell? ⟨gb297, 1, none⟩ = some (.int .i64 a0_1) := (blk_cell BK297.out 1).trans rfl; have hcz38_2 : w37.cell? ⟨gb297, 2, none⟩ = some (.int .i64 a0_2) := (blk_cell BK297.out 2).trans rfl; have hcz38_3 : w37.cell? ⟨gb297, 3, none⟩ = some (.int .i64 a0_3) := (blk_cell BK297.out 3).trans rfl; have hcz38_4 : w37.cell? ⟨gb297, 4, none⟩ = some (.int .i64 a0_4) := (blk_cell BK297.out 4).trans rfl; have hcz38_5 : w37.cell? ⟨gb297, 5, none⟩ = some (.int .i64 a0_5) := (blk_cell BK297.out 5).trans rfl; have hcz38_6 : w37.cell? ⟨gb297, 6, none⟩ = some (.int .i64 a0_6) := (blk_cell BK297.out 6).trans rfl; have hfz38_0 := blk_frozen BK297.out 0; have hfz38_1 := blk_frozen BK297.out 1; have hfz38_2 := blk_frozen BK297.out 2; have hfz38_3 := blk_frozen BK297.out 3; have hfz38_4 := blk_frozen BK297.out 4; have hfz38_5 := blk_frozen BK297.out 5; have hfz38_6 := blk_frozen BK297.out 6))
         go_meet
         case rel => exact ⟨_, ((a0_3 == 29)), vz, H', ⟨by first | omega | exact Nat.le_refl _⟩, ⟨kz⟩, ⟨kz⟩, ⟨kz⟩, ⟨bs⟩⟩
       ·replace c23 := Bool.eq_false_iff.mpr c23
        subst c23
        rw [if_neg (show ¬ (false = true) by decide)] at H
        have H' := Aside0.mk H
        clear H
        have hnb39 := NB297_300.out
        have hnc39 := NB300_297.out
        have hnb40 := NB297_301.out
        have hnc40 := NB301_297.out
        have hcz41_0 : w12.cell? ⟨gb297, 0, none⟩ = some (.slice (some ad298) l0_0.length c0_0) := (blk_cell BK297.out 0).trans rfl
        have hcz41_1 : w12.cell? ⟨gb297, 1, none⟩ = some (.int .i64 a0_1) := (blk_cell BK297.out 1).trans rfl
        have hcz41_2 : w12.cell? ⟨gb297, 2, none⟩ = some (.int .i64 a0_2) := (blk_cell BK297.out 2).trans rfl
        have hcz41_3 : w12.cell? ⟨gb297, 3, none⟩ = some (.int .i64 a0_3) := (blk_cell BK297.out 3).trans rfl
        have hcz41_4 : w12.cell? ⟨gb297, 4, none⟩ = some (.int .i64 a0_4) := (blk_cell BK297.out 4).trans rfl
        have hcz41_5 : w12.cell? ⟨gb297, 5, none⟩ = some (.int .i64 a0_5) := (blk_cell BK297.out 5).trans rfl
        have hcz41_6 : w12.cell? ⟨gb297, 6, none⟩ = some (.int .i64 a0_6) := (blk_cell BK297.out 6).trans rfl
        have hfz41_0 := blk_frozen BK297.out 0
        have hfz41_1 := blk_frozen BK297.out 1
        have hfz41_2 := blk_frozen BK297.out 2
        have hfz41_3 := blk_frozen BK297.out 3
        have hfz41_4 := blk_frozen BK297.out 4
        have hfz41_5 := blk_frozen BK297.out 5
        have hfz41_6 := blk_frozen BK297.out 6
        go_wp2_with (first | ((with_reducible refine gate_callee (f := 86) rfl ?_); refine goesL_ (some 25) rfl rfl Try.func86 (by kernel_rfl) rfl #[.int .i64 a0_4] rfl mz ?_; (with_reducible refine (spec_lbLetter.calls k a0_4 false _ A22.out).mono ?_); rintro e w42 ⟨rfl, hb⟩; refine ⟨_, rfl, ?_⟩; have n0_ := Aside0.mk (blk_below (g := gb297) (o := .cells #[.slice (some ad298) l0_0.length c0_0, .int .i64 a0_1, .int .i64 a0_2, .int .i64 a0_3, .int .i64 a0_4, .int .i64 a0_5, .int .i64 a0_6] 74 (0, 0)) (by (with_reducible repeat (first | refine blk_drewN ?_ _ | refine blk_drew ?_ | refine blk_alloc ?_ _)); refine blk_far ?_ NB297_301.out _; (with_reducible repeat (first | refine blk_drewN ?_ _ | refine blk_drew ?_ | refine blk_alloc ?_ _)); refine blk_far ?_ NB297_301.out _; (with_reducible repeat (first | refine blk_drewN ?_ _ | refine blk_drew ?_ | refine blk_alloc ?_ _)); refine blk_far ?_ NB297_301.out _; (with_reducible repeat (first | refine blk_drewN ?_ _ | refine blk_drew ?_ | refine blk_alloc ?_ _)); refine blk_far ?_ NB297_301.out _; (with_reducible repeat (first | refine blk_drewN ?_ _ | refine blk_drew ?_ | refine blk_alloc ?_ _)); refine blk_far ?_ NB297_300.out _; (with_reducible repeat (first | refine blk_drewN ?_ _ | refine blk_drew ?_ | refine blk_alloc ?_ _)); refine blk_far ?_ NB297_300.out _; (with_reducible repeat (first | refine blk_drewN ?_ _ | refine blk_drew ?_ | refine blk_alloc ?_ _)); refine blk_far ?_ NB297_300.out _; (with_reducible repeat (first | refine blk_drewN ?_ _ | refine blk_drew ?_ | refine blk_alloc ?_ _)); refine blk_far ?_ NB297_300.out _; (with_reducible repeat (first | refine blk_drewN ?_ _ | refine blk_drew ?_ | refine blk_alloc ?_ _)); exact BK297.out) hb); have n1_ := Aside0.mk (blk_below (g := gb300) (o := .cells #[.int .i64 ((rd_T64 l0_0 (ji2)).f0), .int .i64 ((rd_T64 l0_0 (ji2)).f1), .int .i64 ((rd_T64 l0_0 (ji2)).f2), .bool ((rd_T64 l0_0 (ji2)).f3)] 64 (0, 0)) (by (with_reducible repeat (first | refine blk_drewN ?_ _ | refine blk_drew ?_ | refine blk_alloc ?_ _)); refine blk_far ?_ NB300_301.out _; (with_reducible repeat (first | refine blk_drewN ?_ _ | refine blk_drew ?_ | refine blk_alloc ?_ _)); refine blk_far ?_ NB300_301.out _; (with_reducible repeat (first | refine blk_drewN ?_ _ | refine blk_drew ?_ | refine blk_alloc ?_ _)); refine blk_far ?_ NB300_301.out _; (with_reducible repeat (first | refine blk_drewN ?_ _ | refine blk_drew ?_ | refine blk_alloc ?_ _)); refine blk_far ?_ NB300_301.out _; (with_reducible repeat (first | refine blk_drewN ?_ _ | refine blk_drew ?_ | refine blk_alloc ?_ _)); refine blk_put (cs := #[.int .i64 ((rd_T64 l0_0 (ji2)).f0), .int .i64 ((rd_T64 l0_0 (ji2)).f1), .int .i64 ((rd_T64 l0_0 (ji2)).f2), .bool false]) ?_ 3 _ rfl; (with_reducible repeat (first | refine blk_drewN ?_ _ | refine blk_drew ?_ | refine blk_alloc ?_ _)); refine blk_put (cs := #[.int .i64 ((rd_T64 l0_0 (ji2)).f0), .int .i64 ((rd_T64 l0_0 (ji2)).f1), .int .i64 0, .bool false]) ?_ 2 _ rfl; (with_reducible repeat (first | refine blk_drewN ?_ _ | refine blk_drew ?_ | refine blk_alloc ?_ _)); refine blk_put (cs := #[.int .i64 ((rd_T64 l0_0 (ji2)).f0), .int .i64 0, .int .i64 0, .bool false]) ?_ 1 _ rfl; (with_reducible repeat (first | refine blk_drewN ?_ _ | refine blk_drew ?_ | refine blk_alloc ?_ _)); refine blk_put (cs := #[.int .i64 0, .int .i64 0, .int .i64 0, .bool false]) ?_ 0 _ rfl; (with_reducible repeat (first | refine blk_drewN ?_ _ | refine blk_drew ?_ | refine blk_alloc ?_ _)); exact BK300.out) hb); have n2_ := Aside0.mk (blk_below (g := gb301) (o := .cells #[.int .i64 ((rd_T64 l0_0 a0_1).f0), .int .i64 ((rd_T64 l0_0 a0_1).f1), .int .i64 ((rd_T64 l0_0 a0_1).f2), .bool ((rd_T64 l0_0 a0_1).f3)] 64 (0, 0)) (by (with_reducible repeat (first | refine blk_drewN ?_ _ | refine blk_drew ?_ | refine blk_alloc ?_ _)); refine blk_put (cs := #[.int .i64 ((rd_T64 l0_0 a0_1).f0), .int .i64 ((rd_T64 l0_0 a0_1).f1), .int .i64 ((rd_T64 l0_0 a0_1).f2), .bool false]) ?_ 3 _ rfl; (with_reducible repeat (first | refine blk_drewN ?_ _ | refine blk_drew ?_ | refine blk_alloc ?_ _)); refine blk_put (cs := #[.int .i64 ((rd_T64 l0_0 a0_1).f0), .int .i64 ((rd_T64 l0_0 a0_1).f1), .int .i64 0, .bool false]) ?_ 2 _ rfl; (with_reducible repeat (first | refine blk_drewN ?_ _ | refine blk_drew ?_ | refine blk_alloc ?_ _)); refine blk_put (cs := #[.int .i64 ((rd_T64 l0_0 a0_1).f0), .int .i64 0, .int .i64 0, .bool false]) ?_ 1 _ rfl; (with_reducible repeat (first | refine blk_drewN ?_ _ | refine blk_drew ?_ | refine blk_alloc ?_ _)); refine blk_put (cs := #[.int .i64 0, .int .i64 0, .int .i64 0, .bool false]) ?_ 0 _ rfl; (with_reducible repeat (first | refine blk_drewN ?_ _ | refine blk_drew ?_ | refine blk_alloc ?_ _)); refine blk_far ?_ NB301_300.out _; (with_reducible repeat (first | refine blk_drewN ?_ _ | refine blk_drew ?_ | refine blk_alloc ?_ _)); refine blk_far ?_ NB301_300.out _; (with_reducible repeat (first | refine blk_drewN ?_ _ | refine blk_drew ?_ | refine blk_alloc ?_ _)); refine blk_far ?_ NB301_300.out _; (with_reducible repeat (first | refine blk_drewN ?_ _ | refine blk_drew ?_ | refine blk_alloc ?_ _)); refine blk_far ?_ NB301_300.out _; (with_reducible repeat (first | refine blk_drewN ?_ _ | refine blk_drew ?_ | refine blk_alloc ?_ _)); exact BK301.out) hb); have n3_ := Aside0.mk (below_step bs hb); clear BK297; clear BK300; clear BK301; clear HB; have BK297 := n0_; have BK300 := n1_; have BK301 := n2_; have HB := n3_; clear n0_ n1_ n2_ n3_; (try clear hb); (try clear hb2); (try clear hk); (try clear hi)))
        go_meet
        case rel => exact ⟨_, (false), vz, H', ⟨by first | omega | exact Nat.le_refl _⟩, ⟨kz⟩, ⟨kz⟩, ⟨kz⟩, ⟨bs⟩⟩
      case rest =>
       clear HC21
       obtain ⟨kq, x22_20, rfl, HA, HJ20, BK297, BK300, BK301, HB⟩ := hcut
       cases kq with
       | zero => exact absurd HA.out (by simp [spec_lbLast.j0])
       | succ kj20 =>
        have H := HA.out
        clear HA
        simp only [spec_lbLast.j0] at H
        by_cases c43 : x22_20 = true
        ·subst c43
         rw [if_pos rfl] at H
         obtain rfl := Option.some.inj H
         go_wp2
         go_ret
         exact ⟨by first | rfl | (simp [errW_none, errW_some] <;> rfl) | (simp only [← hji2]; first | rfl | (simp [errW_none, errW_some] <;> rfl)) | (simp [*, errW_none, errW_some] <;> rfl), bs⟩
        ·replace c43 := Bool.eq_false_iff.mpr c43
         subst c43
         rw [if_neg (show ¬ (false = true) by decide)] at H
         have HC44 := Aside0.mk H
         clear H
         go_upto_region 6 with (fail)
         go_cut [36] (fun v36 wc => ∃ (kq : Nat) (x36_43 : Bool), v36 = .bool x36_43 ∧ Aside0 (spec_lbLast.j1 kq x36_43 l0_0 a0_1 a0_2 a0_3 a0_4 a0_5 a0_6 ((rd_T64 l0_0 (ji2)).f0) ((rd_T64 l0_0 (ji2)).f1) ((rd_T64 l0_0 (ji2)).f2) ((rd_T64 l0_0 (ji2)).f3) = some r) ∧ Aside0 (kq ≤ kj20) ∧ Aside0 (wc.heap[gb297]? = some (.cells #[(.slice (some ad298) l0_0.length c0_0), .int .i64 a0_1, .int .i64 a0_2, .int .i64 a0_3, .int .i64 a0_4, .int .i64 a0_5, .int .i64 a0_6] 74 (0, 0))) ∧ Aside0 (wc.heap[gb300]? = some (.cells #[.int .i64 ((rd_T64 l0_0 (ji2)).f0), .int .i64 ((rd_T64 l0_0 (ji2)).f1), .int .i64 ((rd_T64 l0_0 (ji2)).f2), .bool ((rd_T64 l0_0 (ji2)).f3)] 64 (0, 0))) ∧ Aside0 (wc.heap[gb301]? = some (.cells #[.int .i64 ((rd_T64 l0_0 a0_1).f0), .int .i64 ((rd_T64 l0_0 a0_1).f1), .int .i64 ((rd_T64 l0_0 a0_1).f2), .bool ((rd_T64 l0_0 a0_1).f3)] 64 (0, 0))) ∧ Aside0 (Below w.heap.size w wc))
         case first =>
          have H := HC44.out
          clear HC44
          replace H := Option.bind_eq_some_iff.mp H
          obtain ⟨t304, A450, H⟩ := H
          try dsimp only at H
          have A45 := Aside0.mk A450
          clear A450
          by_cases c46 : t304 = true
          ·subst c46
           rw [if_pos rfl] at H
           by_cases c47 : a0_4 = 35
           ·rw [if_pos c47] at H
            have c47b0 : (a0_4 == 35) = true := beq_iff_eq.mpr c47
            have c47b1 : (a0_4 != 35) = false := bne_eq_false_iff_eq.mpr c47
            clear c47
            (first | rw [c47b0] | (simp only [i64_w]; rw [c47b0]) | skip)
            replace H := Option.bind_eq_some_iff.mp H
            obtain ⟨t305, A480, H⟩ := H
            try dsimp only at H
            have A48 := Aside0.mk A480
            clear A480
            have H' := Aside0.mk H
            clear H
            have hnb49 := NB297_300.out
            have hnc49 := NB300_297.out
            have hnb50 := NB297_301.out
            have hnc50 := NB301_297.out
            have hcz51_0 : wc.cell? ⟨gb297, 0, none⟩ = some (.slice (some ad298) l0_0.length c0_0) := (blk_cell BK297.out 0).trans rfl
            have hcz51_1 : wc.cell? ⟨gb297, 1, none⟩ = some (.int .i64 a0_1) := (blk_cell BK297.out 1).trans rfl
            have hcz51_2 : wc.cell? ⟨gb297, 2, none⟩ = some (.int .i64 a0_2) := (blk_cell BK297.out 2).trans rfl
            have hcz51_3 : wc.cell? ⟨gb297, 3, none⟩ = some (.int .i64 a0_3) := (blk_cell BK297.out 3).trans rfl
            have hcz51_4 : wc.cell? ⟨gb297, 4, none⟩ = some (.int .i64 a0_4) := (blk_cell BK297.out 4).trans rfl
            have hcz51_5 : wc.cell? ⟨gb297, 5, none⟩ = some (.int .i64 a0_5) := (blk_cell BK297.out 5).trans rfl
            have hcz51_6 : wc.cell? ⟨gb297, 6, none⟩ = some (.int .i64 a0_6) := (blk_cell BK297.out 6).trans rfl
            have hfz51_0 := blk_frozen BK297.out 0
            have hfz51_1 := blk_frozen BK297.out 1
            have hfz51_2 := blk_frozen BK297.out 2
            have hfz51_3 := blk_frozen BK297.out 3
            have hfz51_4 := blk_frozen BK297.out 4
            have hfz51_5 := blk_frozen BK297.out 5
            have hfz51_6 := blk_frozen BK297.out 6
            go_wp2_with (first | (go_at_call 88; (with_reducible refine (spec_lbLast_1.calls kj20 a0_3 true _ A45.out).mono ?_); rintro e w52 ⟨rfl, hb⟩; have n0_ := Aside0.mk (blk_below (g := gb297) (o := .cells #[.slice (some ad298) l0_0.length c0_0, .int .i64 a0_1, .int .i64 a0_2, .int .i64 a0_3, .int .i64 a0_4, .int .i64 a0_5, .int .i64 a0_6] 74 (0, 0)) kz hb); have n1_ := Aside0.mk (blk_below (g := gb300) (o := .cells #[.int .i64 ((rd_T64 l0_0 (ji2)).f0), .int .i64 ((rd_T64 l0_0 (ji2)).f1), .int .i64 ((rd_T64 l0_0 (ji2)).f2), .bool ((rd_T64 l0_0 (ji2)).f3)] 64 (0, 0)) kz hb); have n2_ := Aside0.mk (blk_below (g := gb301) (o := .cells #[.int .i64 ((rd_T64 l0_0 a0_1).f0), .int .i64 ((rd_T64 l0_0 a0_1).f1), .int .i64 ((rd_T64 l0_0 a0_1).f2), .bool ((rd_T64 l0_0 a0_1).f3)] 64 (0, 0)) kz hb); have n3_ := Aside0.mk (below_step bs hb); clear BK297; clear BK300; clear BK301; clear HB; have BK297 := n0_; have BK300 := n1_; have BK301 := n2_; have HB := n3_; clear n0_ n1_ n2_ n3_; (try clear hb); (try clear hb2); (try clear hk); (try clear hi); have hcz53_0 : w52.cell? ⟨gb297, 0, none⟩ = some (.slice (some ad298) l0_0.length c0_0) := (blk_cell BK297.out 0).trans rfl; have hcz53_1 : w52.cell? ⟨gb297, 1, none⟩ = some (.int .i64 a0_1) := (blk_cell BK297.out 1).trans rfl; have hcz53_2 : w52.cell? ⟨gb297, 2, none⟩ = some (.int .i64 a0_2) := (blk_cell BK297.out 2).trans rfl; have hcz53_3 : w52.cell? ⟨gb297, 3, none⟩ = some (.int .i64 a0_3) := (blk_cell BK297.out 3).trans rfl; have hcz53_4 : w52.cell? ⟨gb297, 4, none⟩ = some (.int .i64 a0_4) := (blk_cell BK297.out 4).trans rfl; have hcz53_5 : w52.cell? ⟨gb297, 5, none⟩ = some (.int .i64 a0_5) := (blk_cell BK297.out 5).trans rfl; have hcz53_6 : w52.cell? ⟨gb297, 6, none⟩ = some (.int .i64 a0_6) := (blk_cell BK297.out 6).trans rfl; have hfz53_0 := blk_frozen BK297.out 0; have hfz53_1 := blk_frozen BK297.out 1; have hfz53_2 := blk_frozen BK297.out 2; have hfz53_3 := blk_frozen BK297.out 3; have hfz53_4 := blk_frozen BK297.out 4; have hfz53_5 := blk_frozen BK297.out 5; have hfz53_6 := blk_frozen BK297.out 6; have hnb54 := NB301_300.out; have hnc54 := NB300_301.out; have hcz55_0 : w52.cell? ⟨gb301, 0, none⟩ = some (.int .i64 ((rd_T64 l0_0 a0_1).f0)) := (blk_cell BK301.out 0).trans rfl; have hcz55_1 : w52.cell? ⟨gb301, 1, none⟩ = some (.int .i64 ((rd_T64 l0_0 a0_1).f1)) := (blk_cell BK301.out 1).trans rfl; have hcz55_2 : w52.cell? ⟨gb301, 2, none⟩ = some (.int .i64 ((rd_T64 l0_0 a0_1).f2)) := (blk_cell BK301.out 2).trans rfl; have hcz55_3 : w52.cell? ⟨gb301, 3, none⟩ = some (.bool ((rd_T64 l0_0 a0_1).f3)) := (blk_cell BK301.out 3).trans rfl; have hfz55_0 := blk_frozen BK301.out 0; have hfz55_1 := blk_frozen BK301.out 1; have hfz55_2 := blk_frozen BK301.out 2; have hfz55_3 := blk_frozen BK301.out 3) | (go_at_call 89; (with_reducible refine (spec_lbLast_2.calls kj20 ((rd_T64 l0_0 a0_1).f0) ((rd_T64 l0_0 a0_1).f1) ((rd_T64 l0_0 a0_1).f2) ((rd_T64 l0_0 a0_1).f3) t305 _ A48.out).mono ?_); rintro e w56 ⟨rfl, hb⟩; have n0_ := Aside0.mk (blk_below (g := gb297) (o := .cells #[.slice (some ad298) l0_0.length c0_0, .int .i64 a0_1, .int .i64 a0_2, .int .i64 a0_3, .int .i64 a0_4, .int .i64 a0_5, .int .i64 a0_6] 74 (0, 0)) kz hb); have n1_ := Aside0.mk (blk_below (g := gb300) (o := .cells #[.int .i64 ((rd_T64 l0_0 (ji2)).f0), .int .i64 ((rd_T64 l0_0 (ji2)).f1), .int .i64 ((rd_T64 l0_0 (ji2)).f2), .bool ((rd_T64 l0_0 (ji2)).f3)] 64 (0, 0)) kz hb); have n2_ := Aside0.mk (blk_below (g := gb301) (o := .cells #[.int .i64 ((rd_T64 l0_0 a0_1).f0), .int .i64 ((rd_T64 l0_0 a0_1).f1), .int .i64 ((rd_T64 l0_0 a0_1).f2), .bool ((rd_T64 l0_0 a0_1).f3)] 64 (0, 0)) kz hb); have n3_ := Aside0.mk (below_step bs hb); clear BK297; clear BK300; clear BK301; clear HB; have BK297 := n0_; have BK300 := n1_; have BK301 := n2_; have HB := n3_; clear n0_ n1_ n2_ n3_; (try clear hb); (try clear hb2); (try clear hk); (try clear hi)))
            go_meet
            case rel => exact ⟨_, (!t305), vz, H', ⟨by have := HJ20.out; first | omega | exact Nat.le_refl _⟩, ⟨kz⟩, ⟨kz⟩, ⟨kz⟩, ⟨bs⟩⟩
           ·rw [if_neg c47] at H
            have c47b0 : (a0_4 == 35) = false := beq_eq_false_iff_ne.mpr c47
            have c47b1 : (a0_4 != 35) = true := bne_iff_ne.mpr c47
            (first | rw [c47b0] | (simp only [i64_w]; rw [c47b0]) | skip)
            have H' := Aside0.mk H
            clear H
            have hnb57 := NB297_300.out
            have hnc57 := NB300_297.out
            have hnb58 := NB297_301.out
            have hnc58 := NB301_297.out
            have hcz59_0 : wc.cell? ⟨gb297, 0, none⟩ = some (.slice (some ad298) l0_0.length c0_0) := (blk_cell BK297.out 0).trans rfl
            have hcz59_1 : wc.cell? ⟨gb297, 1, none⟩ = some (.int .i64 a0_1) := (blk_cell BK297.out 1).trans rfl
            have hcz59_2 : wc.cell? ⟨gb297, 2, none⟩ = some (.int .i64 a0_2) := (blk_cell BK297.out 2).trans rfl
            have hcz59_3 : wc.cell? ⟨gb297, 3, none⟩ = some (.int .i64 a0_3) := (blk_cell BK297.out 3).trans rfl
            have hcz59_4 : wc.cell? ⟨gb297, 4, none⟩ = some (.int .i64 a0_4) := (blk_cell BK297.out 4).trans rfl
            have hcz59_5 : wc.cell? ⟨gb297, 5, none⟩ = some (.int .i64 a0_5) := (blk_cell BK297.out 5).trans rfl
            have hcz59_6 : wc.cell? ⟨gb297, 6, none⟩ = some (.int .i64 a0_6) := (blk_cell BK297.out 6).trans rfl
            have hfz59_0 := blk_frozen BK297.out 0
            have hfz59_1 := blk_frozen BK297.out 1
            have hfz59_2 := blk_frozen BK297.out 2
            have hfz59_3 := blk_frozen BK297.out 3
            have hfz59_4 := blk_frozen BK297.out 4
            have hfz59_5 := blk_frozen BK297.out 5
            have hfz59_6 := blk_frozen BK297.out 6
            go_wp2_with (first | (go_at_call 88; (with_reducible refine (spec_lbLast_1.calls kj20 a0_3 true _ A45.out).mono ?_); rintro e w60 ⟨rfl, hb⟩; have n0_ := Aside0.mk (blk_below (g := gb297) (o := .cells #[.slice (some ad298) l0_0.length c0_0, .int .i64 a0_1, .int .i64 a0_2, .int .i64 a0_3, .int .i64 a0_4, .int .i64 a0_5, .int .i64 a0_6] 74 (0, 0)) kz hb); have n1_ := Aside0.mk (blk_below (g := gb300) (o := .cells #[.int .i64 ((rd_T64 l0_0 (ji2)).f0), .int .i64 ((rd_T64 l0_0 (ji2)).f1), .int .i64 ((rd_T64 l0_0 (ji2)).f2), .bool ((rd_T64 l0_0 (ji2)).f3)] 64 (0, 0)) kz hb); have n2_ := Aside0.mk (blk_below (g := gb301) (o := .cells #[.int .i64 ((rd_T64 l0_0 a0_1).f0), .int .i64 ((rd_T64 l0_0 a0_1).f1), .int .i64 ((rd_T64 l0_0 a0_1).f2), .bool ((rd_T64 l0_0 a0_1).f3)] 64 (0, 0)) kz hb); have n3_ := Aside0.mk (below_step bs hb); clear BK297; clear BK300; clear BK301; clear HB; have BK297 := n0_; have BK300 := n1_; have BK301 := n2_; have HB := n3_; clear n0_ n1_ n2_ n3_; (try clear hb); (try clear hb2); (try clear hk); (try clear hi); have hcz61_0 : w60.cell? ⟨gb297, 0, none⟩ = some (.slice (some ad298) l0_0.length c0_0) := (blk_cell BK297.out 0).trans rfl; have hcz61_1 : w60.cell? ⟨gb297, 1, none⟩ = some (.int .i64 a0_1) := (blk_cell BK297.out 1).trans rfl; have hcz61_2 : w60.cell? ⟨gb297, 2, none⟩ = some (.int .i64 a0_2) := (blk_cell BK297.out 2).trans rfl; have hcz61_3 : w60.cell? ⟨gb297, 3, none⟩ = some (.int .i64 a0_3) := (blk_cell BK297.out 3).trans rfl; have hcz61_4 : w60.cell? ⟨gb297, 4, none⟩ = some (.int .i64 a0_4) := (blk_cell BK297.out 4).trans rfl; have hcz61_5 : w60.cell? ⟨gb297, 5, none⟩ = some (.int .i64 a0_5) := (blk_cell BK297.out 5).trans rfl; have hcz61_6 : w60.cell? ⟨gb297, 6, none⟩ = some (.int .i64 a0_6) := (blk_cell BK297.out 6).trans rfl; have hfz61_0 := blk_frozen BK297.out 0; have hfz61_1 := blk_frozen BK297.out 1; have hfz61_2 := blk_frozen BK297.out 2; have hfz61_3 := blk_frozen BK297.out 3; have hfz61_4 := blk_frozen BK297.out 4; have hfz61_5 := blk_frozen BK297.out 5; have hfz61_6 := blk_frozen BK297.out 6))
            go_meet
            case rel => exact ⟨_, (false), vz, H', ⟨by have := HJ20.out; first | omega | exact Nat.le_refl _⟩, ⟨kz⟩, ⟨kz⟩, ⟨kz⟩, ⟨bs⟩⟩
          ·replace c46 := Bool.eq_false_iff.mpr c46
           subst c46
           rw [if_neg (show ¬ (false = true) by decide)] at H
           have H' := Aside0.mk H
           clear H
           have hnb62 := NB297_300.out
           have hnc62 := NB300_297.out
           have hnb63 := NB297_301.out
           have hnc63 := NB301_297.out
           have hcz64_0 : wc.cell? ⟨gb297, 0, none⟩ = some (.slice (some ad298) l0_0.length c0_0) := (blk_cell BK297.out 0).trans rfl
           have hcz64_1 : wc.cell? ⟨gb297, 1, none⟩ = some (.int .i64 a0_1) := (blk_cell BK297.out 1).trans rfl
           have hcz64_2 : wc.cell? ⟨gb297, 2, none⟩ = some (.int .i64 a0_2) := (blk_cell BK297.out 2).trans rfl
           have hcz64_3 : wc.cell? ⟨gb297, 3, none⟩ = some (.int .i64 a0_3) := (blk_cell BK297.out 3).trans rfl
           have hcz64_4 : wc.cell? ⟨gb297, 4, none⟩ = some (.int .i64 a0_4) := (blk_cell BK297.out 4).trans rfl
           have hcz64_5 : wc.cell? ⟨gb297, 5, none⟩ = some (.int .i64 a0_5) := (blk_cell BK297.out 5).trans rfl
           have hcz64_6 : wc.cell? ⟨gb297, 6, none⟩ = some (.int .i64 a0_6) := (blk_cell BK297.out 6).trans rfl
           have hfz64_0 := blk_frozen BK297.out 0
           have hfz64_1 := blk_frozen BK297.out 1
           have hfz64_2 := blk_frozen BK297.out 2
           have hfz64_3 := blk_frozen BK297.out 3
           have hfz64_4 := blk_frozen BK297.out 4
           have hfz64_5 := blk_frozen BK297.out 5
           have hfz64_6 := blk_frozen BK297.out 6
           go_wp2_with (first | (go_at_call 88; (with_reducible refine (spec_lbLast_1.calls kj20 a0_3 false _ A45.out).mono ?_); rintro e w65 ⟨rfl, hb⟩; have n0_ := Aside0.mk (blk_below (g := gb297) (o := .cells #[.slice (some ad298) l0_0.length c0_0, .int .i64 a0_1, .int .i64 a0_2, .int .i64 a0_3, .int .i64 a0_4, .int .i64 a0_5, .int .i64 a0_6] 74 (0, 0)) kz hb); have n1_ := Aside0.mk (blk_below (g := gb300) (o := .cells #[.int .i64 ((rd_T64 l0_0 (ji2)).f0), .int .i64 ((rd_T64 l0_0 (ji2)).f1), .int .i64 ((rd_T64 l0_0 (ji2)).f2), .bool ((rd_T64 l0_0 (ji2)).f3)] 64 (0, 0)) kz hb); have n2_ := Aside0.mk (blk_below (g := gb301) (o := .cells #[.int .i64 ((rd_T64 l0_0 a0_1).f0), .int .i64 ((rd_T64 l0_0 a0_1).f1), .int .i64 ((rd_T64 l0_0 a0_1).f2), .bool ((rd_T64 l0_0 a0_1).f3)] 64 (0, 0)) kz hb); have n3_ := Aside0.mk (below_step bs hb); clear BK297; clear BK300; clear BK301; clear HB; have BK297 := n0_; have BK300 := n1_; have BK301 := n2_; have HB := n3_; clear n0_ n1_ n2_ n3_; (try clear hb); (try clear hb2); (try clear hk); (try clear hi)))
           go_meet
           case rel => exact ⟨_, (false), vz, H', ⟨by have := HJ20.out; first | omega | exact Nat.le_refl _⟩, ⟨kz⟩, ⟨kz⟩, ⟨kz⟩, ⟨bs⟩⟩
         case rest =>
          clear HC44
          obtain ⟨kq, x36_43, rfl, HA, HJ43, BK297, BK300, BK301, HB⟩ := hcut
          cases kq with
          | zero => exact absurd HA.out (by simp [spec_lbLast.j1])
          | succ kj43 =>
           have H := HA.out
           clear HA
           simp only [spec_lbLast.j1] at H
           have HC66 := Aside0.mk H
           clear H
           go_upto_if 36 with (fail)
           go_cut [36] (fun v36 wc => ∃ (kq : Nat) (x36_65 : Bool), v36 = .bool x36_65 ∧ Aside0 (spec_lbLast.j2 kq x36_65 l0_0 a0_1 a0_2 a0_3 a0_4 a0_5 a0_6 ((rd_T64 l0_0 (ji2)).f0) ((rd_T64 l0_0 (ji2)).f1) ((rd_T64 l0_0 (ji2)).f2) ((rd_T64 l0_0 (ji2)).f3) = some r) ∧ Aside0 (kq ≤ kj43) ∧ Aside0 (wc.heap[gb297]? = some (.cells #[(.slice (some ad298) l0_0.length c0_0), .int .i64 a0_1, .int .i64 a0_2, .int .i64 a0_3, .int .i64 a0_4, .int .i64 a0_5, .int .i64 a0_6] 74 (0, 0))) ∧ Aside0 (wc.heap[gb300]? = some (.cells #[.int .i64 ((rd_T64 l0_0 (ji2)).f0), .int .i64 ((rd_T64 l0_0 (ji2)).f1), .int .i64 ((rd_T64 l0_0 (ji2)).f2), .bool ((rd_T64 l0_0 (ji2)).f3)] 64 (0, 0))) ∧ Aside0 (wc.heap[gb301]? = some (.cells #[.int .i64 ((rd_T64 l0_0 a0_1).f0), .int .i64 ((rd_T64 l0_0 a0_1).f1), .int .i64 ((rd_T64 l0_0 a0_1).f2), .bool ((rd_T64 l0_0 a0_1).f3)] 64 (0, 0))) ∧ Aside0 (Below w.heap.size w wc))
           case first =>
            have H := HC66.out
            clear HC66
            by_cases c67 : x36_43 = true
            ·subst c67
             rw [if_pos rfl] at H
             have H' := Aside0.mk H
             clear H
             go_wp2
             go_meet
             case rel => exact ⟨_, (true), vz, H', ⟨by have := HJ20.out; have := HJ43.out; first | omega | exact Nat.le_refl _⟩, ⟨kz⟩, ⟨kz⟩, ⟨kz⟩, ⟨bs⟩⟩
            ·replace c67 := Bool.eq_false_iff.mpr c67
             subst c67
             rw [if_neg (show ¬ (false = true) by decide)] at H
             by_cases c68 : a0_3 = 19
             ·rw [if_pos c68] at H
              have c68b0 : (a0_3 == 19) = true := beq_iff_eq.mpr c68
              have c68b1 : (a0_3 != 19) = false := bne_eq_false_iff_eq.mpr c68
              clear c68
              (first | rw [c68b0] | (simp only [i64_w]; rw [c68b0]) | skip)
              replace H := Option.bind_eq_some_iff.mp H
              obtain ⟨t306, A690, H⟩ := H
              try dsimp only at H
              have A69 := Aside0.mk A690
              clear A690
              by_cases c70 : t306 = true
              ·subst c70
               rw [if_pos rfl] at H
               have H' := Aside0.mk H
               clear H
               have hnb71 := NB297_300.out
               have hnc71 := NB300_297.out
               have hnb72 := NB297_301.out
               have hnc72 := NB301_297.out
               have hcz73_0 : wc.cell? ⟨gb297, 0, none⟩ = some (.slice (some ad298) l0_0.length c0_0) := (blk_cell BK297.out 0).trans rfl
               have hcz73_1 : wc.cell? ⟨gb297, 1, none⟩ = some (.int .i64 a0_1) := (blk_cell BK297.out 1).trans rfl
               have hcz73_2 : wc.cell? ⟨gb297, 2, none⟩ = some (.int .i64 a0_2) := (blk_cell BK297.out 2).trans rfl
               have hcz73_3 : wc.cell? ⟨gb297, 3, none⟩ = some (.int .i64 a0_3) := (blk_cell BK297.out 3).trans rfl
               have hcz73_4 : wc.cell? ⟨gb297, 4, none⟩ = some (.int .i64 a0_4) := (blk_cell BK297.out 4).trans rfl
               have hcz73_5 : wc.cell? ⟨gb297, 5, none⟩ = some (.int .i64 a0_5) := (blk_cell BK297.out 5).trans rfl
               have hcz73_6 : wc.cell? ⟨gb297, 6, none⟩ = some (.int .i64 a0_6) := (blk_cell BK297.out 6).trans rfl
               have hfz73_0 := blk_frozen BK297.out 0
               have hfz73_1 := blk_frozen BK297.out 1
               have hfz73_2 := blk_frozen BK297.out 2
               have hfz73_3 := blk_frozen BK297.out 3
               have hfz73_4 := blk_frozen BK297.out 4
               have hfz73_5 := blk_frozen BK297.out 5
               have hfz73_6 := blk_frozen BK297.out 6
               have hnb74 := NB300_301.out
               have hnc74 := NB301_300.out
               have hcz75_0 : wc.cell? ⟨gb300, 0, none⟩ = some (.int .i64 ((rd_T64 l0_0 (ji2)).f0)) := (blk_cell BK300.out 0).trans rfl
               have hcz75_1 : wc.cell? ⟨gb300, 1, none⟩ = some (.int .i64 ((rd_T64 l0_0 (ji2)).f1)) := (blk_cell BK300.out 1).trans rfl
               have hcz75_2 : wc.cell? ⟨gb300, 2, none⟩ = some (.int .i64 ((rd_T64 l0_0 (ji2)).f2)) := (blk_cell BK300.out 2).trans rfl
               have hcz75_3 : wc.cell? ⟨gb300, 3, none⟩ = some (.bool ((rd_T64 l0_0 (ji2)).f3)) := (blk_cell BK300.out 3).trans rfl
               have hfz75_0 := blk_frozen BK300.out 0
               have hfz75_1 := blk_frozen BK300.out 1
               have hfz75_2 := blk_frozen BK300.out 2
               have hfz75_3 := blk_frozen BK300.out 3
               go_wp2_with (first | (go_at_call 89; (with_reducible refine (spec_lbLast_2.calls kj43 ((rd_T64 l0_0 (ji2)).f0) ((rd_T64 l0_0 (ji2)).f1) ((rd_T64 l0_0 (ji2)).f2) ((rd_T64 l0_0 (ji2)).f3) true _ A69.out).mono ?_); rintro e w76 ⟨rfl, hb⟩; have n0_ := Aside0.mk (blk_below (g := gb297) (o := .cells #[.slice (some ad298) l0_0.length c0_0, .int .i64 a0_1, .int .i64 a0_2, .int .i64 a0_3, .int .i64 a0_4, .int .i64 a0_5, .int .i64 a0_6] 74 (0, 0)) kz hb); have n1_ := Aside0.mk (blk_below (g := gb300) (o := .cells #[.int .i64 ((rd_T64 l0_0 (ji2)).f0), .int .i64 ((rd_T64 l0_0 (ji2)).f1), .int .i64 ((rd_T64 l0_0 (ji2)).f2), .bool ((rd_T64 l0_0 (ji2)).f3)] 64 (0, 0)) kz hb); have n2_ := Aside0.mk (blk_below (g := gb301) (o := .cells #[.int .i64 ((rd_T64 l0_0 a0_1).f0), .int .i64 ((rd_T64 l0_0 a0_1).f1), .int .i64 ((rd_T64 l0_0 a0_1).f2), .bool ((rd_T64 l0_0 a0_1).f3)] 64 (0, 0)) kz hb); have n3_ := Aside0.mk (below_step bs hb); clear BK297; clear BK300; clear BK301; clear HB; have BK297 := n0_; have BK300 := n1_; have BK301 := n2_; have HB := n3_; clear n0_ n1_ n2_ n3_; (try clear hb); (try clear hb2); (try clear hk); (try clear hi)))
               go_meet
               case rel => exact ⟨_, (false), vz, H', ⟨by have := HJ20.out; have := HJ43.out; first | omega | exact Nat.le_refl _⟩, ⟨kz⟩, ⟨kz⟩, ⟨kz⟩, ⟨bs⟩⟩
              ·replace c70 := Bool.eq_false_iff.mpr c70
               subst c70
               rw [if_neg (show ¬ (false = true) by decide)] at H
               replace H := Option.bind_eq_some_iff.mp H
               obtain ⟨t307, A770, H⟩ := H
               try dsimp only at H
               have A77 := Aside0.mk A770
               clear A770
               have H' := Aside0.mk H
               clear H
               have hnb78 := NB297_300.out
               have hnc78 := NB300_297.out
               have hnb79 := NB297_301.out
               have hnc79 := NB301_297.out
               have hcz80_0 : wc.cell? ⟨gb297, 0, none⟩ = some (.slice (some ad298) l0_0.length c0_0) := (blk_cell BK297.out 0).trans rfl
               have hcz80_1 : wc.cell? ⟨gb297, 1, none⟩ = some (.int .i64 a0_1) := (blk_cell BK297.out 1).trans rfl
               have hcz80_2 : wc.cell? ⟨gb297, 2, none⟩ = some (.int .i64 a0_2) := (blk_cell BK297.out 2).trans rfl
               have hcz80_3 : wc.cell? ⟨gb297, 3, none⟩ = some (.int .i64 a0_3) := (blk_cell BK297.out 3).trans rfl
               have hcz80_4 : wc.cell? ⟨gb297, 4, none⟩ = some (.int .i64 a0_4) := (blk_cell BK297.out 4).trans rfl
               have hcz80_5 : wc.cell? ⟨gb297, 5, none⟩ = some (.int .i64 a0_5) := (blk_cell BK297.out 5).trans rfl
               have hcz80_6 : wc.cell? ⟨gb297, 6, none⟩ = some (.int .i64 a0_6) := (blk_cell BK297.out 6).trans rfl
               have hfz80_0 := blk_frozen BK297.out 0
               have hfz80_1 := blk_frozen BK297.out 1
               have hfz80_2 := blk_frozen BK297.out 2
               have hfz80_3 := blk_frozen BK297.out 3
               have hfz80_4 := blk_frozen BK297.out 4
               have hfz80_5 := blk_frozen BK297.out 5
               have hfz80_6 := blk_frozen BK297.out 6
               have hnb81 := NB300_301.out
               have hnc81 := NB301_300.out
               have hcz82_0 : wc.cell? ⟨gb300, 0, none⟩ = some (.int .i64 ((rd_T64 l0_0 (ji2)).f0)) := (blk_cell BK300.out 0).trans rfl
               have hcz82_1 : wc.cell? ⟨gb300, 1, none⟩ = some (.int .i64 ((rd_T64 l0_0 (ji2)).f1)) := (blk_cell BK300.out 1).trans rfl
               have hcz82_2 : wc.cell? ⟨gb300, 2, none⟩ = some (.int .i64 ((rd_T64 l0_0 (ji2)).f2)) := (blk_cell BK300.out 2).trans rfl
               have hcz82_3 : wc.cell? ⟨gb300, 3, none⟩ = some (.bool ((rd_T64 l0_0 (ji2)).f3)) := (blk_cell BK300.out 3).trans rfl
               have hfz82_0 := blk_frozen BK300.out 0
               have hfz82_1 := blk_frozen BK300.out 1
               have hfz82_2 := blk_frozen BK300.out 2
               have hfz82_3 := blk_frozen BK300.out 3
               go_wp2_with (first | (go_at_call 89; (with_reducible refine (spec_lbLast_2.calls kj43 ((rd_T64 l0_0 (ji2)).f0) ((rd_T64 l0_0 (ji2)).f1) ((rd_T64 l0_0 (ji2)).f2) ((rd_T64 l0_0 (ji2)).f3) false _ A69.out).mono ?_); rintro e w83 ⟨rfl, hb⟩; have n0_ := Aside0.mk (blk_below (g := gb297) (o := .cells #[.slice (some ad298) l0_0.length c0_0, .int .i64 a0_1, .int .i64 a0_2, .int .i64 a0_3, .int .i64 a0_4, .int .i64 a0_5, .int .i64 a0_6] 74 (0, 0)) kz hb); have n1_ := Aside0.mk (blk_below (g := gb300) (o := .cells #[.int .i64 ((rd_T64 l0_0 (ji2)).f0), .int .i64 ((rd_T64 l0_0 (ji2)).f1), .int .i64 ((rd_T64 l0_0 (ji2)).f2), .bool ((rd_T64 l0_0 (ji2)).f3)] 64 (0, 0)) kz hb); have n2_ := Aside0.mk (blk_below (g := gb301) (o := .cells #[.int .i64 ((rd_T64 l0_0 a0_1).f0), .int .i64 ((rd_T64 l0_0 a0_1).f1), .int .i64 ((rd_T64 l0_0 a0_1).f2), .bool ((rd_T64 l0_0 a0_1).f3)] 64 (0, 0)) kz hb); have n3_ := Aside0.mk (below_step bs hb); clear BK297; clear BK300; clear BK301; clear HB; have BK297 := n0_; have BK300 := n1_; have BK301 := n2_; have HB := n3_; clear n0_ n1_ n2_ n3_; (try clear hb); (try clear hb2); (try clear hk); (try clear hi); have hcz84_0 : w83.cell? ⟨gb297, 0, none⟩ = some (.slice (some ad298) l0_0.length c0_0) := (blk_cell BK297.out 0).trans rfl; have hcz84_1 : w83.cell? ⟨gb297, 1, none⟩ = some (.int .i64 a0_1) := (blk_cell BK297.out 1).trans rfl; have hcz84_2 : w83.cell? ⟨gb297, 2, none⟩ = some (.int .i64 a0_2) := (blk_cell BK297.out 2).trans rfl; have hcz84_3 : w83.cell? ⟨gb297, 3, none⟩ = some (.int .i64 a0_3) := (blk_cell BK297.out 3).trans rfl; have hcz84_4 : w83.cell? ⟨gb297, 4, none⟩ = some (.int .i64 a0_4) := (blk_cell BK297.out 4).trans rfl; have hcz84_5 : w83.cell? ⟨gb297, 5, none⟩ = some (.int .i64 a0_5) := (blk_cell BK297.out 5).trans rfl; have hcz84_6 : w83.cell? ⟨gb297, 6, none⟩ = some (.int .i64 a0_6) := (blk_cell BK297.out 6).trans rfl; have hfz84_0 := blk_frozen BK297.out 0; have hfz84_1 := blk_frozen BK297.out 1; have hfz84_2 := blk_frozen BK297.out 2; have hfz84_3 := blk_frozen BK297.out 3; have hfz84_4 := blk_frozen BK297.out 4; have hfz84_5 := blk_frozen BK297.out 5; have hfz84_6 := blk_frozen BK297.out 6) | (go_at_call 88; (with_reducible refine (spec_lbLast_1.calls kj43 a0_4 t307 _ A77.out).mono ?_); rintro e w85 ⟨rfl, hb⟩; have n0_ := Aside0.mk (blk_below (g := gb297) (o := .cells #[.slice (some ad298) l0_0.length c0_0, .int .i64 a0_1, .int .i64 a0_2, .int .i64 a0_3, .int .i64 a0_4, .int .i64 a0_5, .int .i64 a0_6] 74 (0, 0)) kz hb); have n1_ := Aside0.mk (blk_below (g := gb300) (o := .cells #[.int .i64 ((rd_T64 l0_0 (ji2)).f0), .int .i64 ((rd_T64 l0_0 (ji2)).f1), .int .i64 ((rd_T64 l0_0 (ji2)).f2), .bool ((rd_T64 l0_0 (ji2)).f3)] 64 (0, 0)) kz hb); have n2_ := Aside0.mk (blk_below (g := gb301) (o := .cells #[.int .i64 ((rd_T64 l0_0 a0_1).f0), .int .i64 ((rd_T64 l0_0 a0_1).f1), .int .i64 ((rd_T64 l0_0 a0_1).f2), .bool ((rd_T64 l0_0 a0_1).f3)] 64 (0, 0)) kz hb); have n3_ := Aside0.mk (below_step bs hb); clear BK297; clear BK300; clear BK301; clear HB; have BK297 := n0_; have BK300 := n1_; have BK301 := n2_; have HB := n3_; clear n0_ n1_ n2_ n3_; (try clear hb); (try clear hb2); (try clear hk); (try clear hi)))
               go_meet
               case rel => exact ⟨_, (t307), vz, H', ⟨by have := HJ20.out; have := HJ43.out; first | omega | exact Nat.le_refl _⟩, ⟨kz⟩, ⟨kz⟩, ⟨kz⟩, ⟨bs⟩⟩
             ·rw [if_neg c68] at H
              have c68b0 : (a0_3 == 19) = false := beq_eq_false_iff_ne.mpr c68
              have c68b1 : (a0_3 != 19) = true := bne_iff_ne.mpr c68
              (first | rw [c68b0] | (simp only [i64_w]; rw [c68b0]) | skip)
              have H' := Aside0.mk H
              clear H
              have hnb86 := NB297_300.out
              have hnc86 := NB300_297.out
              have hnb87 := NB297_301.out
              have hnc87 := NB301_297.out
              have hcz88_0 : wc.cell? ⟨gb297, 0, none⟩ = some (.slice (some ad298) l0_0.length c0_0) := (blk_cell BK297.out 0).trans rfl
              have hcz88_1 : wc.cell? ⟨gb297, 1, none⟩ = some (.int .i64 a0_1) := (blk_cell BK297.out 1).trans rfl
              have hcz88_2 : wc.cell? ⟨gb297, 2, none⟩ = some (.int .i64 a0_2) := (blk_cell BK297.out 2).trans rfl
              have hcz88_3 : wc.cell? ⟨gb297, 3, none⟩ = some (.int .i64 a0_3) := (blk_cell BK297.out 3).trans rfl
              have hcz88_4 : wc.cell? ⟨gb297, 4, none⟩ = some (.int .i64 a0_4) := (blk_cell BK297.out 4).trans rfl
              have hcz88_5 : wc.cell? ⟨gb297, 5, none⟩ = some (.int .i64 a0_5) := (blk_cell BK297.out 5).trans rfl
              have hcz88_6 : wc.cell? ⟨gb297, 6, none⟩ = some (.int .i64 a0_6) := (blk_cell BK297.out 6).trans rfl
              have hfz88_0 := blk_frozen BK297.out 0
              have hfz88_1 := blk_frozen BK297.out 1
              have hfz88_2 := blk_frozen BK297.out 2
              have hfz88_3 := blk_frozen BK297.out 3
              have hfz88_4 := blk_frozen BK297.out 4
              have hfz88_5 := blk_frozen BK297.out 5
              have hfz88_6 := blk_frozen BK297.out 6
              go_wp2
              go_meet
              case rel => exact ⟨_, (false), vz, H', ⟨by have := HJ20.out; have := HJ43.out; first | omega | exact Nat.le_refl _⟩, ⟨kz⟩, ⟨kz⟩, ⟨kz⟩, ⟨bs⟩⟩
           case rest =>
            clear HC66
            obtain ⟨kq, x36_65, rfl, HA, HJ65, BK297, BK300, BK301, HB⟩ := hcut
            cases kq with
            | zero => exact absurd HA.out (by simp [spec_lbLast.j2])
            | succ kj65 =>
             have H := HA.out
             clear HA
             simp only [spec_lbLast.j2] at H
             by_cases c89 : x36_65 = true
             ·subst c89
              rw [if_pos rfl] at H
              obtain rfl := Option.some.inj H
              go_wp2
              go_ret
              exact ⟨by first | rfl | (simp [errW_none, errW_some] <;> rfl) | (simp only [← hji2]; first | rfl | (simp [errW_none, errW_some] <;> rfl)) | (simp [*, errW_none, errW_some] <;> rfl), bs⟩
             ·replace c89 := Bool.eq_false_iff.mpr c89
              subst c89
              rw [if_neg (show ¬ (false = true) by decide)] at H
              by_cases c90 : a0_4 = 21
              ·rw [if_pos c90] at H
               have c90b0 : (a0_4 == 21) = true := beq_iff_eq.mpr c90
               have c90b1 : (a0_4 != 21) = false := bne_eq_false_iff_eq.mpr c90
               clear c90
               by_cases c91 : a0_3 = 20
               ·rw [if_pos c91] at H
                have c91b0 : (a0_3 == 20) = true := beq_iff_eq.mpr c91
                have c91b1 : (a0_3 != 20) = false := bne_eq_false_iff_eq.mpr c91
                clear c91
                obtain rfl := Option.some.inj H
                have hnb92 := NB297_300.out
                have hnc92 := NB300_297.out
                have hnb93 := NB297_301.out
                have hnc93 := NB301_297.out
                have hcz94_0 : wc.cell? ⟨gb297, 0, none⟩ = some (.slice (some ad298) l0_0.length c0_0) := (blk_cell BK297.out 0).trans rfl
                have hcz94_1 : wc.cell? ⟨gb297, 1, none⟩ = some (.int .i64 a0_1) := (blk_cell BK297.out 1).trans rfl
                have hcz94_2 : wc.cell? ⟨gb297, 2, none⟩ = some (.int .i64 a0_2) := (blk_cell BK297.out 2).trans rfl
                have hcz94_3 : wc.cell? ⟨gb297, 3, none⟩ = some (.int .i64 a0_3) := (blk_cell BK297.out 3).trans rfl
                have hcz94_4 : wc.cell? ⟨gb297, 4, none⟩ = some (.int .i64 a0_4) := (blk_cell BK297.out 4).trans rfl
                have hcz94_5 : wc.cell? ⟨gb297, 5, none⟩ = some (.int .i64 a0_5) := (blk_cell BK297.out 5).trans rfl
                have hcz94_6 : wc.cell? ⟨gb297, 6, none⟩ = some (.int .i64 a0_6) := (blk_cell BK297.out 6).trans rfl
                have hfz94_0 := blk_frozen BK297.out 0
                have hfz94_1 := blk_frozen BK297.out 1
                have hfz94_2 := blk_frozen BK297.out 2
                have hfz94_3 := blk_frozen BK297.out 3
                have hfz94_4 := blk_frozen BK297.out 4
                have hfz94_5 := blk_frozen BK297.out 5
                have hfz94_6 := blk_frozen BK297.out 6
                go_wp2
                go_ret
                exact ⟨by first | rfl | (simp [errW_none, errW_some] <;> rfl) | (simp only [← hji2]; first | rfl | (simp [errW_none, errW_some] <;> rfl)) | (simp [*, errW_none, errW_some] <;> rfl), bs⟩
               ·rw [if_neg c91] at H
                have c91b0 : (a0_3 == 20) = false := beq_eq_false_iff_ne.mpr c91
                have c91b1 : (a0_3 != 20) = true := bne_iff_ne.mpr c91
                by_cases c95 : ((rd_T64 l0_0 (ji2)).f3) = true
                ·rw [if_pos c95] at H
                 have c95b0 : ((rd_T64 l0_0 (ji2)).f3) = true := c95
                 clear c95
                 by_cases c96 : ((rd_T64 l0_0 (ji2)).f1) = 2
                 ·rw [if_pos c96] at H
                  have c96b0 : (((rd_T64 l0_0 (ji2)).f1) == 2) = true := beq_iff_eq.mpr c96
                  have c96b1 : (((rd_T64 l0_0 (ji2)).f1) != 2) = false := bne_eq_false_iff_eq.mpr c96
                  clear c96
                  obtain rfl := Option.some.inj H
                  have hnb97 := NB297_300.out
                  have hnc97 := NB300_297.out
                  have hnb98 := NB297_301.out
                  have hnc98 := NB301_297.out
                  have hcz99_0 : wc.cell? ⟨gb297, 0, none⟩ = some (.slice (some ad298) l0_0.length c0_0) := (blk_cell BK297.out 0).trans rfl
                  have hcz99_1 : wc.cell? ⟨gb297, 1, none⟩ = some (.int .i64 a0_1) := (blk_cell BK297.out 1).trans rfl
                  have hcz99_2 : wc.cell? ⟨gb297, 2, none⟩ = some (.int .i64 a0_2) := (blk_cell BK297.out 2).trans rfl
                  have hcz99_3 : wc.cell? ⟨gb297, 3, none⟩ = some (.int .i64 a0_3) := (blk_cell BK297.out 3).trans rfl
                  have hcz99_4 : wc.cell? ⟨gb297, 4, none⟩ = some (.int .i64 a0_4) := (blk_cell BK297.out 4).trans rfl
                  have hcz99_5 : wc.cell? ⟨gb297, 5, none⟩ = some (.int .i64 a0_5) := (blk_cell BK297.out 5).trans rfl
                  have hcz99_6 : wc.cell? ⟨gb297, 6, none⟩ = some (.int .i64 a0_6) := (blk_cell BK297.out 6).trans rfl
                  have hfz99_0 := blk_frozen BK297.out 0
                  have hfz99_1 := blk_frozen BK297.out 1
                  have hfz99_2 := blk_frozen BK297.out 2
                  have hfz99_3 := blk_frozen BK297.out 3
                  have hfz99_4 := blk_frozen BK297.out 4
                  have hfz99_5 := blk_frozen BK297.out 5
                  have hfz99_6 := blk_frozen BK297.out 6
                  have hnb100 := NB300_301.out
                  have hnc100 := NB301_300.out
                  have hcz101_0 : wc.cell? ⟨gb300, 0, none⟩ = some (.int .i64 ((rd_T64 l0_0 (ji2)).f0)) := (blk_cell BK300.out 0).trans rfl
                  have hcz101_1 : wc.cell? ⟨gb300, 1, none⟩ = some (.int .i64 ((rd_T64 l0_0 (ji2)).f1)) := (blk_cell BK300.out 1).trans rfl
                  have hcz101_2 : wc.cell? ⟨gb300, 2, none⟩ = some (.int .i64 ((rd_T64 l0_0 (ji2)).f2)) := (blk_cell BK300.out 2).trans rfl
                  have hcz101_3 : wc.cell? ⟨gb300, 3, none⟩ = some (.bool ((rd_T64 l0_0 (ji2)).f3)) := (blk_cell BK300.out 3).trans rfl
                  have hfz101_0 := blk_frozen BK300.out 0
                  have hfz101_1 := blk_frozen BK300.out 1
                  have hfz101_2 := blk_frozen BK300.out 2
                  have hfz101_3 := blk_frozen BK300.out 3
                  go_wp2
                  go_ret
                  exact ⟨by first | rfl | (simp [errW_none, errW_some] <;> rfl) | (simp only [← hji2]; first | rfl | (simp [errW_none, errW_some] <;> rfl)) | (simp [*, errW_none, errW_some] <;> rfl), bs⟩
                 ·rw [if_neg c96] at H
                  have c96b0 : (((rd_T64 l0_0 (ji2)).f1) == 2) = false := beq_eq_false_iff_ne.mpr c96
                  have c96b1 : (((rd_T64 l0_0 (ji2)).f1) != 2) = true := bne_iff_ne.mpr c96
                  have H' := Aside0.mk H
                  clear H
                  have hnb102 := NB297_300.out
                  have hnc102 := NB300_297.out
                  have hnb103 := NB297_301.out
                  have hnc103 := NB301_297.out
                  have hcz104_0 : wc.cell? ⟨gb297, 0, none⟩ = some (.slice (some ad298) l0_0.length c0_0) := (blk_cell BK297.out 0).trans rfl
                  have hcz104_1 : wc.cell? ⟨gb297, 1, none⟩ = some (.int .i64 a0_1) := (blk_cell BK297.out 1).trans rfl
                  have hcz104_2 : wc.cell? ⟨gb297, 2, none⟩ = some (.int .i64 a0_2) := (blk_cell BK297.out 2).trans rfl
                  have hcz104_3 : wc.cell? ⟨gb297, 3, none⟩ = some (.int .i64 a0_3) := (blk_cell BK297.out 3).trans rfl
                  have hcz104_4 : wc.cell? ⟨gb297, 4, none⟩ = some (.int .i64 a0_4) := (blk_cell BK297.out 4).trans rfl
                  have hcz104_5 : wc.cell? ⟨gb297, 5, none⟩ = some (.int .i64 a0_5) := (blk_cell BK297.out 5).trans rfl
                  have hcz104_6 : wc.cell? ⟨gb297, 6, none⟩ = some (.int .i64 a0_6) := (blk_cell BK297.out 6).trans rfl
                  have hfz104_0 := blk_frozen BK297.out 0
                  have hfz104_1 := blk_frozen BK297.out 1
                  have hfz104_2 := blk_frozen BK297.out 2
                  have hfz104_3 := blk_frozen BK297.out 3
                  have hfz104_4 := blk_frozen BK297.out 4
                  have hfz104_5 := blk_frozen BK297.out 5
                  have hfz104_6 := blk_frozen BK297.out 6
                  have hnb105 := NB300_301.out
                  have hnc105 := NB301_300.out
                  have hcz106_0 : wc.cell? ⟨gb300, 0, none⟩ = some (.int .i64 ((rd_T64 l0_0 (ji2)).f0)) := (blk_cell BK300.out 0).trans rfl
                  have hcz106_1 : wc.cell? ⟨gb300, 1, none⟩ = some (.int .i64 ((rd_T64 l0_0 (ji2)).f1)) := (blk_cell BK300.out 1).trans rfl
                  have hcz106_2 : wc.cell? ⟨gb300, 2, none⟩ = some (.int .i64 ((rd_T64 l0_0 (ji2)).f2)) := (blk_cell BK300.out 2).trans rfl
                  have hcz106_3 : wc.cell? ⟨gb300, 3, none⟩ = some (.bool ((rd_T64 l0_0 (ji2)).f3)) := (blk_cell BK300.out 3).trans rfl
                  have hfz106_0 := blk_frozen BK300.out 0
                  have hfz106_1 := blk_frozen BK300.out 1
                  have hfz106_2 := blk_frozen BK300.out 2
                  have hfz106_3 := blk_frozen BK300.out 3
                  go_wp2
                  go_meet
                  case rel => exact ⟨_, H', ⟨by have := HJ20.out; have := HJ43.out; have := HJ65.out; first | omega | exact Nat.le_refl _⟩, ⟨kz⟩, ⟨kz⟩, ⟨kz⟩, ⟨bs⟩⟩
                ·rw [if_neg c95] at H
                 have c95b0 : ((rd_T64 l0_0 (ji2)).f3) = false := by simpa using c95
                 clear c95
                 have H' := Aside0.mk H
                 clear H
                 have hnb107 := NB297_300.out
                 have hnc107 := NB300_297.out
                 have hnb108 := NB297_301.out
                 have hnc108 := NB301_297.out
                 have hcz109_0 : wc.cell? ⟨gb297, 0, none⟩ = some (.slice (some ad298) l0_0.length c0_0) := (blk_cell BK297.out 0).trans rfl
                 have hcz109_1 : wc.cell? ⟨gb297, 1, none⟩ = some (.int .i64 a0_1) := (blk_cell BK297.out 1).trans rfl
                 have hcz109_2 : wc.cell? ⟨gb297, 2, none⟩ = some (.int .i64 a0_2) := (blk_cell BK297.out 2).trans rfl
                 have hcz109_3 : wc.cell? ⟨gb297, 3, none⟩ = some (.int .i64 a0_3) := (blk_cell BK297.out 3).trans rfl
                 have hcz109_4 : wc.cell? ⟨gb297, 4, none⟩ = some (.int .i64 a0_4) := (blk_cell BK297.out 4).trans rfl
                 have hcz109_5 : wc.cell? ⟨gb297, 5, none⟩ = some (.int .i64 a0_5) := (blk_cell BK297.out 5).trans rfl
                 have hcz109_6 : wc.cell? ⟨gb297, 6, none⟩ = some (.int .i64 a0_6) := (blk_cell BK297.out 6).trans rfl
                 have hfz109_0 := blk_frozen BK297.out 0
                 have hfz109_1 := blk_frozen BK297.out 1
                 have hfz109_2 := blk_frozen BK297.out 2
                 have hfz109_3 := blk_frozen BK297.out 3
                 have hfz109_4 := blk_frozen BK297.out 4
                 have hfz109_5 := blk_frozen BK297.out 5
                 have hfz109_6 := blk_frozen BK297.out 6
                 have hnb110 := NB300_301.out
                 have hnc110 := NB301_300.out
                 have hcz111_0 : wc.cell? ⟨gb300, 0, none⟩ = some (.int .i64 ((rd_T64 l0_0 (ji2)).f0)) := (blk_cell BK300.out 0).trans rfl
                 have hcz111_1 : wc.cell? ⟨gb300, 1, none⟩ = some (.int .i64 ((rd_T64 l0_0 (ji2)).f1)) := (blk_cell BK300.out 1).trans rfl
                 have hcz111_2 : wc.cell? ⟨gb300, 2, none⟩ = some (.int .i64 ((rd_T64 l0_0 (ji2)).f2)) := (blk_cell BK300.out 2).trans rfl
                 have hcz111_3 : wc.cell? ⟨gb300, 3, none⟩ = some (.bool ((rd_T64 l0_0 (ji2)).f3)) := (blk_cell BK300.out 3).trans rfl
                 have hfz111_0 := blk_frozen BK300.out 0
                 have hfz111_1 := blk_frozen BK300.out 1
                 have hfz111_2 := blk_frozen BK300.out 2
                 have hfz111_3 := blk_frozen BK300.out 3
                 go_wp2
                 go_meet
                 case rel => exact ⟨_, H', ⟨by have := HJ20.out; have := HJ43.out; have := HJ65.out; first | omega | exact Nat.le_refl _⟩, ⟨kz⟩, ⟨kz⟩, ⟨kz⟩, ⟨bs⟩⟩
              ·rw [if_neg c90] at H
               have c90b0 : (a0_4 == 21) = false := beq_eq_false_iff_ne.mpr c90
               have c90b1 : (a0_4 != 21) = true := bne_iff_ne.mpr c90
               have H' := Aside0.mk H
               clear H
               have hnb112 := NB297_300.out
               have hnc112 := NB300_297.out
               have hnb113 := NB297_301.out
               have hnc113 := NB301_297.out
               have hcz114_0 : wc.cell? ⟨gb297, 0, none⟩ = some (.slice (some ad298) l0_0.length c0_0) := (blk_cell BK297.out 0).trans rfl
               have hcz114_1 : wc.cell? ⟨gb297, 1, none⟩ = some (.int .i64 a0_1) := (blk_cell BK297.out 1).trans rfl
               have hcz114_2 : wc.cell? ⟨gb297, 2, none⟩ = some (.int .i64 a0_2) := (blk_cell BK297.out 2).trans rfl
               have hcz114_3 : wc.cell? ⟨gb297, 3, none⟩ = some (.int .i64 a0_3) := (blk_cell BK297.out 3).trans rfl
               have hcz114_4 : wc.cell? ⟨gb297, 4, none⟩ = some (.int .i64 a0_4) := (blk_cell BK297.out 4).trans rfl
               have hcz114_5 : wc.cell? ⟨gb297, 5, none⟩ = some (.int .i64 a0_5) := (blk_cell BK297.out 5).trans rfl
               have hcz114_6 : wc.cell? ⟨gb297, 6, none⟩ = some (.int .i64 a0_6) := (blk_cell BK297.out 6).trans rfl
               have hfz114_0 := blk_frozen BK297.out 0
               have hfz114_1 := blk_frozen BK297.out 1
               have hfz114_2 := blk_frozen BK297.out 2
               have hfz114_3 := blk_frozen BK297.out 3
               have hfz114_4 := blk_frozen BK297.out 4
               have hfz114_5 := blk_frozen BK297.out 5
               have hfz114_6 := blk_frozen BK297.out 6
               go_wp2
               go_meet
               case rel => exact ⟨_, H', ⟨by have := HJ20.out; have := HJ43.out; have := HJ65.out; first | omega | exact Nat.le_refl _⟩, ⟨kz⟩, ⟨kz⟩, ⟨kz⟩, ⟨bs⟩⟩
     case rest =>
      clear HC7
      obtain ⟨kq, HA, HJ6, BK297, BK300, BK301, HB⟩ := hcut
      cases kq with
      | zero => exact absurd HA.out (by simp [spec_lbLast.j3])
      | succ kj6 =>
       have H := HA.out
       clear HA
       simp only [spec_lbLast.j3] at H
       have H' := Aside0.mk H
       clear H
       have hnb115 := NB297_300.out
       have hnc115 := NB300_297.out
       have hnb116 := NB297_301.out
       have hnc116 := NB301_297.out
       have hcz117_0 : wc.cell? ⟨gb297, 0, none⟩ = some (.slice (some ad298) l0_0.length c0_0) := (blk_cell BK297.out 0).trans rfl
       have hcz117_1 : wc.cell? ⟨gb297, 1, none⟩ = some (.int .i64 a0_1) := (blk_cell BK297.out 1).trans rfl
       have hcz117_2 : wc.cell? ⟨gb297, 2, none⟩ = some (.int .i64 a0_2) := (blk_cell BK297.out 2).trans rfl
       have hcz117_3 : wc.cell? ⟨gb297, 3, none⟩ = some (.int .i64 a0_3) := (blk_cell BK297.out 3).trans rfl
       have hcz117_4 : wc.cell? ⟨gb297, 4, none⟩ = some (.int .i64 a0_4) := (blk_cell BK297.out 4).trans rfl
       have hcz117_5 : wc.cell? ⟨gb297, 5, none⟩ = some (.int .i64 a0_5) := (blk_cell BK297.out 5).trans rfl
       have hcz117_6 : wc.cell? ⟨gb297, 6, none⟩ = some (.int .i64 a0_6) := (blk_cell BK297.out 6).trans rfl
       have hfz117_0 := blk_frozen BK297.out 0
       have hfz117_1 := blk_frozen BK297.out 1
       have hfz117_2 := blk_frozen BK297.out 2
       have hfz117_3 := blk_frozen BK297.out 3
       have hfz117_4 := blk_frozen BK297.out 4
       have hfz117_5 := blk_frozen BK297.out 5
       have hfz117_6 := blk_frozen BK297.out 6
       go_wp2
       go_loopg [7, 8] kj6 (fun kq v7 v8 w' => ∃ (x7_2 : Int) (x8_2 : Int), v7 = .int .i64 x7_2 ∧ v8 = .int .i64 x8_2 ∧ Aside0 (spec_lbLast.l0 kq x7_2 x8_2 l0_0 a0_1 a0_2 a0_3 a0_4 a0_5 a0_6 = some r) ∧ Aside0 (kq ≤ kj6) ∧ Aside0 (w'.heap[gb297]? = some (.cells #[(.slice (some ad298) l0_0.length c0_0), .int .i64 a0_1, .int .i64 a0_2, .int .i64 a0_3, .int .i64 a0_4, .int .i64 a0_5, .int .i64 a0_6] 74 (0, 0))) ∧ Aside0 (w'.heap[gb300]? = some (.cells #[.int .i64 ((rd_T64 l0_0 (ji2)).f0), .int .i64 ((rd_T64 l0_0 (ji2)).f1), .int .i64 ((rd_T64 l0_0 (ji2)).f2), .bool ((rd_T64 l0_0 (ji2)).f3)] 64 (0, 0))) ∧ Aside0 (w'.heap[gb301]? = some (.cells #[.int .i64 ((rd_T64 l0_0 a0_1).f0), .int .i64 ((rd_T64 l0_0 a0_1).f1), .int .i64 ((rd_T64 l0_0 a0_1).f2), .bool ((rd_T64 l0_0 a0_1).f3)] 64 (0, 0))) ∧ Aside0 (Below w.heap.size w w'))
       case atStart => exact ⟨(0), (wrap64 (a0_1 - 1)), vz, vz, H', ⟨Nat.le_refl _⟩, ⟨kz⟩, ⟨kz⟩, ⟨kz⟩, ⟨bs⟩⟩
       case round =>
        clear H'
        obtain ⟨x7_2, x8_2, rfl, rfl, HA, HK2, BK297, BK300, BK301, HB⟩ := hrel
        cases gk with
        | zero => exact absurd HA.out (by simp [spec_lbLast.l0])
        | succ k2 =>
         have H := HA.out
         clear HA
         simp only [spec_lbLast.l0] at H
         by_cases c118 : x8_2 ≥ 0
         ·rw [if_pos c118] at H
          have c118b0 : decide (0 ≤ x8_2) = true := decide_eq_true c118
          clear c118
          by_cases c119 : 0 ≤ x8_2
          ·rw [if_pos c119] at H
           have c119b0 : decide (0 ≤ x8_2) = true := decide_eq_true c119
           clear c119
           by_cases c120 : x8_2 < (l0_0.length : Int)
           ·rw [if_pos c120] at H
            have c120b0 : decide (x8_2 < (l0_0.length : Int)) = true := decide_eq_true c120
            clear c120
            by_cases c121 : ((rd_T64 l0_0 x8_2).f0) = 39
            ·rw [if_pos c121] at H
             have c121b0 : (((rd_T64 l0_0 x8_2).f0) == 39) = true := beq_iff_eq.mpr c121
             have c121b1 : (((rd_T64 l0_0 x8_2).f0) != 39) = false := bne_eq_false_iff_eq.mpr c121
             clear c121
             have H' := Aside0.mk H
             clear H
             have hnb122 := NB297_300.out
             have hnc122 := NB300_297.out
             have hnb123 := NB297_301.out
             have hnc123 := NB301_297.out
             have hcz124_0 : wr.cell? ⟨gb297, 0, none⟩ = some (.slice (some ad298) l0_0.length c0_0) := (blk_cell BK297.out 0).trans rfl
             have hcz124_1 : wr.cell? ⟨gb297, 1, none⟩ = some (.int .i64 a0_1) := (blk_cell BK297.out 1).trans rfl
             have hcz124_2 : wr.cell? ⟨gb297, 2, none⟩ = some (.int .i64 a0_2) := (blk_cell BK297.out 2).trans rfl
             have hcz124_3 : wr.cell? ⟨gb297, 3, none⟩ = some (.int .i64 a0_3) := (blk_cell BK297.out 3).trans rfl
             have hcz124_4 : wr.cell? ⟨gb297, 4, none⟩ = some (.int .i64 a0_4) := (blk_cell BK297.out 4).trans rfl
             have hcz124_5 : wr.cell? ⟨gb297, 5, none⟩ = some (.int .i64 a0_5) := (blk_cell BK297.out 5).trans rfl
             have hcz124_6 : wr.cell? ⟨gb297, 6, none⟩ = some (.int .i64 a0_6) := (blk_cell BK297.out 6).trans rfl
             have hfz124_0 := blk_frozen BK297.out 0
             have hfz124_1 := blk_frozen BK297.out 1
             have hfz124_2 := blk_frozen BK297.out 2
             have hfz124_3 := blk_frozen BK297.out 3
             have hfz124_4 := blk_frozen BK297.out 4
             have hfz124_5 := blk_frozen BK297.out 5
             have hfz124_6 := blk_frozen BK297.out 6
             have p308 : 0 ≤ (x8_2 : Int) := of_decide_eq_true az
             have q308 : x8_2 < (l0_0.length : Int) := of_decide_eq_true az
             obtain ⟨ad308, e308, hx308_0, hx308_1, hx308_2, hx308_3⟩ := at_T64 HR0_0.out x8_2 p308 q308
             obtain rfl : ad298 = ad308 := (by injection e308)
             replace hx308_0 := (HB.out.cell (World.block_lt_of_cell? w _ hx308_0)).trans hx308_0
             replace hx308_1 := (HB.out.cell (World.block_lt_of_cell? w _ hx308_1)).trans hx308_1
             replace hx308_2 := (HB.out.cell (World.block_lt_of_cell? w _ hx308_2)).trans hx308_2
             replace hx308_3 := (HB.out.cell (World.block_lt_of_cell? w _ hx308_3)).trans hx308_3
             replace p308 := eq_true p308
             replace q308 := eq_true q308
             go_wp2
             go_roundg k2
             case measure => have := HJ6.out; have := HK2.out; omega
             case rel => exact ⟨(wrap64 (x7_2 + 1)), (wrap64 (x8_2 - 1)), vz, vz, H', ⟨by have := HJ6.out; have := HK2.out; omega⟩, ⟨kz⟩, ⟨kz⟩, ⟨kz⟩, ⟨bs⟩⟩
            ·rw [if_neg c121] at H
             have c121b0 : (((rd_T64 l0_0 x8_2).f0) == 39) = false := beq_eq_false_iff_ne.mpr c121
             have c121b1 : (((rd_T64 l0_0 x8_2).f0) != 39) = true := bne_iff_ne.mpr c121
             by_cases c125 : a0_4 = 39
             ·rw [if_pos c125] at H
              have c125b0 : (a0_4 == 39) = true := beq_iff_eq.mpr c125
              have c125b1 : (a0_4 != 39) = false := bne_eq_false_iff_eq.mpr c125
              clear c125
              obtain rfl := Option.some.inj H
              have hnb126 := NB297_300.out
              have hnc126 := NB300_297.out
              have hnb127 := NB297_301.out
              have hnc127 := NB301_297.out
              have hcz128_0 : wr.cell? ⟨gb297, 0, none⟩ = some (.slice (some ad298) l0_0.length c0_0) := (blk_cell BK297.out 0).trans rfl
              have hcz128_1 : wr.cell? ⟨gb297, 1, none⟩ = some (.int .i64 a0_1) := (blk_cell BK297.out 1).trans rfl
              have hcz128_2 : wr.cell? ⟨gb297, 2, none⟩ = some (.int .i64 a0_2) := (blk_cell BK297.out 2).trans rfl
              have hcz128_3 : wr.cell? ⟨gb297, 3, none⟩ = some (.int .i64 a0_3) := (blk_cell BK297.out 3).trans rfl
              have hcz128_4 : wr.cell? ⟨gb297, 4, none⟩ = some (.int .i64 a0_4) := (blk_cell BK297.out 4).trans rfl
              have hcz128_5 : wr.cell? ⟨gb297, 5, none⟩ = some (.int .i64 a0_5) := (blk_cell BK297.out 5).trans rfl
              have hcz128_6 : wr.cell? ⟨gb297, 6, none⟩ = some (.int .i64 a0_6) := (blk_cell BK297.out 6).trans rfl
              have hfz128_0 := blk_frozen BK297.out 0
              have hfz128_1 := blk_frozen BK297.out 1
              have hfz128_2 := blk_frozen BK297.out 2
              have hfz128_3 := blk_frozen BK297.out 3
              have hfz128_4 := blk_frozen BK297.out 4
              have hfz128_5 := blk_frozen BK297.out 5
              have hfz128_6 := blk_frozen BK297.out 6
              have p308 : 0 ≤ (x8_2 : Int) := of_decide_eq_true az
              have q308 : x8_2 < (l0_0.length : Int) := of_decide_eq_true az
              obtain ⟨ad308, e308, hx308_0, hx308_1, hx308_2, hx308_3⟩ := at_T64 HR0_0.out x8_2 p308 q308
              obtain rfl : ad298 = ad308 := (by injection e308)
              replace hx308_0 := (HB.out.cell (World.block_lt_of_cell? w _ hx308_0)).trans hx308_0
              replace hx308_1 := (HB.out.cell (World.block_lt_of_cell? w _ hx308_1)).trans hx308_1
              replace hx308_2 := (HB.out.cell (World.block_lt_of_cell? w _ hx308_2)).trans hx308_2
              replace hx308_3 := (HB.out.cell (World.block_lt_of_cell? w _ hx308_3)).trans hx308_3
              replace p308 := eq_true p308
              replace q308 := eq_true q308
              go_wp2
              go_ret
              exact ⟨by first | rfl | (simp [errW_none, errW_some] <;> rfl) | (simp only [← hji2]; first | rfl | (simp [errW_none, errW_some] <;> rfl)) | (simp [*, errW_none, errW_some] <;> rfl), bs⟩
             ·rw [if_neg c125] at H
              have c125b0 : (a0_4 == 39) = false := beq_eq_false_iff_ne.mpr c125
              have c125b1 : (a0_4 != 39) = true := bne_iff_ne.mpr c125
              obtain rfl := Option.some.inj H
              have hnb129 := NB297_300.out
              have hnc129 := NB300_297.out
              have hnb130 := NB297_301.out
              have hnc130 := NB301_297.out
              have hcz131_0 : wr.cell? ⟨gb297, 0, none⟩ = some (.slice (some ad298) l0_0.length c0_0) := (blk_cell BK297.out 0).trans rfl
              have hcz131_1 : wr.cell? ⟨gb297, 1, none⟩ = some (.int .i64 a0_1) := (blk_cell BK297.out 1).trans rfl
              have hcz131_2 : wr.cell? ⟨gb297, 2, none⟩ = some (.int .i64 a0_2) := (blk_cell BK297.out 2).trans rfl
              have hcz131_3 : wr.cell? ⟨gb297, 3, none⟩ = some (.int .i64 a0_3) := (blk_cell BK297.out 3).trans rfl
              have hcz131_4 : wr.cell? ⟨gb297, 4, none⟩ = some (.int .i64 a0_4) := (blk_cell BK297.out 4).trans rfl
              have hcz131_5 : wr.cell? ⟨gb297, 5, none⟩ = some (.int .i64 a0_5) := (blk_cell BK297.out 5).trans rfl
              have hcz131_6 : wr.cell? ⟨gb297, 6, none⟩ = some (.int .i64 a0_6) := (blk_cell BK297.out 6).trans rfl
              have hfz131_0 := blk_frozen BK297.out 0
              have hfz131_1 := blk_frozen BK297.out 1
              have hfz131_2 := blk_frozen BK297.out 2
              have hfz131_3 := blk_frozen BK297.out 3
              have hfz131_4 := blk_frozen BK297.out 4
              have hfz131_5 := blk_frozen BK297.out 5
              have hfz131_6 := blk_frozen BK297.out 6
              have p308 : 0 ≤ (x8_2 : Int) := of_decide_eq_true az
              have q308 : x8_2 < (l0_0.length : Int) := of_decide_eq_true az
              obtain ⟨ad308, e308, hx308_0, hx308_1, hx308_2, hx308_3⟩ := at_T64 HR0_0.out x8_2 p308 q308
              obtain rfl : ad298 = ad308 := (by injection e308)
              replace hx308_0 := (HB.out.cell (World.block_lt_of_cell? w _ hx308_0)).trans hx308_0
              replace hx308_1 := (HB.out.cell (World.block_lt_of_cell? w _ hx308_1)).trans hx308_1
              replace hx308_2 := (HB.out.cell (World.block_lt_of_cell? w _ hx308_2)).trans hx308_2
              replace hx308_3 := (HB.out.cell (World.block_lt_of_cell? w _ hx308_3)).trans hx308_3
              replace p308 := eq_true p308
              replace q308 := eq_true q308
              go_wp2
              go_ret
              exact ⟨by first | rfl | (simp [errW_none, errW_some] <;> rfl) | (simp only [← hji2]; first | rfl | (simp [errW_none, errW_some] <;> rfl)) | (simp [*, errW_none, errW_some] <;> rfl), bs⟩
           ·rw [if_neg c120] at H
            exact absurd H (by simp)
          ·rw [if_neg c119] at H
           exact absurd H (by simp)
         ·rw [if_neg c118] at H
          have c118b0 : decide (0 ≤ x8_2) = false := decide_eq_false c118
          clear c118
          by_cases c132 : a0_4 = 39
          ·rw [if_pos c132] at H
           have c132b0 : (a0_4 == 39) = true := beq_iff_eq.mpr c132
           have c132b1 : (a0_4 != 39) = false := bne_eq_false_iff_eq.mpr c132
           clear c132
           obtain rfl := Option.some.inj H
           have hnb133 := NB297_300.out
           have hnc133 := NB300_297.out
           have hnb134 := NB297_301.out
           have hnc134 := NB301_297.out
           have hcz135_0 : wr.cell? ⟨gb297, 0, none⟩ = some (.slice (some ad298) l0_0.length c0_0) := (blk_cell BK297.out 0).trans rfl
           have hcz135_1 : wr.cell? ⟨gb297, 1, none⟩ = some (.int .i64 a0_1) := (blk_cell BK297.out 1).trans rfl
           have hcz135_2 : wr.cell? ⟨gb297, 2, none⟩ = some (.int .i64 a0_2) := (blk_cell BK297.out 2).trans rfl
           have hcz135_3 : wr.cell? ⟨gb297, 3, none⟩ = some (.int .i64 a0_3) := (blk_cell BK297.out 3).trans rfl
           have hcz135_4 : wr.cell? ⟨gb297, 4, none⟩ = some (.int .i64 a0_4) := (blk_cell BK297.out 4).trans rfl
           have hcz135_5 : wr.cell? ⟨gb297, 5, none⟩ = some (.int .i64 a0_5) := (blk_cell BK297.out 5).trans rfl
           have hcz135_6 : wr.cell? ⟨gb297, 6, none⟩ = some (.int .i64 a0_6) := (blk_cell BK297.out 6).trans rfl
           have hfz135_0 := blk_frozen BK297.out 0
           have hfz135_1 := blk_frozen BK297.out 1
           have hfz135_2 := blk_frozen BK297.out 2
           have hfz135_3 := blk_frozen BK297.out 3
           have hfz135_4 := blk_frozen BK297.out 4
           have hfz135_5 := blk_frozen BK297.out 5
           have hfz135_6 := blk_frozen BK297.out 6
           go_wp2
           go_ret
           exact ⟨by first | rfl | (simp [errW_none, errW_some] <;> rfl) | (simp only [← hji2]; first | rfl | (simp [errW_none, errW_some] <;> rfl)) | (simp [*, errW_none, errW_some] <;> rfl), bs⟩
          ·rw [if_neg c132] at H
           have c132b0 : (a0_4 == 39) = false := beq_eq_false_iff_ne.mpr c132
           have c132b1 : (a0_4 != 39) = true := bne_iff_ne.mpr c132
           obtain rfl := Option.some.inj H
           have hnb136 := NB297_300.out
           have hnc136 := NB300_297.out
           have hnb137 := NB297_301.out
           have hnc137 := NB301_297.out
           have hcz138_0 : wr.cell? ⟨gb297, 0, none⟩ = some (.slice (some ad298) l0_0.length c0_0) := (blk_cell BK297.out 0).trans rfl
           have hcz138_1 : wr.cell? ⟨gb297, 1, none⟩ = some (.int .i64 a0_1) := (blk_cell BK297.out 1).trans rfl
           have hcz138_2 : wr.cell? ⟨gb297, 2, none⟩ = some (.int .i64 a0_2) := (blk_cell BK297.out 2).trans rfl
           have hcz138_3 : wr.cell? ⟨gb297, 3, none⟩ = some (.int .i64 a0_3) := (blk_cell BK297.out 3).trans rfl
           have hcz138_4 : wr.cell? ⟨gb297, 4, none⟩ = some (.int .i64 a0_4) := (blk_cell BK297.out 4).trans rfl
           have hcz138_5 : wr.cell? ⟨gb297, 5, none⟩ = some (.int .i64 a0_5) := (blk_cell BK297.out 5).trans rfl
           have hcz138_6 : wr.cell? ⟨gb297, 6, none⟩ = some (.int .i64 a0_6) := (blk_cell BK297.out 6).trans rfl
           have hfz138_0 := blk_frozen BK297.out 0
           have hfz138_1 := blk_frozen BK297.out 1
           have hfz138_2 := blk_frozen BK297.out 2
           have hfz138_3 := blk_frozen BK297.out 3
           have hfz138_4 := blk_frozen BK297.out 4
           have hfz138_5 := blk_frozen BK297.out 5
           have hfz138_6 := blk_frozen BK297.out 6
           go_wp2
           go_ret
           exact ⟨by first | rfl | (simp [errW_none, errW_some] <;> rfl) | (simp only [← hji2]; first | rfl | (simp [errW_none, errW_some] <;> rfl)) | (simp [*, errW_none, errW_some] <;> rfl), bs⟩
    ·rw [if_neg c6] at H
     exact absurd H (by simp)
   ·rw [if_neg c5] at H
    exact absurd H (by simp)
  ·rw [if_neg c4] at H
   exact absurd H (by simp)
 ·rw [if_neg c3] at H
  exact absurd H (by simp)

end Go.Proofs.Ytnanfoahimccpaa.Ln
