/- Functions of the translation as Lean functions, and their walks: lines written by a program, a turned copy of the kit's print. -/
import Derived.Test.YtnanfoahimccpaaLnx0
import Derived.Test.YtnanfoahimccpaaLnx1
namespace Go.Proofs.Ytnanfoahimccpaa.Ln
open Go.RowKit Go.Proofs.YtnanfoahimccpaaW.PrintWords Go.Proofs.YtnanfoahimccpaaW.PrintLast Go.Proofs.YtnanfoahimccpaaW.PrintMore
attribute [local go_sem] max2_int max_two
set_option linter.unusedVariables false
set_option linter.unusedSimpArgs false

mutual
def spec_lbNumber.j0 : Nat → Bool → List (S64) → Int → Int → Int → Int → Int → Int → Option (Bool)
 | 0, _, _, _, _, _, _, _, _ => none
 | k + 1, x24, x228000, x228001, x228002, x228003, x228004, x228005, x228006 => if x24 = true then (some true) else ((spec_among.f k x228003 (([35, 26] : List Int))).bind fun t239 => (if t239 = true then (spec_lbNumber.j1 k (x228004 == 34) x228000 x228001 x228002 x228003 x228004 x228005 x228006) else (spec_lbNumber.j1 k false x228000 x228001 x228002 x228003 x228004 x228005 x228006)))
def spec_lbNumber.j1 : Nat → Bool → List (S64) → Int → Int → Int → Int → Int → Int → Option (Bool)
 | 0, _, _, _, _, _, _, _, _ => none
 | k + 1, x33, x228000, x228001, x228002, x228003, x228004, x228005, x228006 => if x33 = true then (some true) else ((spec_among.f k x228003 (([18, 19] : List Int))).bind fun t243 => (if t243 = true then (spec_lbNumber.j2 k (wrap64 ((wrap64 (x228001 - 1)) - 1)) t243 x228000 x228001 x228002 x228003 x228004 x228005 x228006) else (spec_lbNumber.j2 k (wrap64 (x228001 - 1)) t243 x228000 x228001 x228002 x228003 x228004 x228005 x228006)))
def spec_lbNumber.j2 : Nat → Int → Bool → List (S64) → Int → Int → Int → Int → Int → Int → Option (Bool)
 | 0, _, _, _, _, _, _, _, _, _ => none
 | k + 1, x3, x4, x228000, x228001, x228002, x228003, x228004, x228005, x228006 => spec_lbNumber.l0 k x3 x4 x228000 x228001 x228002 x228003 x228004 x228005 x228006
def spec_lbNumber.j4 : Nat → Int → Bool → List (S64) → Int → Int → Int → Int → Int → Int → Option (Bool)
 | 0, _, _, _, _, _, _, _, _, _ => none
 | k + 1, x3, x4, x228000, x228001, x228002, x228003, x228004, x228005, x228006 => if x3 < 0 then (spec_lbNumber.j5 k x4 true x228000 x228001 x228002 x228003 x228004 x228005 x228006) else (if 0 ≤ x3 then (if x3 < (x228000.length : Int) then (spec_lbNumber.j5 k x4 (((rd_T64 x228000 x3).f0) != 34) x228000 x228001 x228002 x228003 x228004 x228005 x228006) else (none)) else (none))
def spec_lbNumber.j5 : Nat → Bool → Bool → List (S64) → Int → Int → Int → Int → Int → Int → Option (Bool)
 | 0, _, _, _, _, _, _, _, _, _ => none
 | k + 1, x4, x68, x228000, x228001, x228002, x228003, x228004, x228005, x228006 => if x68 = true then (some false) else ((spec_among.f k x228004 (([36, 37] : List Int))).bind fun t253 => (if t253 = true then (some true) else (if x4 = true then (some false) else ((spec_among.f k x228004 (([34, 42, 29, 18, 19] : List Int))).bind fun t257 => (some t257)))))
def spec_lbNumber.l0 : Nat → Int → Bool → List (S64) → Int → Int → Int → Int → Int → Int → Option (Bool)
 | 0, _, _, _, _, _, _, _, _, _ => none
 | k + 1, x3, x4, x228000, x228001, x228002, x228003, x228004, x228005, x228006 => if x3 ≥ 0 then (if 0 ≤ x3 then (if x3 < (x228000.length : Int) then ((spec_among.f k ((rd_T64 x228000 x3).f0) (([42, 29] : List Int))).bind fun t248 => (if t248 = true then (spec_lbNumber.l0 k (wrap64 (x3 - 1)) x4 x228000 x228001 x228002 x228003 x228004 x228005 x228006) else (spec_lbNumber.j4 k x3 x4 x228000 x228001 x228002 x228003 x228004 x228005 x228006))) else (none)) else (none)) else (spec_lbNumber.j4 k x3 x4 x228000 x228001 x228002 x228003 x228004 x228005 x228006)
end
def spec_lbNumber.f (k : Nat) (l0_0 : List (S64)) (a0_1 : Int) (a0_2 : Int) (a0_3 : Int) (a0_4 : Int) (a0_5 : Int) (a0_6 : Int) : Option (Bool) := (spec_among.f k a0_3 (([37, 36] : List Int))).bind fun t231 => (if t231 = true then (if a0_4 = 34 then (spec_lbNumber.j0 k true l0_0 a0_1 a0_2 a0_3 a0_4 a0_5 a0_6) else ((spec_among.f k a0_4 (([35, 26] : List Int))).bind fun t235 => (if t235 = true then (spec_lbNumber.j0 k (a0_5 == 34) l0_0 a0_1 a0_2 a0_3 a0_4 a0_5 a0_6) else (spec_lbNumber.j0 k false l0_0 a0_1 a0_2 a0_3 a0_4 a0_5 a0_6)))) else (spec_lbNumber.j0 k false l0_0 a0_1 a0_2 a0_3 a0_4 a0_5 a0_6))
set_option maxHeartbeats 8000000 in
set_option maxRecDepth 100000 in
theorem spec_lbNumber.calls (k : Nat) (A0_0 : Option Addr) (c0_0 : Nat) (l0_0 : List (S64)) (a0_1 : Int) (a0_2 : Int) (a0_3 : Int) (a0_4 : Int) (a0_5 : Int) (a0_6 : Int) (r : Bool) (w : World) (hr0_0 : Kd.C k64 w A0_0 l0_0.length l0_0) (hc0_0 : l0_0.length ≤ c0_0) (h : spec_lbNumber.f k l0_0 a0_1 a0_2 a0_3 a0_4 a0_5 a0_6 = some r) :
  Calls Try.prog 66 #[.agg #[.slice A0_0 l0_0.length c0_0, .int .i64 a0_1, .int .i64 a0_2, .int .i64 a0_3, .int .i64 a0_4, .int .i64 a0_5, .int .i64 a0_6]] w fun e w' => e = .returned (.bool r) ∧ Below w.heap.size w w' := by
 have hu74 := Try.underlying74
 have HR0_0 := Aside0.mk hr0_0
 have HC0_0 := Aside0.mk hc0_0
 clear hr0_0 hc0_0
 have HB := Aside0.mk (Below.refl w.heap.size w)
 have H : ((spec_among.f k a0_3 (([37, 36] : List Int))).bind fun t231 => (if t231 = true then (if a0_4 = 34 then (spec_lbNumber.j0 k true l0_0 a0_1 a0_2 a0_3 a0_4 a0_5 a0_6) else ((spec_among.f k a0_4 (([35, 26] : List Int))).bind fun t235 => (if t235 = true then (spec_lbNumber.j0 k (a0_5 == 34) l0_0 a0_1 a0_2 a0_3 a0_4 a0_5 a0_6) else (spec_lbNumber.j0 k false l0_0 a0_1 a0_2 a0_3 a0_4 a0_5 a0_6)))) else (spec_lbNumber.j0 k false l0_0 a0_1 a0_2 a0_3 a0_4 a0_5 a0_6))) = some r := h
 clear h
 have HC2 := Aside0.mk H
 clear H
 go_enter Try.func66, Try.ntmps66
 go_upto_region 1 with (first | ((with_reducible refine gate_dst (N := 1) rfl ?_); (try (refine gate_guard (by rfl) ?_; dsimp only)); refine box_event ?hg (N := 1) ?hd (cs := #[.slice A0_0 l0_0.length c0_0, .int .i64 a0_1, .int .i64 a0_2, .int .i64 a0_3, .int .i64 a0_4, .int .i64 a0_5, .int .i64 a0_6]) (t := 74) ?hr ?_; (case hd => rfl); (case hg => rfl); (case hr => first | (go_simp; done) | (go_simp; rfl)); intro gb227 hg w3 hbox hb; have n0_ := Aside0.mk (below_step bz hb); have n1_ := Aside0.mk (hbox); have n2_ := Aside0.mk ((by rw [hg]; exact (below_size bz) : w.heap.size ≤ gb227)); have n3_ := Aside0.mk ((by rw [hg]; exact (below_size bz) : w.heap.size ≤ gb227)); clear HB; have HB := n0_; have BK227 := n1_; have GW227 := n2_; have GE227 := n3_; clear n0_ n1_ n2_ n3_; clear hb hbox hg))
 (try simp only [Act.put, List.setIfInBounds_toArray, List.set_cons_zero, List.set_cons_succ])
 go_cut [24] (fun v24 wc => ∃ (kq : Nat) (x24_1 : Bool), v24 = .bool x24_1 ∧ Aside0 (spec_lbNumber.j0 kq x24_1 l0_0 a0_1 a0_2 a0_3 a0_4 a0_5 a0_6 = some r) ∧ Aside0 (kq ≤ k) ∧ Aside0 (wc.heap[gb227]? = some (.cells #[(.slice A0_0 l0_0.length c0_0), .int .i64 a0_1, .int .i64 a0_2, .int .i64 a0_3, .int .i64 a0_4, .int .i64 a0_5, .int .i64 a0_6] 74 (0, 0))) ∧ Aside0 (Below w.heap.size w wc))
 case first =>
  have H := HC2.out
  clear HC2
  obtain ⟨y228, hy228⟩ : ∃ y_ : List Int, y_ = (([37, 36] : List Int)) := ⟨_, rfl⟩
  first | rw [← hy228] at H | simp only [← hy228] at H
  have Ny228 := Aside0.mk hy228
  clear hy228
  replace H := Option.bind_eq_some_iff.mp H
  obtain ⟨t231, A40, H⟩ := H
  try dsimp only at H
  have A4 := Aside0.mk A40
  clear A40
  by_cases c5 : t231 = true
  ·subst c5
   rw [if_pos rfl] at H
   by_cases c6 : a0_4 = 34
   ·rw [if_pos c6] at H
    have c6b0 : (a0_4 == 34) = true := beq_iff_eq.mpr c6
    have c6b1 : (a0_4 != 34) = false := bne_eq_false_iff_eq.mpr c6
    clear c6
    (first | rw [c6b0] | (simp only [i64_w]; rw [c6b0]) | skip)
    have H' := Aside0.mk H
    clear H
    have hcz7_0 : w3.cell? ⟨gb227, 0, none⟩ = some (.slice A0_0 l0_0.length c0_0) := (blk_cell BK227.out 0).trans rfl
    have hcz7_1 : w3.cell? ⟨gb227, 1, none⟩ = some (.int .i64 a0_1) := (blk_cell BK227.out 1).trans rfl
    have hcz7_2 : w3.cell? ⟨gb227, 2, none⟩ = some (.int .i64 a0_2) := (blk_cell BK227.out 2).trans rfl
    have hcz7_3 : w3.cell? ⟨gb227, 3, none⟩ = some (.int .i64 a0_3) := (blk_cell BK227.out 3).trans rfl
    have hcz7_4 : w3.cell? ⟨gb227, 4, none⟩ = some (.int .i64 a0_4) := (blk_cell BK227.out 4).trans rfl
    have hcz7_5 : w3.cell? ⟨gb227, 5, none⟩ = some (.int .i64 a0_5) := (blk_cell BK227.out 5).trans rfl
    have hcz7_6 : w3.cell? ⟨gb227, 6, none⟩ = some (.int .i64 a0_6) := (blk_cell BK227.out 6).trans rfl
    have hfz7_0 := blk_frozen BK227.out 0
    have hfz7_1 := blk_frozen BK227.out 1
    have hfz7_2 := blk_frozen BK227.out 2
    have hfz7_3 := blk_frozen BK227.out 3
    have hfz7_4 := blk_frozen BK227.out 4
    have hfz7_5 := blk_frozen BK227.out 5
    have hfz7_6 := blk_frozen BK227.out 6
    go_wp2_with (first | ((with_reducible refine gate_dst (N := 7) rfl ?_); (try (refine gate_guard (by rfl) ?_; dsimp only)); refine Kd.R_lit (Kd.int .i64) _ 3 ?hg (N := 7) ?hd (xs := ([37, 36] : List Int)) (inner := [.int .i64 37, .int .i64 36]) (ok := fun _ => True) (okp := fun _ => True) ?hr ?hp (fun _ hk => hk) trivial (Below.refl _ _) (Nat.le_refl _) (by simp) ?_; (case hd => rfl); (case hg => rfl); (case hr => first | (go_simp; done) | (go_simp; rfl)); (case hp => exact (Reps.one (show Kd.M (Kd.int .i64) _ _ _ 37 [.int .i64 37] from rfl) (Reps.one (show Kd.M (Kd.int .i64) _ _ _ 36 [.int .i64 36] from rfl) (Reps.none _ _)))); intro v229 w8 ho9 hb hg_ hnew_; clear hg_ hnew_; (first | rw [← Ny228.out] at ho9 | (simp only [Int.reduceToNat] at ho9; rw [← Ny228.out] at ho9)); have n0_ := Aside0.mk (Kd.R_lower ho9 (below_size bs)); have n1_ := Aside0.mk (blk_below (g := gb227) (o := .cells #[.slice A0_0 l0_0.length c0_0, .int .i64 a0_1, .int .i64 a0_2, .int .i64 a0_3, .int .i64 a0_4, .int .i64 a0_5, .int .i64 a0_6] 74 (0, 0)) kz hb); have n2_ := Aside0.mk (below_step bs hb); clear BK227; clear HB; have HO230 := n0_; have BK227 := n1_; have HB := n2_; clear n0_ n1_ n2_; clear hb ho9; obtain ⟨Ao10, co10, eo10⟩ := Kd.R_slice HO230.out; subst eo10) | ((with_reducible refine gate_callee (f := 42) rfl ?_); refine goesL_ (some 8) rfl rfl Try.func42 (by kernel_rfl) rfl #[.int .i64 a0_3, .slice Ao10 y228.length co10] rfl mz ?_; (with_reducible refine (spec_among.calls k a0_3 _ _ y228 true _ ?side1 ?side2 A4.out).mono ?_); (case side1 => repeat (first | exact (Kd.R_reads' HO230.out).2.2 | (with_reducible refine Kd.C_alloc ?_ _) | (with_reducible refine Kd.C_drewN ?_ _) | (with_reducible refine Kd.C_drew ?_))); (case side2 => exact (Kd.R_reads' HO230.out).2.1); rintro e w' ⟨rfl, ⟨nd, rfl⟩⟩; refine ⟨_, rfl, ?_⟩; have hcz11_0 : w8.cell? ⟨gb227, 0, none⟩ = some (.slice A0_0 l0_0.length c0_0) := (blk_cell BK227.out 0).trans rfl; have hcz11_1 : w8.cell? ⟨gb227, 1, none⟩ = some (.int .i64 a0_1) := (blk_cell BK227.out 1).trans rfl; have hcz11_2 : w8.cell? ⟨gb227, 2, none⟩ = some (.int .i64 a0_2) := (blk_cell BK227.out 2).trans rfl; have hcz11_3 : w8.cell? ⟨gb227, 3, none⟩ = some (.int .i64 a0_3) := (blk_cell BK227.out 3).trans rfl; have hcz11_4 : w8.cell? ⟨gb227, 4, none⟩ = some (.int .i64 a0_4) := (blk_cell BK227.out 4).trans rfl; have hcz11_5 : w8.cell? ⟨gb227, 5, none⟩ = some (.int .i64 a0_5) := (blk_cell BK227.out 5).trans rfl; have hcz11_6 : w8.cell? ⟨gb227, 6, none⟩ = some (.int .i64 a0_6) := (blk_cell BK227.out 6).trans rfl; have hfz11_0 := blk_frozen BK227.out 0; have hfz11_1 := blk_frozen BK227.out 1; have hfz11_2 := blk_frozen BK227.out 2; have hfz11_3 := blk_frozen BK227.out 3; have hfz11_4 := blk_frozen BK227.out 4; have hfz11_5 := blk_frozen BK227.out 5; have hfz11_6 := blk_frozen BK227.out 6))
    go_meet
    case rel => exact ⟨_, (true), vz, H', ⟨by first | omega | exact Nat.le_refl _⟩, ⟨kz⟩, ⟨bs⟩⟩
   ·rw [if_neg c6] at H
    have c6b0 : (a0_4 == 34) = false := beq_eq_false_iff_ne.mpr c6
    have c6b1 : (a0_4 != 34) = true := bne_iff_ne.mpr c6
    (first | rw [c6b0] | (simp only [i64_w]; rw [c6b0]) | skip)
    obtain ⟨y232, hy232⟩ : ∃ y_ : List Int, y_ = (([35, 26] : List Int)) := ⟨_, rfl⟩
    first | rw [← hy232] at H | simp only [← hy232] at H
    have Ny232 := Aside0.mk hy232
    clear hy232
    replace H := Option.bind_eq_some_iff.mp H
    obtain ⟨t235, A120, H⟩ := H
    try dsimp only at H
    have A12 := Aside0.mk A120
    clear A120
    by_cases c13 : t235 = true
    ·subst c13
     rw [if_pos rfl] at H
     have H' := Aside0.mk H
     clear H
     have hcz14_0 : w3.cell? ⟨gb227, 0, none⟩ = some (.slice A0_0 l0_0.length c0_0) := (blk_cell BK227.out 0).trans rfl
     have hcz14_1 : w3.cell? ⟨gb227, 1, none⟩ = some (.int .i64 a0_1) := (blk_cell BK227.out 1).trans rfl
     have hcz14_2 : w3.cell? ⟨gb227, 2, none⟩ = some (.int .i64 a0_2) := (blk_cell BK227.out 2).trans rfl
     have hcz14_3 : w3.cell? ⟨gb227, 3, none⟩ = some (.int .i64 a0_3) := (blk_cell BK227.out 3).trans rfl
     have hcz14_4 : w3.cell? ⟨gb227, 4, none⟩ = some (.int .i64 a0_4) := (blk_cell BK227.out 4).trans rfl
     have hcz14_5 : w3.cell? ⟨gb227, 5, none⟩ = some (.int .i64 a0_5) := (blk_cell BK227.out 5).trans rfl
     have hcz14_6 : w3.cell? ⟨gb227, 6, none⟩ = some (.int .i64 a0_6) := (blk_cell BK227.out 6).trans rfl
     have hfz14_0 := blk_frozen BK227.out 0
     have hfz14_1 := blk_frozen BK227.out 1
     have hfz14_2 := blk_frozen BK227.out 2
     have hfz14_3 := blk_frozen BK227.out 3
     have hfz14_4 := blk_frozen BK227.out 4
     have hfz14_5 := blk_frozen BK227.out 5
     have hfz14_6 := blk_frozen BK227.out 6
     go_wp2_with (first | ((with_reducible refine gate_dst (N := 7) rfl ?_); (try (refine gate_guard (by rfl) ?_; dsimp only)); refine Kd.R_lit (Kd.int .i64) _ 3 ?hg (N := 7) ?hd (xs := ([37, 36] : List Int)) (inner := [.int .i64 37, .int .i64 36]) (ok := fun _ => True) (okp := fun _ => True) ?hr ?hp (fun _ hk => hk) trivial (Below.refl _ _) (Nat.le_refl _) (by simp) ?_; (case hd => rfl); (case hg => rfl); (case hr => first | (go_simp; done) | (go_simp; rfl)); (case hp => exact (Reps.one (show Kd.M (Kd.int .i64) _ _ _ 37 [.int .i64 37] from rfl) (Reps.one (show Kd.M (Kd.int .i64) _ _ _ 36 [.int .i64 36] from rfl) (Reps.none _ _)))); intro v229 w15 ho16 hb hg_ hnew_; clear hg_ hnew_; (first | rw [← Ny228.out] at ho16 | (simp only [Int.reduceToNat] at ho16; rw [← Ny228.out] at ho16)); have n0_ := Aside0.mk (Kd.R_lower ho16 (below_size bs)); have n1_ := Aside0.mk (blk_below (g := gb227) (o := .cells #[.slice A0_0 l0_0.length c0_0, .int .i64 a0_1, .int .i64 a0_2, .int .i64 a0_3, .int .i64 a0_4, .int .i64 a0_5, .int .i64 a0_6] 74 (0, 0)) kz hb); have n2_ := Aside0.mk (below_step bs hb); clear BK227; clear HB; have HO230 := n0_; have BK227 := n1_; have HB := n2_; clear n0_ n1_ n2_; clear hb ho16; obtain ⟨Ao17, co17, eo17⟩ := Kd.R_slice HO230.out; subst eo17) | ((with_reducible refine gate_callee (f := 42) rfl ?_); refine goesL_ (some 8) rfl rfl Try.func42 (by kernel_rfl) rfl #[.int .i64 a0_3, .slice Ao17 y228.length co17] rfl mz ?_; (with_reducible refine (spec_among.calls k a0_3 _ _ y228 true _ ?side1 ?side2 A4.out).mono ?_); (case side1 => repeat (first | exact (Kd.R_reads' HO230.out).2.2 | (with_reducible refine Kd.C_alloc ?_ _) | (with_reducible refine Kd.C_drewN ?_ _) | (with_reducible refine Kd.C_drew ?_))); (case side2 => exact (Kd.R_reads' HO230.out).2.1); rintro e w' ⟨rfl, ⟨nd, rfl⟩⟩; refine ⟨_, rfl, ?_⟩; have hcz18_0 : w15.cell? ⟨gb227, 0, none⟩ = some (.slice A0_0 l0_0.length c0_0) := (blk_cell BK227.out 0).trans rfl; have hcz18_1 : w15.cell? ⟨gb227, 1, none⟩ = some (.int .i64 a0_1) := (blk_cell BK227.out 1).trans rfl; have hcz18_2 : w15.cell? ⟨gb227, 2, none⟩ = some (.int .i64 a0_2) := (blk_cell BK227.out 2).trans rfl; have hcz18_3 : w15.cell? ⟨gb227, 3, none⟩ = some (.int .i64 a0_3) := (blk_cell BK227.out 3).trans rfl; have hcz18_4 : w15.cell? ⟨gb227, 4, none⟩ = some (.int .i64 a0_4) := (blk_cell BK227.out 4).trans rfl; have hcz18_5 : w15.cell? ⟨gb227, 5, none⟩ = some (.int .i64 a0_5) := (blk_cell BK227.out 5).trans rfl; have hcz18_6 : w15.cell? ⟨gb227, 6, none⟩ = some (.int .i64 a0_6) := (blk_cell BK227.out 6).trans rfl; have hfz18_0 := blk_frozen BK227.out 0; have hfz18_1 := blk_frozen BK227.out 1; have hfz18_2 := blk_frozen BK227.out 2; have hfz18_3 := blk_frozen BK227.out 3; have hfz18_4 := blk_frozen BK227.out 4; have hfz18_5 := blk_frozen BK227.out 5; have hfz18_6 := blk_frozen BK227.out 6) | ((with_reducible refine gate_dst (N := 16) rfl ?_); (try (refine gate_guard (by rfl) ?_; dsimp only)); refine Kd.R_lit (Kd.int .i64) _ 3 ?hg (N := 16) ?hd (xs := ([35, 26] : List Int)) (inner := [.int .i64 35, .int .i64 26]) (ok := fun _ => True) (okp := fun _ => True) ?hr ?hp (fun _ hk => hk) trivial (Below.refl _ _) (Nat.le_refl _) (by simp) ?_; (case hd => rfl); (case hg => rfl); (case hr => first | (go_simp; done) | (go_simp; rfl)); (case hp => exact (Reps.one (show Kd.M (Kd.int .i64) _ _ _ 35 [.int .i64 35] from rfl) (Reps.one (show Kd.M (Kd.int .i64) _ _ _ 26 [.int .i64 26] from rfl) (Reps.none _ _)))); intro v233 w19 ho20 hb hg_ hnew_; clear hg_ hnew_; (first | rw [← Ny232.out] at ho20 | (simp only [Int.reduceToNat] at ho20; rw [← Ny232.out] at ho20)); have n0_ := Aside0.mk (Kd.R_elder' (by (with_reducible repeat (first | apply Kd.R_alloc | apply Kd.R_drewN | apply Kd.R_drew)); exact HO230.out) (Kd.R_base ho20) hb); have n1_ := Aside0.mk (Kd.R_lower (Kd.R_new' ho20 (Kd.R_lt (by (with_reducible repeat (first | apply Kd.R_alloc | apply Kd.R_drewN | apply Kd.R_drew)); exact HO230.out))) (below_size bs)); have n2_ := Aside0.mk (blk_below (g := gb227) (o := .cells #[.slice A0_0 l0_0.length c0_0, .int .i64 a0_1, .int .i64 a0_2, .int .i64 a0_3, .int .i64 a0_4, .int .i64 a0_5, .int .i64 a0_6] 74 (0, 0)) kz hb); have n3_ := Aside0.mk (below_step bs hb); clear HO230; clear BK227; clear HB; have HO230 := n0_; have HO234 := n1_; have BK227 := n2_; have HB := n3_; clear n0_ n1_ n2_ n3_; clear hb ho20; obtain ⟨Ao21, co21, eo21⟩ := Kd.R_slice HO234.out; subst eo21) | (go_at_call 42; (with_reducible refine (spec_among.calls k a0_4 _ _ y232 true _ ?side1 ?side2 A12.out).mono ?_); (case side1 => repeat (first | exact (Kd.R_reads' HO234.out).2.2 | (with_reducible refine Kd.C_alloc ?_ _) | (with_reducible refine Kd.C_drewN ?_ _) | (with_reducible refine Kd.C_drew ?_))); (case side2 => exact (Kd.R_reads' HO234.out).2.1); rintro e w' ⟨rfl, ⟨nd, rfl⟩⟩; have hcz22_0 : w19.cell? ⟨gb227, 0, none⟩ = some (.slice A0_0 l0_0.length c0_0) := (blk_cell BK227.out 0).trans rfl; have hcz22_1 : w19.cell? ⟨gb227, 1, none⟩ = some (.int .i64 a0_1) := (blk_cell BK227.out 1).trans rfl; have hcz22_2 : w19.cell? ⟨gb227, 2, none⟩ = some (.int .i64 a0_2) := (blk_cell BK227.out 2).trans rfl; have hcz22_3 : w19.cell? ⟨gb227, 3, none⟩ = some (.int .i64 a0_3) := (blk_cell BK227.out 3).trans rfl; have hcz22_4 : w19.cell? ⟨gb227, 4, none⟩ = some (.int .i64 a0_4) := (blk_cell BK227.out 4).trans rfl; have hcz22_5 : w19.cell? ⟨gb227, 5, none⟩ = some (.int .i64 a0_5) := (blk_cell BK227.out 5).trans rfl; have hcz22_6 : w19.cell? ⟨gb227, 6, none⟩ = some (.int .i64 a0_6) := (blk_cell BK227.out 6).trans rfl; have hfz22_0 := blk_frozen BK227.out 0; have hfz22_1 := blk_frozen BK227.out 1; have hfz22_2 := blk_frozen BK227.out 2; have hfz22_3 := blk_frozen BK227.out 3; have hfz22_4 := blk_frozen BK227.out 4; have hfz22_5 := blk_frozen BK227.out 5; have hfz22_6 := blk_frozen BK227.out 6))
     go_meet
     case rel => exact ⟨_, ((a0_5 == 34)), vz, H', ⟨by first | omega | exact Nat.le_refl _⟩, ⟨kz⟩, ⟨bs⟩⟩
    ·replace c13 := Bool.eq_false_iff.mpr c13
     subst c13
     rw [if_neg (show ¬ (false = true) by decide)] at H
     have H' := Aside0.mk H
     clear H
     have hcz23_0 : w3.cell? ⟨gb227, 0, none⟩ = some (.slice A0_0 l0_0.length c0_0) := (blk_cell BK227.out 0).trans rfl
     have hcz23_1 : w3.cell? ⟨gb227, 1, none⟩ = some (.int .i64 a0_1) := (blk_cell BK227.out 1).trans rfl
     have hcz23_2 : w3.cell? ⟨gb227, 2, none⟩ = some (.int .i64 a0_2) := (blk_cell BK227.out 2).trans rfl
     have hcz23_3 : w3.cell? ⟨gb227, 3, none⟩ = some (.int .i64 a0_3) := (blk_cell BK227.out 3).trans rfl
     have hcz23_4 : w3.cell? ⟨gb227, 4, none⟩ = some (.int .i64 a0_4) := (blk_cell BK227.out 4).trans rfl
     have hcz23_5 : w3.cell? ⟨gb227, 5, none⟩ = some (.int .i64 a0_5) := (blk_cell BK227.out 5).trans rfl
     have hcz23_6 : w3.cell? ⟨gb227, 6, none⟩ = some (.int .i64 a0_6) := (blk_cell BK227.out 6).trans rfl
     have hfz23_0 := blk_frozen BK227.out 0
     have hfz23_1 := blk_frozen BK227.out 1
     have hfz23_2 := blk_frozen BK227.out 2
     have hfz23_3 := blk_frozen BK227.out 3
     have hfz23_4 := blk_frozen BK227.out 4
     have hfz23_5 := blk_frozen BK227.out 5
     have hfz23_6 := blk_frozen BK227.out 6
     go_wp2_with (first | ((with_reducible refine gate_dst (N := 7) rfl ?_); (try (refine gate_guard (by rfl) ?_; dsimp only)); refine Kd.R_lit (Kd.int .i64) _ 3 ?hg (N := 7) ?hd (xs := ([37, 36] : List Int)) (inner := [.int .i64 37, .int .i64 36]) (ok := fun _ => True) (okp := fun _ => True) ?hr ?hp (fun _ hk => hk) trivial (Below.refl _ _) (Nat.le_refl _) (by simp) ?_; (case hd => rfl); (case hg => rfl); (case hr => first | (go_simp; done) | (go_simp; rfl)); (case hp => exact (Reps.one (show Kd.M (Kd.int .i64) _ _ _ 37 [.int .i64 37] from rfl) (Reps.one (show Kd.M (Kd.int .i64) _ _ _ 36 [.int .i64 36] from rfl) (Reps.none _ _)))); intro v229 w24 ho25 hb hg_ hnew_; clear hg_ hnew_; (first | rw [← Ny228.out] at ho25 | (simp only [Int.reduceToNat] at ho25; rw [← Ny228.out] at ho25)); have n0_ := Aside0.mk (Kd.R_lower ho25 (below_size bs)); have n1_ := Aside0.mk (blk_below (g := gb227) (o := .cells #[.slice A0_0 l0_0.length c0_0, .int .i64 a0_1, .int .i64 a0_2, .int .i64 a0_3, .int .i64 a0_4, .int .i64 a0_5, .int .i64 a0_6] 74 (0, 0)) kz hb); have n2_ := Aside0.mk (below_step bs hb); clear BK227; clear HB; have HO230 := n0_; have BK227 := n1_; have HB := n2_; clear n0_ n1_ n2_; clear hb ho25; obtain ⟨Ao26, co26, eo26⟩ := Kd.R_slice HO230.out; subst eo26) | ((with_reducible refine gate_callee (f := 42) rfl ?_); refine goesL_ (some 8) rfl rfl Try.func42 (by kernel_rfl) rfl #[.int .i64 a0_3, .slice Ao26 y228.length co26] rfl mz ?_; (with_reducible refine (spec_among.calls k a0_3 _ _ y228 true _ ?side1 ?side2 A4.out).mono ?_); (case side1 => repeat (first | exact (Kd.R_reads' HO230.out).2.2 | (with_reducible refine Kd.C_alloc ?_ _) | (with_reducible refine Kd.C_drewN ?_ _) | (with_reducible refine Kd.C_drew ?_))); (case side2 => exact (Kd.R_reads' HO230.out).2.1); rintro e w' ⟨rfl, ⟨nd, rfl⟩⟩; refine ⟨_, rfl, ?_⟩; have hcz27_0 : w24.cell? ⟨gb227, 0, none⟩ = some (.slice A0_0 l0_0.length c0_0) := (blk_cell BK227.out 0).trans rfl; have hcz27_1 : w24.cell? ⟨gb227, 1, none⟩ = some (.int .i64 a0_1) := (blk_cell BK227.out 1).trans rfl; have hcz27_2 : w24.cell? ⟨gb227, 2, none⟩ = some (.int .i64 a0_2) := (blk_cell BK227.out 2).trans rfl; have hcz27_3 : w24.cell? ⟨gb227, 3, none⟩ = some (.int .i64 a0_3) := (blk_cell BK227.out 3).trans rfl; have hcz27_4 : w24.cell? ⟨gb227, 4, none⟩ = some (.int .i64 a0_4) := (blk_cell BK227.out 4).trans rfl; have hcz27_5 : w24.cell? ⟨gb227, 5, none⟩ = some (.int .i64 a0_5) := (blk_cell BK227.out 5).trans rfl; have hcz27_6 : w24.cell? ⟨gb227, 6, none⟩ = some (.int .i64 a0_6) := (blk_cell BK227.out 6).trans rfl; have hfz27_0 := blk_frozen BK227.out 0; have hfz27_1 := blk_frozen BK227.out 1; have hfz27_2 := blk_frozen BK227.out 2; have hfz27_3 := blk_frozen BK227.out 3; have hfz27_4 := blk_frozen BK227.out 4; have hfz27_5 := blk_frozen BK227.out 5; have hfz27_6 := blk_frozen BK227.out 6) | ((with_reducible refine gate_dst (N := 16) rfl ?_); (try (refine gate_guard (by rfl) ?_; dsimp only)); refine Kd.R_lit (Kd.int .i64) _ 3 ?hg (N := 16) ?hd (xs := ([35, 26] : List Int)) (inner := [.int .i64 35, .int .i64 26]) (ok := fun _ => True) (okp := fun _ => True) ?hr ?hp (fun _ hk => hk) trivial (Below.refl _ _) (Nat.le_refl _) (by simp) ?_; (case hd => rfl); (case hg => rfl); (case hr => first | (go_simp; done) | (go_simp; rfl)); (case hp => exact (Reps.one (show Kd.M (Kd.int .i64) _ _ _ 35 [.int .i64 35] from rfl) (Reps.one (show Kd.M (Kd.int .i64) _ _ _ 26 [.int .i64 26] from rfl) (Reps.none _ _)))); intro v233 w28 ho29 hb hg_ hnew_; clear hg_ hnew_; (first | rw [← Ny232.out] at ho29 | (simp only [Int.reduceToNat] at ho29; rw [← Ny232.out] at ho29)); have n0_ := Aside0.mk (Kd.R_elder' (by (with_reducible repeat (first | apply Kd.R_alloc | apply Kd.R_drewN | apply Kd.R_drew)); exact HO230.out) (Kd.R_base ho29) hb); have n1_ := Aside0.mk (Kd.R_lower (Kd.R_new' ho29 (Kd.R_lt (by (with_reducible repeat (first | apply Kd.R_alloc | apply Kd.R_drewN | apply Kd.R_drew)); exact HO230.out))) (below_size bs)); have n2_ := Aside0.mk (blk_below (g := gb227) (o := .cells #[.slice A0_0 l0_0.length c0_0, .int .i64 a0_1, .int .i64 a0_2, .int .i64 a0_3, .int .i64 a0_4, .int .i64 a0_5, .int .i64 a0_6] 74 (0, 0)) kz hb); have n3_ := Aside0.mk (below_step bs hb); clear HO230; clear BK227; clear HB; have HO230 := n0_; have HO234 := n1_; have BK227 := n2_; have HB := n3_; clear n0_ n1_ n2_ n3_; clear hb ho29; obtain ⟨Ao30, co30, eo30⟩ := Kd.R_slice HO234.out; subst eo30) | (go_at_call 42; (with_reducible refine (spec_among.calls k a0_4 _ _ y232 false _ ?side1 ?side2 A12.out).mono ?_); (case side1 => repeat (first | exact (Kd.R_reads' HO234.out).2.2 | (with_reducible refine Kd.C_alloc ?_ _) | (with_reducible refine Kd.C_drewN ?_ _) | (with_reducible refine Kd.C_drew ?_))); (case side2 => exact (Kd.R_reads' HO234.out).2.1); rintro e w' ⟨rfl, ⟨nd, rfl⟩⟩))
     go_meet
     case rel => exact ⟨_, (false), vz, H', ⟨by first | omega | exact Nat.le_refl _⟩, ⟨kz⟩, ⟨bs⟩⟩
  ·replace c5 := Bool.eq_false_iff.mpr c5
   subst c5
   rw [if_neg (show ¬ (false = true) by decide)] at H
   have H' := Aside0.mk H
   clear H
   have hcz31_0 : w3.cell? ⟨gb227, 0, none⟩ = some (.slice A0_0 l0_0.length c0_0) := (blk_cell BK227.out 0).trans rfl
   have hcz31_1 : w3.cell? ⟨gb227, 1, none⟩ = some (.int .i64 a0_1) := (blk_cell BK227.out 1).trans rfl
   have hcz31_2 : w3.cell? ⟨gb227, 2, none⟩ = some (.int .i64 a0_2) := (blk_cell BK227.out 2).trans rfl
   have hcz31_3 : w3.cell? ⟨gb227, 3, none⟩ = some (.int .i64 a0_3) := (blk_cell BK227.out 3).trans rfl
   have hcz31_4 : w3.cell? ⟨gb227, 4, none⟩ = some (.int .i64 a0_4) := (blk_cell BK227.out 4).trans rfl
   have hcz31_5 : w3.cell? ⟨gb227, 5, none⟩ = some (.int .i64 a0_5) := (blk_cell BK227.out 5).trans rfl
   have hcz31_6 : w3.cell? ⟨gb227, 6, none⟩ = some (.int .i64 a0_6) := (blk_cell BK227.out 6).trans rfl
   have hfz31_0 := blk_frozen BK227.out 0
   have hfz31_1 := blk_frozen BK227.out 1
   have hfz31_2 := blk_frozen BK227.out 2
   have hfz31_3 := blk_frozen BK227.out 3
   have hfz31_4 := blk_frozen BK227.out 4
   have hfz31_5 := blk_frozen BK227.out 5
   have hfz31_6 := blk_frozen BK227.out 6
   go_wp2_with (first | ((with_reducible refine gate_dst (N := 7) rfl ?_); (try (refine gate_guard (by rfl) ?_; dsimp only)); refine Kd.R_lit (Kd.int .i64) _ 3 ?hg (N := 7) ?hd (xs := ([37, 36] : List Int)) (inner := [.int .i64 37, .int .i64 36]) (ok := fun _ => True) (okp := fun _ => True) ?hr ?hp (fun _ hk => hk) trivial (Below.refl _ _) (Nat.le_refl _) (by simp) ?_; (case hd => rfl); (case hg => rfl); (case hr => first | (go_simp; done) | (go_simp; rfl)); (case hp => exact (Reps.one (show Kd.M (Kd.int .i64) _ _ _ 37 [.int .i64 37] from rfl) (Reps.one (show Kd.M (Kd.int .i64) _ _ _ 36 [.int .i64 36] from rfl) (Reps.none _ _)))); intro v229 w32 ho33 hb hg_ hnew_; clear hg_ hnew_; (first | rw [← Ny228.out] at ho33 | (simp only [Int.reduceToNat] at ho33; rw [← Ny228.out] at ho33)); have n0_ := Aside0.mk (Kd.R_lower ho33 (below_size bs)); have n1_ := Aside0.mk (blk_below (g := gb227) (o := .cells #[.slice A0_0 l0_0.length c0_0, .int .i64 a0_1, .int .i64 a0_2, .int .i64 a0_3, .int .i64 a0_4, .int .i64 a0_5, .int .i64 a0_6] 74 (0, 0)) kz hb); have n2_ := Aside0.mk (below_step bs hb); clear BK227; clear HB; have HO230 := n0_; have BK227 := n1_; have HB := n2_; clear n0_ n1_ n2_; clear hb ho33; obtain ⟨Ao34, co34, eo34⟩ := Kd.R_slice HO230.out; subst eo34) | ((with_reducible refine gate_callee (f := 42) rfl ?_); refine goesL_ (some 8) rfl rfl Try.func42 (by kernel_rfl) rfl #[.int .i64 a0_3, .slice Ao34 y228.length co34] rfl mz ?_; (with_reducible refine (spec_among.calls k a0_3 _ _ y228 false _ ?side1 ?side2 A4.out).mono ?_); (case side1 => repeat (first | exact (Kd.R_reads' HO230.out).2.2 | (with_reducible refine Kd.C_alloc ?_ _) | (with_reducible refine Kd.C_drewN ?_ _) | (with_reducible refine Kd.C_drew ?_))); (case side2 => exact (Kd.R_reads' HO230.out).2.1); rintro e w' ⟨rfl, ⟨nd, rfl⟩⟩; refine ⟨_, rfl, ?_⟩))
   go_meet
   case rel => exact ⟨_, (false), vz, H', ⟨by first | omega | exact Nat.le_refl _⟩, ⟨kz⟩, ⟨bs⟩⟩
 case rest =>
  clear HC2
  obtain ⟨kq, x24_1, rfl, HA, HJ1, BK227, HB⟩ := hcut
  cases kq with
  | zero => exact absurd HA.out (by simp [spec_lbNumber.j0])
  | succ kj1 =>
   have H := HA.out
   clear HA
   simp only [spec_lbNumber.j0] at H
   by_cases c35 : x24_1 = true
   ·subst c35
    rw [if_pos rfl] at H
    obtain rfl := Option.some.inj H
    go_wp2
    go_ret
    exact ⟨ez, bs⟩
   ·replace c35 := Bool.eq_false_iff.mpr c35
    subst c35
    rw [if_neg (show ¬ (false = true) by decide)] at H
    have HC36 := Aside0.mk H
    clear H
    go_upto_region 3 with (fail)
    go_cut [33] (fun v33 wc => ∃ (kq : Nat) (x33_35 : Bool), v33 = .bool x33_35 ∧ Aside0 (spec_lbNumber.j1 kq x33_35 l0_0 a0_1 a0_2 a0_3 a0_4 a0_5 a0_6 = some r) ∧ Aside0 (kq ≤ kj1) ∧ Aside0 (wc.heap[gb227]? = some (.cells #[(.slice A0_0 l0_0.length c0_0), .int .i64 a0_1, .int .i64 a0_2, .int .i64 a0_3, .int .i64 a0_4, .int .i64 a0_5, .int .i64 a0_6] 74 (0, 0))) ∧ Aside0 (Below w.heap.size w wc))
    case first =>
     have H := HC36.out
     clear HC36
     obtain ⟨y236, hy236⟩ : ∃ y_ : List Int, y_ = (([35, 26] : List Int)) := ⟨_, rfl⟩
     first | rw [← hy236] at H | simp only [← hy236] at H
     have Ny236 := Aside0.mk hy236
     clear hy236
     replace H := Option.bind_eq_some_iff.mp H
     obtain ⟨t239, A370, H⟩ := H
     try dsimp only at H
     have A37 := Aside0.mk A370
     clear A370
     by_cases c38 : t239 = true
     ·subst c38
      rw [if_pos rfl] at H
      have H' := Aside0.mk H
      clear H
      have hcz39_0 : wc.cell? ⟨gb227, 0, none⟩ = some (.slice A0_0 l0_0.length c0_0) := (blk_cell BK227.out 0).trans rfl
      have hcz39_1 : wc.cell? ⟨gb227, 1, none⟩ = some (.int .i64 a0_1) := (blk_cell BK227.out 1).trans rfl
      have hcz39_2 : wc.cell? ⟨gb227, 2, none⟩ = some (.int .i64 a0_2) := (blk_cell BK227.out 2).trans rfl
      have hcz39_3 : wc.cell? ⟨gb227, 3, none⟩ = some (.int .i64 a0_3) := (blk_cell BK227.out 3).trans rfl
      have hcz39_4 : wc.cell? ⟨gb227, 4, none⟩ = some (.int .i64 a0_4) := (blk_cell BK227.out 4).trans rfl
      have hcz39_5 : wc.cell? ⟨gb227, 5, none⟩ = some (.int .i64 a0_5) := (blk_cell BK227.out 5).trans rfl
      have hcz39_6 : wc.cell? ⟨gb227, 6, none⟩ = some (.int .i64 a0_6) := (blk_cell BK227.out 6).trans rfl
      have hfz39_0 := blk_frozen BK227.out 0
      have hfz39_1 := blk_frozen BK227.out 1
      have hfz39_2 := blk_frozen BK227.out 2
      have hfz39_3 := blk_frozen BK227.out 3
      have hfz39_4 := blk_frozen BK227.out 4
      have hfz39_5 := blk_frozen BK227.out 5
      have hfz39_6 := blk_frozen BK227.out 6
      go_wp2_with (first | ((with_reducible refine gate_dst (N := 27) rfl ?_); (try (refine gate_guard (by rfl) ?_; dsimp only)); refine Kd.R_lit (Kd.int .i64) _ 3 ?hg (N := 27) ?hd (xs := ([35, 26] : List Int)) (inner := [.int .i64 35, .int .i64 26]) (ok := fun _ => True) (okp := fun _ => True) ?hr ?hp (fun _ hk => hk) trivial (Below.refl _ _) (Nat.le_refl _) (by simp) ?_; (case hd => rfl); (case hg => rfl); (case hr => first | (go_simp; done) | (go_simp; rfl)); (case hp => exact (Reps.one (show Kd.M (Kd.int .i64) _ _ _ 35 [.int .i64 35] from rfl) (Reps.one (show Kd.M (Kd.int .i64) _ _ _ 26 [.int .i64 26] from rfl) (Reps.none _ _)))); intro v237 w40 ho41 hb hg_ hnew_; clear hg_ hnew_; (first | rw [← Ny236.out] at ho41 | (simp only [Int.reduceToNat] at ho41; rw [← Ny236.out] at ho41)); have n0_ := Aside0.mk (Kd.R_lower ho41 (below_size bs)); have n1_ := Aside0.mk (blk_below (g := gb227) (o := .cells #[.slice A0_0 l0_0.length c0_0, .int .i64 a0_1, .int .i64 a0_2, .int .i64 a0_3, .int .i64 a0_4, .int .i64 a0_5, .int .i64 a0_6] 74 (0, 0)) kz hb); have n2_ := Aside0.mk (below_step bs hb); clear BK227; clear HB; have HO238 := n0_; have BK227 := n1_; have HB := n2_; clear n0_ n1_ n2_; clear hb ho41; obtain ⟨Ao42, co42, eo42⟩ := Kd.R_slice HO238.out; subst eo42) | ((with_reducible refine gate_callee (f := 42) rfl ?_); refine goesL_ (some 28) rfl rfl Try.func42 (by kernel_rfl) rfl #[.int .i64 a0_3, .slice Ao42 y236.length co42] rfl mz ?_; (with_reducible refine (spec_among.calls kj1 a0_3 _ _ y236 true _ ?side1 ?side2 A37.out).mono ?_); (case side1 => repeat (first | exact (Kd.R_reads' HO238.out).2.2 | (with_reducible refine Kd.C_alloc ?_ _) | (with_reducible refine Kd.C_drewN ?_ _) | (with_reducible refine Kd.C_drew ?_))); (case side2 => exact (Kd.R_reads' HO238.out).2.1); rintro e w' ⟨rfl, ⟨nd, rfl⟩⟩; refine ⟨_, rfl, ?_⟩; have hcz43_0 : w40.cell? ⟨gb227, 0, none⟩ = some (.slice A0_0 l0_0.length c0_0) := (blk_cell BK227.out 0).trans rfl; have hcz43_1 : w40.cell? ⟨gb227, 1, none⟩ = some (.int .i64 a0_1) := (blk_cell BK227.out 1).trans rfl; have hcz43_2 : w40.cell? ⟨gb227, 2, none⟩ = some (.int .i64 a0_2) := (blk_cell BK227.out 2).trans rfl; have hcz43_3 : w40.cell? ⟨gb227, 3, none⟩ = some (.int .i64 a0_3) := (blk_cell BK227.out 3).trans rfl; have hcz43_4 : w40.cell? ⟨gb227, 4, none⟩ = some (.int .i64 a0_4) := (blk_cell BK227.out 4).trans rfl; have hcz43_5 : w40.cell? ⟨gb227, 5, none⟩ = some (.int .i64 a0_5) := (blk_cell BK227.out 5).trans rfl; have hcz43_6 : w40.cell? ⟨gb227, 6, none⟩ = some (.int .i64 a0_6) := (blk_cell BK227.out 6).trans rfl; have hfz43_0 := blk_frozen BK227.out 0; have hfz43_1 := blk_frozen BK227.out 1; have hfz43_2 := blk_frozen BK227.out 2; have hfz43_3 := blk_frozen BK227.out 3; have hfz43_4 := blk_frozen BK227.out 4; have hfz43_5 := blk_frozen BK227.out 5; have hfz43_6 := blk_frozen BK227.out 6))
      go_meet
      case rel => exact ⟨_, ((a0_4 == 34)), vz, H', ⟨by have := HJ1.out; first | omega | exact Nat.le_refl _⟩, ⟨kz⟩, ⟨bs⟩⟩
     ·replace c38 := Bool.eq_false_iff.mpr c38
      subst c38
      rw [if_neg (show ¬ (false = true) by decide)] at H
      have H' := Aside0.mk H
      clear H
      have hcz44_0 : wc.cell? ⟨gb227, 0, none⟩ = some (.slice A0_0 l0_0.length c0_0) := (blk_cell BK227.out 0).trans rfl
      have hcz44_1 : wc.cell? ⟨gb227, 1, none⟩ = some (.int .i64 a0_1) := (blk_cell BK227.out 1).trans rfl
      have hcz44_2 : wc.cell? ⟨gb227, 2, none⟩ = some (.int .i64 a0_2) := (blk_cell BK227.out 2).trans rfl
      have hcz44_3 : wc.cell? ⟨gb227, 3, none⟩ = some (.int .i64 a0_3) := (blk_cell BK227.out 3).trans rfl
      have hcz44_4 : wc.cell? ⟨gb227, 4, none⟩ = some (.int .i64 a0_4) := (blk_cell BK227.out 4).trans rfl
      have hcz44_5 : wc.cell? ⟨gb227, 5, none⟩ = some (.int .i64 a0_5) := (blk_cell BK227.out 5).trans rfl
      have hcz44_6 : wc.cell? ⟨gb227, 6, none⟩ = some (.int .i64 a0_6) := (blk_cell BK227.out 6).trans rfl
      have hfz44_0 := blk_frozen BK227.out 0
      have hfz44_1 := blk_frozen BK227.out 1
      have hfz44_2 := blk_frozen BK227.out 2
      have hfz44_3 := blk_frozen BK227.out 3
      have hfz44_4 := blk_frozen BK227.out 4
      have hfz44_5 := blk_frozen BK227.out 5
      have hfz44_6 := blk_frozen BK227.out 6
      go_wp2_with (first | ((with_reducible refine gate_dst (N := 27) rfl ?_); (try (refine gate_guard (by rfl) ?_; dsimp only)); refine Kd.R_lit (Kd.int .i64) _ 3 ?hg (N := 27) ?hd (xs := ([35, 26] : List Int)) (inner := [.int .i64 35, .int .i64 26]) (ok := fun _ => True) (okp := fun _ => True) ?hr ?hp (fun _ hk => hk) trivial (Below.refl _ _) (Nat.le_refl _) (by simp) ?_; (case hd => rfl); (case hg => rfl); (case hr => first | (go_simp; done) | (go_simp; rfl)); (case hp => exact (Reps.one (show Kd.M (Kd.int .i64) _ _ _ 35 [.int .i64 35] from rfl) (Reps.one (show Kd.M (Kd.int .i64) _ _ _ 26 [.int .i64 26] from rfl) (Reps.none _ _)))); intro v237 w45 ho46 hb hg_ hnew_; clear hg_ hnew_; (first | rw [← Ny236.out] at ho46 | (simp only [Int.reduceToNat] at ho46; rw [← Ny236.out] at ho46)); have n0_ := Aside0.mk (Kd.R_lower ho46 (below_size bs)); have n1_ := Aside0.mk (blk_below (g := gb227) (o := .cells #[.slice A0_0 l0_0.length c0_0, .int .i64 a0_1, .int .i64 a0_2, .int .i64 a0_3, .int .i64 a0_4, .int .i64 a0_5, .int .i64 a0_6] 74 (0, 0)) kz hb); have n2_ := Aside0.mk (below_step bs hb); clear BK227; clear HB; have HO238 := n0_; have BK227 := n1_; have HB := n2_; clear n0_ n1_ n2_; clear hb ho46; obtain ⟨Ao47, co47, eo47⟩ := Kd.R_slice HO238.out; subst eo47) | ((with_reducible refine gate_callee (f := 42) rfl ?_); refine goesL_ (some 28) rfl rfl Try.func42 (by kernel_rfl) rfl #[.int .i64 a0_3, .slice Ao47 y236.length co47] rfl mz ?_; (with_reducible refine (spec_among.calls kj1 a0_3 _ _ y236 false _ ?side1 ?side2 A37.out).mono ?_); (case side1 => repeat (first | exact (Kd.R_reads' HO238.out).2.2 | (with_reducible refine Kd.C_alloc ?_ _) | (with_reducible refine Kd.C_drewN ?_ _) | (with_reducible refine Kd.C_drew ?_))); (case side2 => exact (Kd.R_reads' HO238.out).2.1); rintro e w' ⟨rfl, ⟨nd, rfl⟩⟩; refine ⟨_, rfl, ?_⟩))
      go_meet
      case rel => exact ⟨_, (false), vz, H', ⟨by have := HJ1.out; first | omega | exact Nat.le_refl _⟩, ⟨kz⟩, ⟨bs⟩⟩
    case rest =>
     clear HC36
     obtain ⟨kq, x33_35, rfl, HA, HJ35, BK227, HB⟩ := hcut
     cases kq with
     | zero => exact absurd HA.out (by simp [spec_lbNumber.j1])
     | succ kj35 =>
      have H := HA.out
      clear HA
      simp only [spec_lbNumber.j1] at H
      by_cases c48 : x33_35 = true
      ·subst c48
       rw [if_pos rfl] at H
       obtain rfl := Option.some.inj H
       go_wp2
       go_ret
       exact ⟨ez, bs⟩
      ·replace c48 := Bool.eq_false_iff.mpr c48
       subst c48
       rw [if_neg (show ¬ (false = true) by decide)] at H
       obtain ⟨y240, hy240⟩ : ∃ y_ : List Int, y_ = (([18, 19] : List Int)) := ⟨_, rfl⟩
       first | rw [← hy240] at H | simp only [← hy240] at H
       have Ny240 := Aside0.mk hy240
       clear hy240
       replace H := Option.bind_eq_some_iff.mp H
       obtain ⟨t243, A490, H⟩ := H
       try dsimp only at H
       have A49 := Aside0.mk A490
       clear A490
       have HC50 := Aside0.mk H
       clear H
       have hcz51_0 : wc.cell? ⟨gb227, 0, none⟩ = some (.slice A0_0 l0_0.length c0_0) := (blk_cell BK227.out 0).trans rfl
       have hcz51_1 : wc.cell? ⟨gb227, 1, none⟩ = some (.int .i64 a0_1) := (blk_cell BK227.out 1).trans rfl
       have hcz51_2 : wc.cell? ⟨gb227, 2, none⟩ = some (.int .i64 a0_2) := (blk_cell BK227.out 2).trans rfl
       have hcz51_3 : wc.cell? ⟨gb227, 3, none⟩ = some (.int .i64 a0_3) := (blk_cell BK227.out 3).trans rfl
       have hcz51_4 : wc.cell? ⟨gb227, 4, none⟩ = some (.int .i64 a0_4) := (blk_cell BK227.out 4).trans rfl
       have hcz51_5 : wc.cell? ⟨gb227, 5, none⟩ = some (.int .i64 a0_5) := (blk_cell BK227.out 5).trans rfl
       have hcz51_6 : wc.cell? ⟨gb227, 6, none⟩ = some (.int .i64 a0_6) := (blk_cell BK227.out 6).trans rfl
       have hfz51_0 := blk_frozen BK227.out 0
       have hfz51_1 := blk_frozen BK227.out 1
       have hfz51_2 := blk_frozen BK227.out 2
       have hfz51_3 := blk_frozen BK227.out 3
       have hfz51_4 := blk_frozen BK227.out 4
       have hfz51_5 := blk_frozen BK227.out 5
       have hfz51_6 := blk_frozen BK227.out 6
       go_upto_if 41 with (first | ((with_reducible refine gate_dst (N := 39) rfl ?_); (try (refine gate_guard (by rfl) ?_; dsimp only)); refine Kd.R_lit (Kd.int .i64) _ 3 ?hg (N := 39) ?hd (xs := ([18, 19] : List Int)) (inner := [.int .i64 18, .int .i64 19]) (ok := fun _ => True) (okp := fun _ => True) ?hr ?hp (fun _ hk => hk) trivial (Below.refl _ _) (Nat.le_refl _) (by simp) ?_; (case hd => rfl); (case hg => rfl); (case hr => first | (go_simp; done) | (go_simp; rfl)); (case hp => exact (Reps.one (show Kd.M (Kd.int .i64) _ _ _ 18 [.int .i64 18] from rfl) (Reps.one (show Kd.M (Kd.int .i64) _ _ _ 19 [.int .i64 19] from rfl) (Reps.none _ _)))); intro v241 w52 ho53 hb hg_ hnew_; clear hg_ hnew_; (first | rw [← Ny240.out] at ho53 | (simp only [Int.reduceToNat] at ho53; rw [← Ny240.out] at ho53)); have n0_ := Aside0.mk (Kd.R_lower ho53 (below_size bs)); have n1_ := Aside0.mk (blk_below (g := gb227) (o := .cells #[.slice A0_0 l0_0.length c0_0, .int .i64 a0_1, .int .i64 a0_2, .int .i64 a0_3, .int .i64 a0_4, .int .i64 a0_5, .int .i64 a0_6] 74 (0, 0)) kz hb); have n2_ := Aside0.mk (below_step bs hb); clear BK227; clear HB; have HO242 := n0_; have BK227 := n1_; have HB := n2_; clear n0_ n1_ n2_; clear hb ho53; obtain ⟨Ao54, co54, eo54⟩ := Kd.R_slice HO242.out; subst eo54) | ((with_reducible refine gate_callee (f := 42) rfl ?_); refine goesL_ (some 40) rfl rfl Try.func42 (by kernel_rfl) rfl #[.int .i64 a0_3, .slice Ao54 y240.length co54] rfl mz ?_; (with_reducible refine (spec_among.calls kj35 a0_3 _ _ y240 t243 _ ?side1 ?side2 A49.out).mono ?_); (case side1 => repeat (first | exact (Kd.R_reads' HO242.out).2.2 | (with_reducible refine Kd.C_alloc ?_ _) | (with_reducible refine Kd.C_drewN ?_ _) | (with_reducible refine Kd.C_drew ?_))); (case side2 => exact (Kd.R_reads' HO242.out).2.1); rintro e w' ⟨rfl, ⟨nd, rfl⟩⟩; refine ⟨_, rfl, ?_⟩))
       (try simp only [Act.put, List.setIfInBounds_toArray, List.set_cons_zero, List.set_cons_succ])
       go_cut [3] (fun v3 wc => ∃ (kq : Nat) (x3_49 : Int), v3 = .int .i64 x3_49 ∧ Aside0 (spec_lbNumber.j2 kq x3_49 t243 l0_0 a0_1 a0_2 a0_3 a0_4 a0_5 a0_6 = some r) ∧ Aside0 (kq ≤ kj35) ∧ Aside0 (wc.heap[gb227]? = some (.cells #[(.slice A0_0 l0_0.length c0_0), .int .i64 a0_1, .int .i64 a0_2, .int .i64 a0_3, .int .i64 a0_4, .int .i64 a0_5, .int .i64 a0_6] 74 (0, 0))) ∧ Aside0 (Below w.heap.size w wc))
       case first =>
        have H := HC50.out
        clear HC50
        by_cases c55 : t243 = true
        ·subst c55
         rw [if_pos rfl] at H
         have H' := Aside0.mk H
         clear H
         go_wp2
         go_meet
         case rel => exact ⟨_, (wrap64 ((wrap64 (a0_1 - 1)) - 1)), vz, H', ⟨by have := HJ1.out; have := HJ35.out; first | omega | exact Nat.le_refl _⟩, ⟨kz⟩, ⟨bs⟩⟩
        ·replace c55 := Bool.eq_false_iff.mpr c55
         subst c55
         rw [if_neg (show ¬ (false = true) by decide)] at H
         have H' := Aside0.mk H
         clear H
         go_wp2
         go_meet
         case rel => exact ⟨_, (wrap64 (a0_1 - 1)), vz, H', ⟨by have := HJ1.out; have := HJ35.out; first | omega | exact Nat.le_refl _⟩, ⟨kz⟩, ⟨bs⟩⟩
       case rest =>
        clear HC50
        obtain ⟨kq, x3_49, rfl, HA, HJ49, BK227, HB⟩ := hcut
        cases kq with
        | zero => exact absurd HA.out (by simp [spec_lbNumber.j2])
        | succ kj49 =>
         have H := HA.out
         clear HA
         simp only [spec_lbNumber.j2] at H
         have HC56 := Aside0.mk H
         clear H
         go_upto_block 0 with (fail)
         go_cut [3] (fun v3 wc => ∃ (kq : Nat) (x3_55 : Int), v3 = .int .i64 x3_55 ∧ Aside0 (spec_lbNumber.j4 kq x3_55 t243 l0_0 a0_1 a0_2 a0_3 a0_4 a0_5 a0_6 = some r) ∧ Aside0 (kq ≤ kj49) ∧ Aside0 (wc.heap[gb227]? = some (.cells #[(.slice A0_0 l0_0.length c0_0), .int .i64 a0_1, .int .i64 a0_2, .int .i64 a0_3, .int .i64 a0_4, .int .i64 a0_5, .int .i64 a0_6] 74 (0, 0))) ∧ Aside0 (Below w.heap.size w wc))
         case first =>
          have H := HC56.out
          clear HC56
          have H' := Aside0.mk H
          clear H
          go_wp2
          go_loopg [3] kj49 (fun kq v3 w' => ∃ (x3_4 : Int), v3 = .int .i64 x3_4 ∧ Aside0 (spec_lbNumber.l0 kq x3_4 t243 l0_0 a0_1 a0_2 a0_3 a0_4 a0_5 a0_6 = some r) ∧ Aside0 (kq ≤ kj49) ∧ Aside0 (w'.heap[gb227]? = some (.cells #[(.slice A0_0 l0_0.length c0_0), .int .i64 a0_1, .int .i64 a0_2, .int .i64 a0_3, .int .i64 a0_4, .int .i64 a0_5, .int .i64 a0_6] 74 (0, 0))) ∧ Aside0 (Below w.heap.size w w'))
          case atStart => exact ⟨(x3_49), vz, H', ⟨Nat.le_refl _⟩, ⟨kz⟩, ⟨bs⟩⟩
          case round =>
           clear H'
           obtain ⟨x3_4, rfl, HA, HK4, BK227, HB⟩ := hrel
           cases gk with
           | zero => exact absurd HA.out (by simp [spec_lbNumber.l0])
           | succ k4 =>
            have H := HA.out
            clear HA
            simp only [spec_lbNumber.l0] at H
            by_cases c57 : x3_4 ≥ 0
            ·rw [if_pos c57] at H
             have c57b0 : decide (0 ≤ x3_4) = true := decide_eq_true c57
             clear c57
             (first | rw [c57b0] | (simp only [i64_w]; rw [c57b0]) | skip)
             by_cases c58 : 0 ≤ x3_4
             ·rw [if_pos c58] at H
              have c58b0 : decide (0 ≤ x3_4) = true := decide_eq_true c58
              clear c58
              by_cases c59 : x3_4 < (l0_0.length : Int)
              ·rw [if_pos c59] at H
               have c59b0 : decide (x3_4 < (l0_0.length : Int)) = true := decide_eq_true c59
               clear c59
               obtain ⟨y245, hy245⟩ : ∃ y_ : List Int, y_ = (([42, 29] : List Int)) := ⟨_, rfl⟩
               first | rw [← hy245] at H | simp only [← hy245] at H
               have Ny245 := Aside0.mk hy245
               clear hy245
               replace H := Option.bind_eq_some_iff.mp H
               obtain ⟨t248, A600, H⟩ := H
               try dsimp only at H
               have A60 := Aside0.mk A600
               clear A600
               by_cases c61 : t248 = true
               ·subst c61
                rw [if_pos rfl] at H
                have H' := Aside0.mk H
                clear H
                have hcz62_0 : wr.cell? ⟨gb227, 0, none⟩ = some (.slice A0_0 l0_0.length c0_0) := (blk_cell BK227.out 0).trans rfl
                have hcz62_1 : wr.cell? ⟨gb227, 1, none⟩ = some (.int .i64 a0_1) := (blk_cell BK227.out 1).trans rfl
                have hcz62_2 : wr.cell? ⟨gb227, 2, none⟩ = some (.int .i64 a0_2) := (blk_cell BK227.out 2).trans rfl
                have hcz62_3 : wr.cell? ⟨gb227, 3, none⟩ = some (.int .i64 a0_3) := (blk_cell BK227.out 3).trans rfl
                have hcz62_4 : wr.cell? ⟨gb227, 4, none⟩ = some (.int .i64 a0_4) := (blk_cell BK227.out 4).trans rfl
                have hcz62_5 : wr.cell? ⟨gb227, 5, none⟩ = some (.int .i64 a0_5) := (blk_cell BK227.out 5).trans rfl
                have hcz62_6 : wr.cell? ⟨gb227, 6, none⟩ = some (.int .i64 a0_6) := (blk_cell BK227.out 6).trans rfl
                have hfz62_0 := blk_frozen BK227.out 0
                have hfz62_1 := blk_frozen BK227.out 1
                have hfz62_2 := blk_frozen BK227.out 2
                have hfz62_3 := blk_frozen BK227.out 3
                have hfz62_4 := blk_frozen BK227.out 4
                have hfz62_5 := blk_frozen BK227.out 5
                have hfz62_6 := blk_frozen BK227.out 6
                have p244 : 0 ≤ (x3_4 : Int) := of_decide_eq_true az
                have q244 : x3_4 < (l0_0.length : Int) := of_decide_eq_true az
                obtain ⟨ad244, e244, hx244_0, hx244_1, hx244_2, hx244_3⟩ := at_T64 HR0_0.out x3_4 p244 q244
                cases e244
                replace hx244_0 := (HB.out.cell (World.block_lt_of_cell? w _ hx244_0)).trans hx244_0
                replace hx244_1 := (HB.out.cell (World.block_lt_of_cell? w _ hx244_1)).trans hx244_1
                replace hx244_2 := (HB.out.cell (World.block_lt_of_cell? w _ hx244_2)).trans hx244_2
                replace hx244_3 := (HB.out.cell (World.block_lt_of_cell? w _ hx244_3)).trans hx244_3
                replace p244 := eq_true p244
                replace q244 := eq_true q244
                go_wp2_with (first | ((with_reducible refine gate_dst (N := 53) rfl ?_); (try (refine gate_guard (by rfl) ?_; dsimp only)); refine Kd.R_lit (Kd.int .i64) _ 3 ?hg (N := 53) ?hd (xs := ([42, 29] : List Int)) (inner := [.int .i64 42, .int .i64 29]) (ok := fun _ => True) (okp := fun _ => True) ?hr ?hp (fun _ hk => hk) trivial (Below.refl _ _) (Nat.le_refl _) (by simp) ?_; (case hd => rfl); (case hg => rfl); (case hr => first | (go_simp; done) | (go_simp; rfl)); (case hp => exact (Reps.one (show Kd.M (Kd.int .i64) _ _ _ 42 [.int .i64 42] from rfl) (Reps.one (show Kd.M (Kd.int .i64) _ _ _ 29 [.int .i64 29] from rfl) (Reps.none _ _)))); intro v246 w63 ho64 hb hg_ hnew_; clear hg_ hnew_; (first | rw [← Ny245.out] at ho64 | (simp only [Int.reduceToNat] at ho64; rw [← Ny245.out] at ho64)); have n0_ := Aside0.mk (Kd.R_lower ho64 (below_size bs)); have n1_ := Aside0.mk (blk_below (g := gb227) (o := .cells #[.slice (some ad244) l0_0.length c0_0, .int .i64 a0_1, .int .i64 a0_2, .int .i64 a0_3, .int .i64 a0_4, .int .i64 a0_5, .int .i64 a0_6] 74 (0, 0)) kz hb); have n2_ := Aside0.mk (below_step bs hb); clear BK227; clear HB; have HO247 := n0_; have BK227 := n1_; have HB := n2_; clear n0_ n1_ n2_; clear hb ho64; obtain ⟨Ao65, co65, eo65⟩ := Kd.R_slice HO247.out; subst eo65) | (go_at_call 42; (with_reducible refine (spec_among.calls k4 ((rd_T64 l0_0 x3_4).f0) _ _ y245 true _ ?side1 ?side2 A60.out).mono ?_); (case side1 => repeat (first | exact (Kd.R_reads' HO247.out).2.2 | (with_reducible refine Kd.C_alloc ?_ _) | (with_reducible refine Kd.C_drewN ?_ _) | (with_reducible refine Kd.C_drew ?_))); (case side2 => exact (Kd.R_reads' HO247.out).2.1); rintro e w' ⟨rfl, ⟨nd, rfl⟩⟩))
                go_roundg k4
                case measure => have := HJ1.out; have := HJ35.out; have := HJ49.out; have := HK4.out; omega
                case rel => exact ⟨(wrap64 (x3_4 - 1)), vz, H', ⟨by have := HJ1.out; have := HJ35.out; have := HJ49.out; have := HK4.out; omega⟩, ⟨kz⟩, ⟨bs⟩⟩
               ·replace c61 := Bool.eq_false_iff.mpr c61
                subst c61
                rw [if_neg (show ¬ (false = true) by decide)] at H
                have H' := Aside0.mk H
                clear H
                have hcz66_0 : wr.cell? ⟨gb227, 0, none⟩ = some (.slice A0_0 l0_0.length c0_0) := (blk_cell BK227.out 0).trans rfl
                have hcz66_1 : wr.cell? ⟨gb227, 1, none⟩ = some (.int .i64 a0_1) := (blk_cell BK227.out 1).trans rfl
                have hcz66_2 : wr.cell? ⟨gb227, 2, none⟩ = some (.int .i64 a0_2) := (blk_cell BK227.out 2).trans rfl
                have hcz66_3 : wr.cell? ⟨gb227, 3, none⟩ = some (.int .i64 a0_3) := (blk_cell BK227.out 3).trans rfl
                have hcz66_4 : wr.cell? ⟨gb227, 4, none⟩ = some (.int .i64 a0_4) := (blk_cell BK227.out 4).trans rfl
                have hcz66_5 : wr.cell? ⟨gb227, 5, none⟩ = some (.int .i64 a0_5) := (blk_cell BK227.out 5).trans rfl
                have hcz66_6 : wr.cell? ⟨gb227, 6, none⟩ = some (.int .i64 a0_6) := (blk_cell BK227.out 6).trans rfl
                have hfz66_0 := blk_frozen BK227.out 0
                have hfz66_1 := blk_frozen BK227.out 1
                have hfz66_2 := blk_frozen BK227.out 2
                have hfz66_3 := blk_frozen BK227.out 3
                have hfz66_4 := blk_frozen BK227.out 4
                have hfz66_5 := blk_frozen BK227.out 5
                have hfz66_6 := blk_frozen BK227.out 6
                have p244 : 0 ≤ (x3_4 : Int) := of_decide_eq_true az
                have q244 : x3_4 < (l0_0.length : Int) := of_decide_eq_true az
                obtain ⟨ad244, e244, hx244_0, hx244_1, hx244_2, hx244_3⟩ := at_T64 HR0_0.out x3_4 p244 q244
                cases e244
                replace hx244_0 := (HB.out.cell (World.block_lt_of_cell? w _ hx244_0)).trans hx244_0
                replace hx244_1 := (HB.out.cell (World.block_lt_of_cell? w _ hx244_1)).trans hx244_1
                replace hx244_2 := (HB.out.cell (World.block_lt_of_cell? w _ hx244_2)).trans hx244_2
                replace hx244_3 := (HB.out.cell (World.block_lt_of_cell? w _ hx244_3)).trans hx244_3
                replace p244 := eq_true p244
                replace q244 := eq_true q244
                go_wp2_with (first | ((with_reducible refine gate_dst (N := 53) rfl ?_); (try (refine gate_guard (by rfl) ?_; dsimp only)); refine Kd.R_lit (Kd.int .i64) _ 3 ?hg (N := 53) ?hd (xs := ([42, 29] : List Int)) (inner := [.int .i64 42, .int .i64 29]) (ok := fun _ => True) (okp := fun _ => True) ?hr ?hp (fun _ hk => hk) trivial (Below.refl _ _) (Nat.le_refl _) (by simp) ?_; (case hd => rfl); (case hg => rfl); (case hr => first | (go_simp; done) | (go_simp; rfl)); (case hp => exact (Reps.one (show Kd.M (Kd.int .i64) _ _ _ 42 [.int .i64 42] from rfl) (Reps.one (show Kd.M (Kd.int .i64) _ _ _ 29 [.int .i64 29] from rfl) (Reps.none _ _)))); intro v246 w67 ho68 hb hg_ hnew_; clear hg_ hnew_; (first | rw [← Ny245.out] at ho68 | (simp only [Int.reduceToNat] at ho68; rw [← Ny245.out] at ho68)); have n0_ := Aside0.mk (Kd.R_lower ho68 (below_size bs)); have n1_ := Aside0.mk (blk_below (g := gb227) (o := .cells #[.slice (some ad244) l0_0.length c0_0, .int .i64 a0_1, .int .i64 a0_2, .int .i64 a0_3, .int .i64 a0_4, .int .i64 a0_5, .int .i64 a0_6] 74 (0, 0)) kz hb); have n2_ := Aside0.mk (below_step bs hb); clear BK227; clear HB; have HO247 := n0_; have BK227 := n1_; have HB := n2_; clear n0_ n1_ n2_; clear hb ho68; obtain ⟨Ao69, co69, eo69⟩ := Kd.R_slice HO247.out; subst eo69) | (go_at_call 42; (with_reducible refine (spec_among.calls k4 ((rd_T64 l0_0 x3_4).f0) _ _ y245 false _ ?side1 ?side2 A60.out).mono ?_); (case side1 => repeat (first | exact (Kd.R_reads' HO247.out).2.2 | (with_reducible refine Kd.C_alloc ?_ _) | (with_reducible refine Kd.C_drewN ?_ _) | (with_reducible refine Kd.C_drew ?_))); (case side2 => exact (Kd.R_reads' HO247.out).2.1); rintro e w' ⟨rfl, ⟨nd, rfl⟩⟩))
                go_meet
                case rel => exact ⟨_, (x3_4), vz, H', ⟨by have := HJ1.out; have := HJ35.out; have := HJ49.out; have := HK4.out; first | omega | exact Nat.le_refl _⟩, ⟨kz⟩, ⟨bs⟩⟩
              ·rw [if_neg c59] at H
               exact absurd H (by simp)
             ·rw [if_neg c58] at H
              exact absurd H (by simp)
            ·rw [if_neg c57] at H
             have c57b0 : decide (0 ≤ x3_4) = false := decide_eq_false c57
             clear c57
             (first | rw [c57b0] | (simp only [i64_w]; rw [c57b0]) | skip)
             have H' := Aside0.mk H
             clear H
             go_wp2
             go_meet
             case rel => exact ⟨_, (x3_4), vz, H', ⟨by have := HJ1.out; have := HJ35.out; have := HJ49.out; have := HK4.out; first | omega | exact Nat.le_refl _⟩, ⟨kz⟩, ⟨bs⟩⟩
         case rest =>
          clear HC56
          obtain ⟨kq, x3_55, rfl, HA, HJ55, BK227, HB⟩ := hcut
          cases kq with
          | zero => exact absurd HA.out (by simp [spec_lbNumber.j4])
          | succ kj55 =>
           have H := HA.out
           clear HA
           simp only [spec_lbNumber.j4] at H
           have HC70 := Aside0.mk H
           clear H
           go_upto_region 11 with (fail)
           go_cut [68] (fun v68 wc => ∃ (kq : Nat) (x68_69 : Bool), v68 = .bool x68_69 ∧ Aside0 (spec_lbNumber.j5 kq t243 x68_69 l0_0 a0_1 a0_2 a0_3 a0_4 a0_5 a0_6 = some r) ∧ Aside0 (kq ≤ kj55) ∧ Aside0 (wc.heap[gb227]? = some (.cells #[(.slice A0_0 l0_0.length c0_0), .int .i64 a0_1, .int .i64 a0_2, .int .i64 a0_3, .int .i64 a0_4, .int .i64 a0_5, .int .i64 a0_6] 74 (0, 0))) ∧ Aside0 (Below w.heap.size w wc))
           case first =>
            have H := HC70.out
            clear HC70
            by_cases c71 : x3_55 < 0
            ·rw [if_pos c71] at H
             have c71b0 : decide (x3_55 < 0) = true := decide_eq_true c71
             clear c71
             (first | rw [c71b0] | (simp only [i64_w]; rw [c71b0]) | skip)
             have H' := Aside0.mk H
             clear H
             go_wp2
             go_meet
             case rel => exact ⟨_, (true), vz, H', ⟨by have := HJ1.out; have := HJ35.out; have := HJ49.out; have := HJ55.out; first | omega | exact Nat.le_refl _⟩, ⟨kz⟩, ⟨bs⟩⟩
            ·rw [if_neg c71] at H
             have c71b0 : decide (x3_55 < 0) = false := decide_eq_false c71
             clear c71
             (first | rw [c71b0] | (simp only [i64_w]; rw [c71b0]) | skip)
             by_cases c72 : 0 ≤ x3_55
             ·rw [if_pos c72] at H
              have c72b0 : decide (0 ≤ x3_55) = true := decide_eq_true c72
              clear c72
              by_cases c73 : x3_55 < (l0_0.length : Int)
              ·rw [if_pos c73] at H
               have c73b0 : decide (x3_55 < (l0_0.length : Int)) = true := decide_eq_true c73
               clear c73
               have H' := Aside0.mk H
               clear H
               have hcz74_0 : wc.cell? ⟨gb227, 0, none⟩ = some (.slice A0_0 l0_0.length c0_0) := (blk_cell BK227.out 0).trans rfl
               have hcz74_1 : wc.cell? ⟨gb227, 1, none⟩ = some (.int .i64 a0_1) := (blk_cell BK227.out 1).trans rfl
               have hcz74_2 : wc.cell? ⟨gb227, 2, none⟩ = some (.int .i64 a0_2) := (blk_cell BK227.out 2).trans rfl
               have hcz74_3 : wc.cell? ⟨gb227, 3, none⟩ = some (.int .i64 a0_3) := (blk_cell BK227.out 3).trans rfl
               have hcz74_4 : wc.cell? ⟨gb227, 4, none⟩ = some (.int .i64 a0_4) := (blk_cell BK227.out 4).trans rfl
               have hcz74_5 : wc.cell? ⟨gb227, 5, none⟩ = some (.int .i64 a0_5) := (blk_cell BK227.out 5).trans rfl
               have hcz74_6 : wc.cell? ⟨gb227, 6, none⟩ = some (.int .i64 a0_6) := (blk_cell BK227.out 6).trans rfl
               have hfz74_0 := blk_frozen BK227.out 0
               have hfz74_1 := blk_frozen BK227.out 1
               have hfz74_2 := blk_frozen BK227.out 2
               have hfz74_3 := blk_frozen BK227.out 3
               have hfz74_4 := blk_frozen BK227.out 4
               have hfz74_5 := blk_frozen BK227.out 5
               have hfz74_6 := blk_frozen BK227.out 6
               have p249 : 0 ≤ (x3_55 : Int) := of_decide_eq_true az
               have q249 : x3_55 < (l0_0.length : Int) := of_decide_eq_true az
               obtain ⟨ad249, e249, hx249_0, hx249_1, hx249_2, hx249_3⟩ := at_T64 HR0_0.out x3_55 p249 q249
               cases e249
               replace hx249_0 := (HB.out.cell (World.block_lt_of_cell? w _ hx249_0)).trans hx249_0
               replace hx249_1 := (HB.out.cell (World.block_lt_of_cell? w _ hx249_1)).trans hx249_1
               replace hx249_2 := (HB.out.cell (World.block_lt_of_cell? w _ hx249_2)).trans hx249_2
               replace hx249_3 := (HB.out.cell (World.block_lt_of_cell? w _ hx249_3)).trans hx249_3
               replace p249 := eq_true p249
               replace q249 := eq_true q249
               go_wp2
               go_meet
               case rel => exact ⟨_, ((((rd_T64 l0_0 x3_55).f0) != 34)), vz, H', ⟨by have := HJ1.out; have := HJ35.out; have := HJ49.out; have := HJ55.out; first | omega | exact Nat.le_refl _⟩, ⟨kz⟩, ⟨bs⟩⟩
              ·rw [if_neg c73] at H
               exact absurd H (by simp)
             ·rw [if_neg c72] at H
              exact absurd H (by simp)
           case rest =>
            clear HC70
            obtain ⟨kq, x68_69, rfl, HA, HJ69, BK227, HB⟩ := hcut
            cases kq with
            | zero => exact absurd HA.out (by simp [spec_lbNumber.j5])
            | succ kj69 =>
             have H := HA.out
             clear HA
             simp only [spec_lbNumber.j5] at H
             by_cases c75 : x68_69 = true
             ·subst c75
              rw [if_pos rfl] at H
              obtain rfl := Option.some.inj H
              go_wp2
              go_ret
              exact ⟨ez, bs⟩
             ·replace c75 := Bool.eq_false_iff.mpr c75
              subst c75
              rw [if_neg (show ¬ (false = true) by decide)] at H
              obtain ⟨y250, hy250⟩ : ∃ y_ : List Int, y_ = (([36, 37] : List Int)) := ⟨_, rfl⟩
              first | rw [← hy250] at H | simp only [← hy250] at H
              have Ny250 := Aside0.mk hy250
              clear hy250
              replace H := Option.bind_eq_some_iff.mp H
              obtain ⟨t253, A760, H⟩ := H
              try dsimp only at H
              have A76 := Aside0.mk A760
              clear A760
              by_cases c77 : t253 = true
              ·subst c77
               rw [if_pos rfl] at H
               obtain rfl := Option.some.inj H
               have hcz78_0 : wc.cell? ⟨gb227, 0, none⟩ = some (.slice A0_0 l0_0.length c0_0) := (blk_cell BK227.out 0).trans rfl
               have hcz78_1 : wc.cell? ⟨gb227, 1, none⟩ = some (.int .i64 a0_1) := (blk_cell BK227.out 1).trans rfl
               have hcz78_2 : wc.cell? ⟨gb227, 2, none⟩ = some (.int .i64 a0_2) := (blk_cell BK227.out 2).trans rfl
               have hcz78_3 : wc.cell? ⟨gb227, 3, none⟩ = some (.int .i64 a0_3) := (blk_cell BK227.out 3).trans rfl
               have hcz78_4 : wc.cell? ⟨gb227, 4, none⟩ = some (.int .i64 a0_4) := (blk_cell BK227.out 4).trans rfl
               have hcz78_5 : wc.cell? ⟨gb227, 5, none⟩ = some (.int .i64 a0_5) := (blk_cell BK227.out 5).trans rfl
               have hcz78_6 : wc.cell? ⟨gb227, 6, none⟩ = some (.int .i64 a0_6) := (blk_cell BK227.out 6).trans rfl
               have hfz78_0 := blk_frozen BK227.out 0
               have hfz78_1 := blk_frozen BK227.out 1
               have hfz78_2 := blk_frozen BK227.out 2
               have hfz78_3 := blk_frozen BK227.out 3
               have hfz78_4 := blk_frozen BK227.out 4
               have hfz78_5 := blk_frozen BK227.out 5
               have hfz78_6 := blk_frozen BK227.out 6
               go_wp2_with (first | ((with_reducible refine gate_dst (N := 71) rfl ?_); (try (refine gate_guard (by rfl) ?_; dsimp only)); refine Kd.R_lit (Kd.int .i64) _ 3 ?hg (N := 71) ?hd (xs := ([36, 37] : List Int)) (inner := [.int .i64 36, .int .i64 37]) (ok := fun _ => True) (okp := fun _ => True) ?hr ?hp (fun _ hk => hk) trivial (Below.refl _ _) (Nat.le_refl _) (by simp) ?_; (case hd => rfl); (case hg => rfl); (case hr => first | (go_simp; done) | (go_simp; rfl)); (case hp => exact (Reps.one (show Kd.M (Kd.int .i64) _ _ _ 36 [.int .i64 36] from rfl) (Reps.one (show Kd.M (Kd.int .i64) _ _ _ 37 [.int .i64 37] from rfl) (Reps.none _ _)))); intro v251 w79 ho80 hb hg_ hnew_; clear hg_ hnew_; (first | rw [← Ny250.out] at ho80 | (simp only [Int.reduceToNat] at ho80; rw [← Ny250.out] at ho80)); have n0_ := Aside0.mk (Kd.R_lower ho80 (below_size bs)); have n1_ := Aside0.mk (blk_below (g := gb227) (o := .cells #[.slice A0_0 l0_0.length c0_0, .int .i64 a0_1, .int .i64 a0_2, .int .i64 a0_3, .int .i64 a0_4, .int .i64 a0_5, .int .i64 a0_6] 74 (0, 0)) kz hb); have n2_ := Aside0.mk (below_step bs hb); clear BK227; clear HB; have HO252 := n0_; have BK227 := n1_; have HB := n2_; clear n0_ n1_ n2_; clear hb ho80; obtain ⟨Ao81, co81, eo81⟩ := Kd.R_slice HO252.out; subst eo81) | ((with_reducible refine gate_callee (f := 42) rfl ?_); refine goesL_ (some 72) rfl rfl Try.func42 (by kernel_rfl) rfl #[.int .i64 a0_4, .slice Ao81 y250.length co81] rfl mz ?_; (with_reducible refine (spec_among.calls kj69 a0_4 _ _ y250 true _ ?side1 ?side2 A76.out).mono ?_); (case side1 => repeat (first | exact (Kd.R_reads' HO252.out).2.2 | (with_reducible refine Kd.C_alloc ?_ _) | (with_reducible refine Kd.C_drewN ?_ _) | (with_reducible refine Kd.C_drew ?_))); (case side2 => exact (Kd.R_reads' HO252.out).2.1); rintro e w' ⟨rfl, ⟨nd, rfl⟩⟩; refine ⟨_, rfl, ?_⟩))
               go_ret
               exact ⟨ez, bs⟩
              ·replace c77 := Bool.eq_false_iff.mpr c77
               subst c77
               rw [if_neg (show ¬ (false = true) by decide)] at H
               by_cases c82 : t243 = true
               ·subst c82
                rw [if_pos rfl] at H
                obtain rfl := Option.some.inj H
                have hcz83_0 : wc.cell? ⟨gb227, 0, none⟩ = some (.slice A0_0 l0_0.length c0_0) := (blk_cell BK227.out 0).trans rfl
                have hcz83_1 : wc.cell? ⟨gb227, 1, none⟩ = some (.int .i64 a0_1) := (blk_cell BK227.out 1).trans rfl
                have hcz83_2 : wc.cell? ⟨gb227, 2, none⟩ = some (.int .i64 a0_2) := (blk_cell BK227.out 2).trans rfl
                have hcz83_3 : wc.cell? ⟨gb227, 3, none⟩ = some (.int .i64 a0_3) := (blk_cell BK227.out 3).trans rfl
                have hcz83_4 : wc.cell? ⟨gb227, 4, none⟩ = some (.int .i64 a0_4) := (blk_cell BK227.out 4).trans rfl
                have hcz83_5 : wc.cell? ⟨gb227, 5, none⟩ = some (.int .i64 a0_5) := (blk_cell BK227.out 5).trans rfl
                have hcz83_6 : wc.cell? ⟨gb227, 6, none⟩ = some (.int .i64 a0_6) := (blk_cell BK227.out 6).trans rfl
                have hfz83_0 := blk_frozen BK227.out 0
                have hfz83_1 := blk_frozen BK227.out 1
                have hfz83_2 := blk_frozen BK227.out 2
                have hfz83_3 := blk_frozen BK227.out 3
                have hfz83_4 := blk_frozen BK227.out 4
                have hfz83_5 := blk_frozen BK227.out 5
                have hfz83_6 := blk_frozen BK227.out 6
                go_wp2_with (first | ((with_reducible refine gate_dst (N := 71) rfl ?_); (try (refine gate_guard (by rfl) ?_; dsimp only)); refine Kd.R_lit (Kd.int .i64) _ 3 ?hg (N := 71) ?hd (xs := ([36, 37] : List Int)) (inner := [.int .i64 36, .int .i64 37]) (ok := fun _ => True) (okp := fun _ => True) ?hr ?hp (fun _ hk => hk) trivial (Below.refl _ _) (Nat.le_refl _) (by simp) ?_; (case hd => rfl); (case hg => rfl); (case hr => first | (go_simp; done) | (go_simp; rfl)); (case hp => exact (Reps.one (show Kd.M (Kd.int .i64) _ _ _ 36 [.int .i64 36] from rfl) (Reps.one (show Kd.M (Kd.int .i64) _ _ _ 37 [.int .i64 37] from rfl) (Reps.none _ _)))); intro v251 w84 ho85 hb hg_ hnew_; clear hg_ hnew_; (first | rw [← Ny250.out] at ho85 | (simp only [Int.reduceToNat] at ho85; rw [← Ny250.out] at ho85)); have n0_ := Aside0.mk (Kd.R_lower ho85 (below_size bs)); have n1_ := Aside0.mk (blk_below (g := gb227) (o := .cells #[.slice A0_0 l0_0.length c0_0, .int .i64 a0_1, .int .i64 a0_2, .int .i64 a0_3, .int .i64 a0_4, .int .i64 a0_5, .int .i64 a0_6] 74 (0, 0)) kz hb); have n2_ := Aside0.mk (below_step bs hb); clear BK227; clear HB; have HO252 := n0_; have BK227 := n1_; have HB := n2_; clear n0_ n1_ n2_; clear hb ho85; obtain ⟨Ao86, co86, eo86⟩ := Kd.R_slice HO252.out; subst eo86) | ((with_reducible refine gate_callee (f := 42) rfl ?_); refine goesL_ (some 72) rfl rfl Try.func42 (by kernel_rfl) rfl #[.int .i64 a0_4, .slice Ao86 y250.length co86] rfl mz ?_; (with_reducible refine (spec_among.calls kj69 a0_4 _ _ y250 false _ ?side1 ?side2 A76.out).mono ?_); (case side1 => repeat (first | exact (Kd.R_reads' HO252.out).2.2 | (with_reducible refine Kd.C_alloc ?_ _) | (with_reducible refine Kd.C_drewN ?_ _) | (with_reducible refine Kd.C_drew ?_))); (case side2 => exact (Kd.R_reads' HO252.out).2.1); rintro e w' ⟨rfl, ⟨nd, rfl⟩⟩; refine ⟨_, rfl, ?_⟩))
                go_ret
                exact ⟨ez, bs⟩
               ·replace c82 := Bool.eq_false_iff.mpr c82
                subst c82
                rw [if_neg (show ¬ (false = true) by decide)] at H
                obtain ⟨y254, hy254⟩ : ∃ y_ : List Int, y_ = (([34, 42, 29, 18, 19] : List Int)) := ⟨_, rfl⟩
                first | rw [← hy254] at H | simp only [← hy254] at H
                have Ny254 := Aside0.mk hy254
                clear hy254
                replace H := Option.bind_eq_some_iff.mp H
                obtain ⟨t257, A870, H⟩ := H
                try dsimp only at H
                have A87 := Aside0.mk A870
                clear A870
                obtain rfl := Option.some.inj H
                have hcz88_0 : wc.cell? ⟨gb227, 0, none⟩ = some (.slice A0_0 l0_0.length c0_0) := (blk_cell BK227.out 0).trans rfl
                have hcz88_1 : wc.cell? ⟨gb227, 1, none⟩ = some (.int .i64 a0_1) := (blk_cell BK227.out 1).trans rfl
                have hcz88_2 : wc.cell? ⟨gb227, 2, none⟩ = some (.int .i64 a0_2) := (blk_cell BK227.out 2).trans rfl
                have hcz88_3 : wc.cell? ⟨gb227, 3, none⟩ = some (.int .i64 a0_3) := (blk_cell BK227.out 3).trans rfl
                have hcz88_4 : wc.cell? ⟨gb227, 4, none⟩ = some (.int .i64 a0_4) := (blk_cell BK227.out 4).trans rfl
                have hcz88_5 : wc.cell? ⟨gb227, 5, none⟩ = some (.int .i64 a0_5) := (blk_cell BK227.out 5).trans rfl
                have hcz88_6 : wc.cell? ⟨gb227, 6, none⟩ = some (.int .i64 a0_6) := (blk_cell BK227.out 6).trans rfl
                have hfz88_0 := blk_frozen BK227.out 0
                have hfz88_1 := blk_frozen BK227.out 1
                have hfz88_2 := blk_frozen BK227.out 2
                have hfz88_3 := blk_frozen BK227.out 3
                have hfz88_4 := blk_frozen BK227.out 4
                have hfz88_5 := blk_frozen BK227.out 5
                have hfz88_6 := blk_frozen BK227.out 6
                go_wp2_with (first | ((with_reducible refine gate_dst (N := 71) rfl ?_); (try (refine gate_guard (by rfl) ?_; dsimp only)); refine Kd.R_lit (Kd.int .i64) _ 3 ?hg (N := 71) ?hd (xs := ([36, 37] : List Int)) (inner := [.int .i64 36, .int .i64 37]) (ok := fun _ => True) (okp := fun _ => True) ?hr ?hp (fun _ hk => hk) trivial (Below.refl _ _) (Nat.le_refl _) (by simp) ?_; (case hd => rfl); (case hg => rfl); (case hr => first | (go_simp; done) | (go_simp; rfl)); (case hp => exact (Reps.one (show Kd.M (Kd.int .i64) _ _ _ 36 [.int .i64 36] from rfl) (Reps.one (show Kd.M (Kd.int .i64) _ _ _ 37 [.int .i64 37] from rfl) (Reps.none _ _)))); intro v251 w89 ho90 hb hg_ hnew_; clear hg_ hnew_; (first | rw [← Ny250.out] at ho90 | (simp only [Int.reduceToNat] at ho90; rw [← Ny250.out] at ho90)); have n0_ := Aside0.mk (Kd.R_lower ho90 (below_size bs)); have n1_ := Aside0.mk (blk_below (g := gb227) (o := .cells #[.slice A0_0 l0_0.length c0_0, .int .i64 a0_1, .int .i64 a0_2, .int .i64 a0_3, .int .i64 a0_4, .int .i64 a0_5, .int .i64 a0_6] 74 (0, 0)) kz hb); have n2_ := Aside0.mk (below_step bs hb); clear BK227; clear HB; have HO252 := n0_; have BK227 := n1_; have HB := n2_; clear n0_ n1_ n2_; clear hb ho90; obtain ⟨Ao91, co91, eo91⟩ := Kd.R_slice HO252.out; subst eo91) | ((with_reducible refine gate_callee (f := 42) rfl ?_); refine goesL_ (some 72) rfl rfl Try.func42 (by kernel_rfl) rfl #[.int .i64 a0_4, .slice Ao91 y250.length co91] rfl mz ?_; (with_reducible refine (spec_among.calls kj69 a0_4 _ _ y250 false _ ?side1 ?side2 A76.out).mono ?_); (case side1 => repeat (first | exact (Kd.R_reads' HO252.out).2.2 | (with_reducible refine Kd.C_alloc ?_ _) | (with_reducible refine Kd.C_drewN ?_ _) | (with_reducible refine Kd.C_drew ?_))); (case side2 => exact (Kd.R_reads' HO252.out).2.1); rintro e w' ⟨rfl, ⟨nd, rfl⟩⟩; refine ⟨_, rfl, ?_⟩; have hcz92_0 : w89.cell? ⟨gb227, 0, none⟩ = some (.slice A0_0 l0_0.length c0_0) := (blk_cell BK227.out 0).trans rfl; have hcz92_1 : w89.cell? ⟨gb227, 1, none⟩ = some (.int .i64 a0_1) := (blk_cell BK227.out 1).trans rfl; have hcz92_2 : w89.cell? ⟨gb227, 2, none⟩ = some (.int .i64 a0_2) := (blk_cell BK227.out 2).trans rfl; have hcz92_3 : w89.cell? ⟨gb227, 3, none⟩ = some (.int .i64 a0_3) := (blk_cell BK227.out 3).trans rfl; have hcz92_4 : w89.cell? ⟨gb227, 4, none⟩ = some (.int .i64 a0_4) := (blk_cell BK227.out 4).trans rfl; have hcz92_5 : w89.cell? ⟨gb227, 5, none⟩ = some (.int .i64 a0_5) := (blk_cell BK227.out 5).trans rfl; have hcz92_6 : w89.cell? ⟨gb227, 6, none⟩ = some (.int .i64 a0_6) := (blk_cell BK227.out 6).trans rfl; have hfz92_0 := blk_frozen BK227.out 0; have hfz92_1 := blk_frozen BK227.out 1; have hfz92_2 := blk_frozen BK227.out 2; have hfz92_3 := blk_frozen BK227.out 3; have hfz92_4 := blk_frozen BK227.out 4; have hfz92_5 := blk_frozen BK227.out 5; have hfz92_6 := blk_frozen BK227.out 6) | ((with_reducible refine gate_dst (N := 78) rfl ?_); (try (refine gate_guard (by rfl) ?_; dsimp only)); refine Kd.R_lit (Kd.int .i64) _ 3 ?hg (N := 78) ?hd (xs := ([34, 42, 29, 18, 19] : List Int)) (inner := [.int .i64 34, .int .i64 42, .int .i64 29, .int .i64 18, .int .i64 19]) (ok := fun _ => True) (okp := fun _ => True) ?hr ?hp (fun _ hk => hk) trivial (Below.refl _ _) (Nat.le_refl _) (by simp) ?_; (case hd => rfl); (case hg => rfl); (case hr => first | (go_simp; done) | (go_simp; rfl)); (case hp => exact (Reps.one (show Kd.M (Kd.int .i64) _ _ _ 34 [.int .i64 34] from rfl) (Reps.one (show Kd.M (Kd.int .i64) _ _ _ 42 [.int .i64 42] from rfl) (Reps.one (show Kd.M (Kd.int .i64) _ _ _ 29 [.int .i64 29] from rfl) (Reps.one (show Kd.M (Kd.int .i64) _ _ _ 18 [.int .i64 18] from rfl) (Reps.one (show Kd.M (Kd.int .i64) _ _ _ 19 [.int .i64 19] from rfl) (Reps.none _ _))))))); intro v255 w93 ho94 hb hg_ hnew_; clear hg_ hnew_; (first | rw [← Ny254.out] at ho94 | (simp only [Int.reduceToNat] at ho94; rw [← Ny254.out] at ho94)); have n0_ := Aside0.mk (Kd.R_elder' (by (with_reducible repeat (first | apply Kd.R_alloc | apply Kd.R_drewN | apply Kd.R_drew)); exact HO252.out) (Kd.R_base ho94) hb); have n1_ := Aside0.mk (Kd.R_lower (Kd.R_new' ho94 (Kd.R_lt (by (with_reducible repeat (first | apply Kd.R_alloc | apply Kd.R_drewN | apply Kd.R_drew)); exact HO252.out))) (below_size bs)); have n2_ := Aside0.mk (blk_below (g := gb227) (o := .cells #[.slice A0_0 l0_0.length c0_0, .int .i64 a0_1, .int .i64 a0_2, .int .i64 a0_3, .int .i64 a0_4, .int .i64 a0_5, .int .i64 a0_6] 74 (0, 0)) kz hb); have n3_ := Aside0.mk (below_step bs hb); clear HO252; clear BK227; clear HB; have HO252 := n0_; have HO256 := n1_; have BK227 := n2_; have HB := n3_; clear n0_ n1_ n2_ n3_; clear hb ho94; obtain ⟨Ao95, co95, eo95⟩ := Kd.R_slice HO256.out; subst eo95) | (go_at_call 42; (with_reducible refine (spec_among.calls kj69 a0_4 _ _ y254 t257 _ ?side1 ?side2 A87.out).mono ?_); (case side1 => repeat (first | exact (Kd.R_reads' HO256.out).2.2 | (with_reducible refine Kd.C_alloc ?_ _) | (with_reducible refine Kd.C_drewN ?_ _) | (with_reducible refine Kd.C_drew ?_))); (case side2 => exact (Kd.R_reads' HO256.out).2.1); rintro e w' ⟨rfl, ⟨nd, rfl⟩⟩))
                go_ret
                exact ⟨ez, bs⟩

end Go.Proofs.Ytnanfoahimccpaa.Ln
