/- Functions of the translation as Lean functions, and their walks: lines written by a program, a turned copy of the kit's print. -/
import Derived.Test.YtnanfoahimccpaaLnx0
import Derived.Test.YtnanfoahimccpaaLnx1
namespace Go.Proofs.Ytnanfoahimccpaa.Ln
open Go.RowKit Go.Proofs.YtnanfoahimccpaaW.PrintWords Go.Proofs.YtnanfoahimccpaaW.PrintLast Go.Proofs.YtnanfoahimccpaaW.PrintMore
attribute [local go_sem] max2_int max_two
set_option linter.unusedVariables false
set_option linter.unusedSimpArgs false

mutual
def spec_lbGlue.j0 : Nat → Bool → List (S64) → Int → Int → Int → Int → Int → Int → Option (Bool)
 | 0, _, _, _, _, _, _, _, _ => none
 | k + 1, x3, x198000, x198001, x198002, x198003, x198004, x198005, x198006 => if x3 = true then (some true) else (if x198004 = 4 then ((spec_among.f k x198003 (([7, 14, 26] : List Int))).bind fun t201 => (spec_lbGlue.j1 k (!t201) x198000 x198001 x198002 x198003 x198004 x198005 x198006)) else (spec_lbGlue.j1 k false x198000 x198001 x198002 x198003 x198004 x198005 x198006))
def spec_lbGlue.j1 : Nat → Bool → List (S64) → Int → Int → Int → Int → Int → Int → Option (Bool)
 | 0, _, _, _, _, _, _, _, _ => none
 | k + 1, x13, x198000, x198001, x198002, x198003, x198004, x198005, x198006 => if x13 = true then (some true) else ((spec_among.f k x198004 (([18, 19, 22, 29, 42] : List Int))).bind fun t205 => (if t205 = true then (some true) else (if x198006 = 35 then (some true) else (if x198006 = 38 then (spec_lbGlue.j2 k (x198004 == 35) x198000 x198001 x198002 x198003 x198004 x198005 x198006) else (spec_lbGlue.j2 k false x198000 x198001 x198002 x198003 x198004 x198005 x198006)))))
def spec_lbGlue.j2 : Nat → Bool → List (S64) → Int → Int → Int → Int → Int → Int → Option (Bool)
 | 0, _, _, _, _, _, _, _, _ => none
 | k + 1, x33, x198000, x198001, x198002, x198003, x198004, x198005, x198006 => if x33 = true then (some true) else ((spec_among.f k x198006 (([18, 19] : List Int))).bind fun t209 => (if t209 = true then (if x198004 = 33 then (some true) else (if x198006 = 13 then (some (x198004 == 13)) else (some false))) else (if x198006 = 13 then (some (x198004 == 13)) else (some false))))
end
def spec_lbGlue.f (k : Nat) (l0_0 : List (S64)) (a0_1 : Int) (a0_2 : Int) (a0_3 : Int) (a0_4 : Int) (a0_5 : Int) (a0_6 : Int) : Option (Bool) := if a0_3 = 8 then (spec_lbGlue.j0 k (a0_3 == 8) l0_0 a0_1 a0_2 a0_3 a0_4 a0_5 a0_6) else (if a0_4 = 8 then (spec_lbGlue.j0 k (a0_4 == 8) l0_0 a0_1 a0_2 a0_3 a0_4 a0_5 a0_6) else (spec_lbGlue.j0 k (a0_3 == 4) l0_0 a0_1 a0_2 a0_3 a0_4 a0_5 a0_6))
set_option maxHeartbeats 8000000 in
set_option maxRecDepth 100000 in
theorem spec_lbGlue.calls (k : Nat) (A0_0 : Option Addr) (c0_0 : Nat) (l0_0 : List (S64)) (a0_1 : Int) (a0_2 : Int) (a0_3 : Int) (a0_4 : Int) (a0_5 : Int) (a0_6 : Int) (r : Bool) (w : World) (hr0_0 : Kd.C k64 w A0_0 l0_0.length l0_0) (hc0_0 : l0_0.length ≤ c0_0) (h : spec_lbGlue.f k l0_0 a0_1 a0_2 a0_3 a0_4 a0_5 a0_6 = some r) :
  Calls Try.prog 64 #[.agg #[.slice A0_0 l0_0.length c0_0, .int .i64 a0_1, .int .i64 a0_2, .int .i64 a0_3, .int .i64 a0_4, .int .i64 a0_5, .int .i64 a0_6]] w fun e w' => e = .returned (.bool r) ∧ Below w.heap.size w w' := by
 have hu74 := Try.underlying74
 have HR0_0 := Aside0.mk hr0_0
 have HC0_0 := Aside0.mk hc0_0
 clear hr0_0 hc0_0
 have HB := Aside0.mk (Below.refl w.heap.size w)
 have H : (if a0_3 = 8 then (spec_lbGlue.j0 k (a0_3 == 8) l0_0 a0_1 a0_2 a0_3 a0_4 a0_5 a0_6) else (if a0_4 = 8 then (spec_lbGlue.j0 k (a0_4 == 8) l0_0 a0_1 a0_2 a0_3 a0_4 a0_5 a0_6) else (spec_lbGlue.j0 k (a0_3 == 4) l0_0 a0_1 a0_2 a0_3 a0_4 a0_5 a0_6))) = some r := h
 clear h
 have HC2 := Aside0.mk H
 clear H
 go_enter Try.func64, Try.ntmps64
 go_upto_if 3 with (first | ((with_reducible refine gate_dst (N := 1) rfl ?_); (try (refine gate_guard (by rfl) ?_; dsimp only)); refine box_event ?hg (N := 1) ?hd (cs := #[.slice A0_0 l0_0.length c0_0, .int .i64 a0_1, .int .i64 a0_2, .int .i64 a0_3, .int .i64 a0_4, .int .i64 a0_5, .int .i64 a0_6]) (t := 74) ?hr ?_; (case hd => rfl); (case hg => rfl); (case hr => first | (go_simp; done) | (go_simp; rfl)); intro gb197 hg w3 hbox hb; have n0_ := Aside0.mk (below_step bz hb); have n1_ := Aside0.mk (hbox); have n2_ := Aside0.mk ((by rw [hg]; exact (below_size bz) : w.heap.size ≤ gb197)); have n3_ := Aside0.mk ((by rw [hg]; exact (below_size bz) : w.heap.size ≤ gb197)); clear HB; have HB := n0_; have BK197 := n1_; have GW197 := n2_; have GE197 := n3_; clear n0_ n1_ n2_ n3_; clear hb hbox hg; have hcz4_0 : w3.cell? ⟨gb197, 0, none⟩ = some (.slice A0_0 l0_0.length c0_0) := (blk_cell BK197.out 0).trans rfl; have hcz4_1 : w3.cell? ⟨gb197, 1, none⟩ = some (.int .i64 a0_1) := (blk_cell BK197.out 1).trans rfl; have hcz4_2 : w3.cell? ⟨gb197, 2, none⟩ = some (.int .i64 a0_2) := (blk_cell BK197.out 2).trans rfl; have hcz4_3 : w3.cell? ⟨gb197, 3, none⟩ = some (.int .i64 a0_3) := (blk_cell BK197.out 3).trans rfl; have hcz4_4 : w3.cell? ⟨gb197, 4, none⟩ = some (.int .i64 a0_4) := (blk_cell BK197.out 4).trans rfl; have hcz4_5 : w3.cell? ⟨gb197, 5, none⟩ = some (.int .i64 a0_5) := (blk_cell BK197.out 5).trans rfl; have hcz4_6 : w3.cell? ⟨gb197, 6, none⟩ = some (.int .i64 a0_6) := (blk_cell BK197.out 6).trans rfl; have hfz4_0 := blk_frozen BK197.out 0; have hfz4_1 := blk_frozen BK197.out 1; have hfz4_2 := blk_frozen BK197.out 2; have hfz4_3 := blk_frozen BK197.out 3; have hfz4_4 := blk_frozen BK197.out 4; have hfz4_5 := blk_frozen BK197.out 5; have hfz4_6 := blk_frozen BK197.out 6))
 (try simp only [Act.put, List.setIfInBounds_toArray, List.set_cons_zero, List.set_cons_succ])
 go_cut [3] (fun v3 wc => ∃ (kq : Nat) (x3_1 : Bool), v3 = .bool x3_1 ∧ Aside0 (spec_lbGlue.j0 kq x3_1 l0_0 a0_1 a0_2 a0_3 a0_4 a0_5 a0_6 = some r) ∧ Aside0 (kq ≤ k) ∧ Aside0 (wc.heap[gb197]? = some (.cells #[(.slice A0_0 l0_0.length c0_0), .int .i64 a0_1, .int .i64 a0_2, .int .i64 a0_3, .int .i64 a0_4, .int .i64 a0_5, .int .i64 a0_6] 74 (0, 0))) ∧ Aside0 (Below w.heap.size w wc))
 case first =>
  have H := HC2.out
  clear HC2
  by_cases c5 : a0_3 = 8
  ·rw [if_pos c5] at H
   have c5b0 : (a0_3 == 8) = true := beq_iff_eq.mpr c5
   have c5b1 : (a0_3 != 8) = false := bne_eq_false_iff_eq.mpr c5
   clear c5
   (first | rw [c5b0] | (simp only [i64_w]; rw [c5b0]) | skip)
   have H' := Aside0.mk H
   clear H
   go_wp2
   go_meet
   case rel => exact ⟨_, ((a0_3 == 8)), vz, H', ⟨by first | omega | exact Nat.le_refl _⟩, ⟨kz⟩, ⟨bs⟩⟩
  ·rw [if_neg c5] at H
   have c5b0 : (a0_3 == 8) = false := beq_eq_false_iff_ne.mpr c5
   have c5b1 : (a0_3 != 8) = true := bne_iff_ne.mpr c5
   (first | rw [c5b0] | (simp only [i64_w]; rw [c5b0]) | skip)
   by_cases c6 : a0_4 = 8
   ·rw [if_pos c6] at H
    have c6b0 : (a0_4 == 8) = true := beq_iff_eq.mpr c6
    have c6b1 : (a0_4 != 8) = false := bne_eq_false_iff_eq.mpr c6
    clear c6
    have H' := Aside0.mk H
    clear H
    have hcz7_0 : w3.cell? ⟨gb197, 0, none⟩ = some (.slice A0_0 l0_0.length c0_0) := (blk_cell BK197.out 0).trans rfl
    have hcz7_1 : w3.cell? ⟨gb197, 1, none⟩ = some (.int .i64 a0_1) := (blk_cell BK197.out 1).trans rfl
    have hcz7_2 : w3.cell? ⟨gb197, 2, none⟩ = some (.int .i64 a0_2) := (blk_cell BK197.out 2).trans rfl
    have hcz7_3 : w3.cell? ⟨gb197, 3, none⟩ = some (.int .i64 a0_3) := (blk_cell BK197.out 3).trans rfl
    have hcz7_4 : w3.cell? ⟨gb197, 4, none⟩ = some (.int .i64 a0_4) := (blk_cell BK197.out 4).trans rfl
    have hcz7_5 : w3.cell? ⟨gb197, 5, none⟩ = some (.int .i64 a0_5) := (blk_cell BK197.out 5).trans rfl
    have hcz7_6 : w3.cell? ⟨gb197, 6, none⟩ = some (.int .i64 a0_6) := (blk_cell BK197.out 6).trans rfl
    have hfz7_0 := blk_frozen BK197.out 0
    have hfz7_1 := blk_frozen BK197.out 1
    have hfz7_2 := blk_frozen BK197.out 2
    have hfz7_3 := blk_frozen BK197.out 3
    have hfz7_4 := blk_frozen BK197.out 4
    have hfz7_5 := blk_frozen BK197.out 5
    have hfz7_6 := blk_frozen BK197.out 6
    go_wp2
    go_meet
    case rel => exact ⟨_, ((a0_4 == 8)), vz, H', ⟨by first | omega | exact Nat.le_refl _⟩, ⟨kz⟩, ⟨bs⟩⟩
   ·rw [if_neg c6] at H
    have c6b0 : (a0_4 == 8) = false := beq_eq_false_iff_ne.mpr c6
    have c6b1 : (a0_4 != 8) = true := bne_iff_ne.mpr c6
    have H' := Aside0.mk H
    clear H
    have hcz8_0 : w3.cell? ⟨gb197, 0, none⟩ = some (.slice A0_0 l0_0.length c0_0) := (blk_cell BK197.out 0).trans rfl
    have hcz8_1 : w3.cell? ⟨gb197, 1, none⟩ = some (.int .i64 a0_1) := (blk_cell BK197.out 1).trans rfl
    have hcz8_2 : w3.cell? ⟨gb197, 2, none⟩ = some (.int .i64 a0_2) := (blk_cell BK197.out 2).trans rfl
    have hcz8_3 : w3.cell? ⟨gb197, 3, none⟩ = some (.int .i64 a0_3) := (blk_cell BK197.out 3).trans rfl
    have hcz8_4 : w3.cell? ⟨gb197, 4, none⟩ = some (.int .i64 a0_4) := (blk_cell BK197.out 4).trans rfl
    have hcz8_5 : w3.cell? ⟨gb197, 5, none⟩ = some (.int .i64 a0_5) := (blk_cell BK197.out 5).trans rfl
    have hcz8_6 : w3.cell? ⟨gb197, 6, none⟩ = some (.int .i64 a0_6) := (blk_cell BK197.out 6).trans rfl
    have hfz8_0 := blk_frozen BK197.out 0
    have hfz8_1 := blk_frozen BK197.out 1
    have hfz8_2 := blk_frozen BK197.out 2
    have hfz8_3 := blk_frozen BK197.out 3
    have hfz8_4 := blk_frozen BK197.out 4
    have hfz8_5 := blk_frozen BK197.out 5
    have hfz8_6 := blk_frozen BK197.out 6
    go_wp2
    go_meet
    case rel => exact ⟨_, ((a0_3 == 4)), vz, H', ⟨by first | omega | exact Nat.le_refl _⟩, ⟨kz⟩, ⟨bs⟩⟩
 case rest =>
  clear HC2
  obtain ⟨kq, x3_1, rfl, HA, HJ1, BK197, HB⟩ := hcut
  cases kq with
  | zero => exact absurd HA.out (by simp [spec_lbGlue.j0])
  | succ kj1 =>
   have H := HA.out
   clear HA
   simp only [spec_lbGlue.j0] at H
   by_cases c9 : x3_1 = true
   ·subst c9
    rw [if_pos rfl] at H
    obtain rfl := Option.some.inj H
    go_wp2
    go_ret
    exact ⟨ez, bs⟩
   ·replace c9 := Bool.eq_false_iff.mpr c9
    subst c9
    rw [if_neg (show ¬ (false = true) by decide)] at H
    have HC10 := Aside0.mk H
    clear H
    go_upto_region 5 with (fail)
    go_cut [13] (fun v13 wc => ∃ (kq : Nat) (x13_9 : Bool), v13 = .bool x13_9 ∧ Aside0 (spec_lbGlue.j1 kq x13_9 l0_0 a0_1 a0_2 a0_3 a0_4 a0_5 a0_6 = some r) ∧ Aside0 (kq ≤ kj1) ∧ Aside0 (wc.heap[gb197]? = some (.cells #[(.slice A0_0 l0_0.length c0_0), .int .i64 a0_1, .int .i64 a0_2, .int .i64 a0_3, .int .i64 a0_4, .int .i64 a0_5, .int .i64 a0_6] 74 (0, 0))) ∧ Aside0 (Below w.heap.size w wc))
    case first =>
     have H := HC10.out
     clear HC10
     by_cases c11 : a0_4 = 4
     ·rw [if_pos c11] at H
      have c11b0 : (a0_4 == 4) = true := beq_iff_eq.mpr c11
      have c11b1 : (a0_4 != 4) = false := bne_eq_false_iff_eq.mpr c11
      clear c11
      (first | rw [c11b0] | (simp only [i64_w]; rw [c11b0]) | skip)
      obtain ⟨y198, hy198⟩ : ∃ y_ : List Int, y_ = (([7, 14, 26] : List Int)) := ⟨_, rfl⟩
      first | rw [← hy198] at H | simp only [← hy198] at H
      have Ny198 := Aside0.mk hy198
      clear hy198
      replace H := Option.bind_eq_some_iff.mp H
      obtain ⟨t201, A120, H⟩ := H
      try dsimp only at H
      have A12 := Aside0.mk A120
      clear A120
      have H' := Aside0.mk H
      clear H
      have hcz13_0 : wc.cell? ⟨gb197, 0, none⟩ = some (.slice A0_0 l0_0.length c0_0) := (blk_cell BK197.out 0).trans rfl
      have hcz13_1 : wc.cell? ⟨gb197, 1, none⟩ = some (.int .i64 a0_1) := (blk_cell BK197.out 1).trans rfl
      have hcz13_2 : wc.cell? ⟨gb197, 2, none⟩ = some (.int .i64 a0_2) := (blk_cell BK197.out 2).trans rfl
      have hcz13_3 : wc.cell? ⟨gb197, 3, none⟩ = some (.int .i64 a0_3) := (blk_cell BK197.out 3).trans rfl
      have hcz13_4 : wc.cell? ⟨gb197, 4, none⟩ = some (.int .i64 a0_4) := (blk_cell BK197.out 4).trans rfl
      have hcz13_5 : wc.cell? ⟨gb197, 5, none⟩ = some (.int .i64 a0_5) := (blk_cell BK197.out 5).trans rfl
      have hcz13_6 : wc.cell? ⟨gb197, 6, none⟩ = some (.int .i64 a0_6) := (blk_cell BK197.out 6).trans rfl
      have hfz13_0 := blk_frozen BK197.out 0
      have hfz13_1 := blk_frozen BK197.out 1
      have hfz13_2 := blk_frozen BK197.out 2
      have hfz13_3 := blk_frozen BK197.out 3
      have hfz13_4 := blk_frozen BK197.out 4
      have hfz13_5 := blk_frozen BK197.out 5
      have hfz13_6 := blk_frozen BK197.out 6
      go_wp2_with (first | ((with_reducible refine gate_dst (N := 20) rfl ?_); (try (refine gate_guard (by rfl) ?_; dsimp only)); refine Kd.R_lit (Kd.int .i64) _ 3 ?hg (N := 20) ?hd (xs := ([7, 14, 26] : List Int)) (inner := [.int .i64 7, .int .i64 14, .int .i64 26]) (ok := fun _ => True) (okp := fun _ => True) ?hr ?hp (fun _ hk => hk) trivial (Below.refl _ _) (Nat.le_refl _) (by simp) ?_; (case hd => rfl); (case hg => rfl); (case hr => first | (go_simp; done) | (go_simp; rfl)); (case hp => exact (Reps.one (show Kd.M (Kd.int .i64) _ _ _ 7 [.int .i64 7] from rfl) (Reps.one (show Kd.M (Kd.int .i64) _ _ _ 14 [.int .i64 14] from rfl) (Reps.one (show Kd.M (Kd.int .i64) _ _ _ 26 [.int .i64 26] from rfl) (Reps.none _ _))))); intro v199 w14 ho15 hb hg_ hnew_; clear hg_ hnew_; (first | rw [← Ny198.out] at ho15 | (simp only [Int.reduceToNat] at ho15; rw [← Ny198.out] at ho15)); have n0_ := Aside0.mk (Kd.R_lower ho15 (below_size bs)); have n1_ := Aside0.mk (blk_below (g := gb197) (o := .cells #[.slice A0_0 l0_0.length c0_0, .int .i64 a0_1, .int .i64 a0_2, .int .i64 a0_3, .int .i64 a0_4, .int .i64 a0_5, .int .i64 a0_6] 74 (0, 0)) kz hb); have n2_ := Aside0.mk (below_step bs hb); clear BK197; clear HB; have HO200 := n0_; have BK197 := n1_; have HB := n2_; clear n0_ n1_ n2_; clear hb ho15; obtain ⟨Ao16, co16, eo16⟩ := Kd.R_slice HO200.out; subst eo16) | (go_at_call 42; (with_reducible refine (spec_among.calls kj1 a0_3 _ _ y198 t201 _ ?side1 ?side2 A12.out).mono ?_); (case side1 => repeat (first | exact (Kd.R_reads' HO200.out).2.2 | (with_reducible refine Kd.C_alloc ?_ _) | (with_reducible refine Kd.C_drewN ?_ _) | (with_reducible refine Kd.C_drew ?_))); (case side2 => exact (Kd.R_reads' HO200.out).2.1); rintro e w' ⟨rfl, ⟨nd, rfl⟩⟩))
      go_meet
      case rel => exact ⟨_, (!t201), vz, H', ⟨by have := HJ1.out; first | omega | exact Nat.le_refl _⟩, ⟨kz⟩, ⟨bs⟩⟩
     ·rw [if_neg c11] at H
      have c11b0 : (a0_4 == 4) = false := beq_eq_false_iff_ne.mpr c11
      have c11b1 : (a0_4 != 4) = true := bne_iff_ne.mpr c11
      (first | rw [c11b0] | (simp only [i64_w]; rw [c11b0]) | skip)
      have H' := Aside0.mk H
      clear H
      have hcz17_0 : wc.cell? ⟨gb197, 0, none⟩ = some (.slice A0_0 l0_0.length c0_0) := (blk_cell BK197.out 0).trans rfl
      have hcz17_1 : wc.cell? ⟨gb197, 1, none⟩ = some (.int .i64 a0_1) := (blk_cell BK197.out 1).trans rfl
      have hcz17_2 : wc.cell? ⟨gb197, 2, none⟩ = some (.int .i64 a0_2) := (blk_cell BK197.out 2).trans rfl
      have hcz17_3 : wc.cell? ⟨gb197, 3, none⟩ = some (.int .i64 a0_3) := (blk_cell BK197.out 3).trans rfl
      have hcz17_4 : wc.cell? ⟨gb197, 4, none⟩ = some (.int .i64 a0_4) := (blk_cell BK197.out 4).trans rfl
      have hcz17_5 : wc.cell? ⟨gb197, 5, none⟩ = some (.int .i64 a0_5) := (blk_cell BK197.out 5).trans rfl
      have hcz17_6 : wc.cell? ⟨gb197, 6, none⟩ = some (.int .i64 a0_6) := (blk_cell BK197.out 6).trans rfl
      have hfz17_0 := blk_frozen BK197.out 0
      have hfz17_1 := blk_frozen BK197.out 1
      have hfz17_2 := blk_frozen BK197.out 2
      have hfz17_3 := blk_frozen BK197.out 3
      have hfz17_4 := blk_frozen BK197.out 4
      have hfz17_5 := blk_frozen BK197.out 5
      have hfz17_6 := blk_frozen BK197.out 6
      go_wp2
      go_meet
      case rel => exact ⟨_, (false), vz, H', ⟨by have := HJ1.out; first | omega | exact Nat.le_refl _⟩, ⟨kz⟩, ⟨bs⟩⟩
    case rest =>
     clear HC10
     obtain ⟨kq, x13_9, rfl, HA, HJ9, BK197, HB⟩ := hcut
     cases kq with
     | zero => exact absurd HA.out (by simp [spec_lbGlue.j1])
     | succ kj9 =>
      have H := HA.out
      clear HA
      simp only [spec_lbGlue.j1] at H
      by_cases c18 : x13_9 = true
      ·subst c18
       rw [if_pos rfl] at H
       obtain rfl := Option.some.inj H
       go_wp2
       go_ret
       exact ⟨ez, bs⟩
      ·replace c18 := Bool.eq_false_iff.mpr c18
       subst c18
       rw [if_neg (show ¬ (false = true) by decide)] at H
       obtain ⟨y202, hy202⟩ : ∃ y_ : List Int, y_ = (([18, 19, 22, 29, 42] : List Int)) := ⟨_, rfl⟩
       first | rw [← hy202] at H | simp only [← hy202] at H
       have Ny202 := Aside0.mk hy202
       clear hy202
       replace H := Option.bind_eq_some_iff.mp H
       obtain ⟨t205, A190, H⟩ := H
       try dsimp only at H
       have A19 := Aside0.mk A190
       clear A190
       by_cases c20 : t205 = true
       ·subst c20
        rw [if_pos rfl] at H
        obtain rfl := Option.some.inj H
        have hcz21_0 : wc.cell? ⟨gb197, 0, none⟩ = some (.slice A0_0 l0_0.length c0_0) := (blk_cell BK197.out 0).trans rfl
        have hcz21_1 : wc.cell? ⟨gb197, 1, none⟩ = some (.int .i64 a0_1) := (blk_cell BK197.out 1).trans rfl
        have hcz21_2 : wc.cell? ⟨gb197, 2, none⟩ = some (.int .i64 a0_2) := (blk_cell BK197.out 2).trans rfl
        have hcz21_3 : wc.cell? ⟨gb197, 3, none⟩ = some (.int .i64 a0_3) := (blk_cell BK197.out 3).trans rfl
        have hcz21_4 : wc.cell? ⟨gb197, 4, none⟩ = some (.int .i64 a0_4) := (blk_cell BK197.out 4).trans rfl
        have hcz21_5 : wc.cell? ⟨gb197, 5, none⟩ = some (.int .i64 a0_5) := (blk_cell BK197.out 5).trans rfl
        have hcz21_6 : wc.cell? ⟨gb197, 6, none⟩ = some (.int .i64 a0_6) := (blk_cell BK197.out 6).trans rfl
        have hfz21_0 := blk_frozen BK197.out 0
        have hfz21_1 := blk_frozen BK197.out 1
        have hfz21_2 := blk_frozen BK197.out 2
        have hfz21_3 := blk_frozen BK197.out 3
        have hfz21_4 := blk_frozen BK197.out 4
        have hfz21_5 := blk_frozen BK197.out 5
        have hfz21_6 := blk_frozen BK197.out 6
        go_wp2_with (first | ((with_reducible refine gate_dst (N := 27) rfl ?_); (try (refine gate_guard (by rfl) ?_; dsimp only)); refine Kd.R_lit (Kd.int .i64) _ 3 ?hg (N := 27) ?hd (xs := ([18, 19, 22, 29, 42] : List Int)) (inner := [.int .i64 18, .int .i64 19, .int .i64 22, .int .i64 29, .int .i64 42]) (ok := fun _ => True) (okp := fun _ => True) ?hr ?hp (fun _ hk => hk) trivial (Below.refl _ _) (Nat.le_refl _) (by simp) ?_; (case hd => rfl); (case hg => rfl); (case hr => first | (go_simp; done) | (go_simp; rfl)); (case hp => exact (Reps.one (show Kd.M (Kd.int .i64) _ _ _ 18 [.int .i64 18] from rfl) (Reps.one (show Kd.M (Kd.int .i64) _ _ _ 19 [.int .i64 19] from rfl) (Reps.one (show Kd.M (Kd.int .i64) _ _ _ 22 [.int .i64 22] from rfl) (Reps.one (show Kd.M (Kd.int .i64) _ _ _ 29 [.int .i64 29] from rfl) (Reps.one (show Kd.M (Kd.int .i64) _ _ _ 42 [.int .i64 42] from rfl) (Reps.none _ _))))))); intro v203 w22 ho23 hb hg_ hnew_; clear hg_ hnew_; (first | rw [← Ny202.out] at ho23 | (simp only [Int.reduceToNat] at ho23; rw [← Ny202.out] at ho23)); have n0_ := Aside0.mk (Kd.R_lower ho23 (below_size bs)); have n1_ := Aside0.mk (blk_below (g := gb197) (o := .cells #[.slice A0_0 l0_0.length c0_0, .int .i64 a0_1, .int .i64 a0_2, .int .i64 a0_3, .int .i64 a0_4, .int .i64 a0_5, .int .i64 a0_6] 74 (0, 0)) kz hb); have n2_ := Aside0.mk (below_step bs hb); clear BK197; clear HB; have HO204 := n0_; have BK197 := n1_; have HB := n2_; clear n0_ n1_ n2_; clear hb ho23; obtain ⟨Ao24, co24, eo24⟩ := Kd.R_slice HO204.out; subst eo24) | ((with_reducible refine gate_callee (f := 42) rfl ?_); refine goesL_ (some 28) rfl rfl Try.func42 (by kernel_rfl) rfl #[.int .i64 a0_4, .slice Ao24 y202.length co24] rfl mz ?_; (with_reducible refine (spec_among.calls kj9 a0_4 _ _ y202 true _ ?side1 ?side2 A19.out).mono ?_); (case side1 => repeat (first | exact (Kd.R_reads' HO204.out).2.2 | (with_reducible refine Kd.C_alloc ?_ _) | (with_reducible refine Kd.C_drewN ?_ _) | (with_reducible refine Kd.C_drew ?_))); (case side2 => exact (Kd.R_reads' HO204.out).2.1); rintro e w' ⟨rfl, ⟨nd, rfl⟩⟩; refine ⟨_, rfl, ?_⟩))
        go_ret
        exact ⟨ez, bs⟩
       ·replace c20 := Bool.eq_false_iff.mpr c20
        subst c20
        rw [if_neg (show ¬ (false = true) by decide)] at H
        by_cases c25 : a0_6 = 35
        ·rw [if_pos c25] at H
         have c25b0 : (a0_6 == 35) = true := beq_iff_eq.mpr c25
         have c25b1 : (a0_6 != 35) = false := bne_eq_false_iff_eq.mpr c25
         clear c25
         obtain rfl := Option.some.inj H
         have hcz26_0 : wc.cell? ⟨gb197, 0, none⟩ = some (.slice A0_0 l0_0.length c0_0) := (blk_cell BK197.out 0).trans rfl
         have hcz26_1 : wc.cell? ⟨gb197, 1, none⟩ = some (.int .i64 a0_1) := (blk_cell BK197.out 1).trans rfl
         have hcz26_2 : wc.cell? ⟨gb197, 2, none⟩ = some (.int .i64 a0_2) := (blk_cell BK197.out 2).trans rfl
         have hcz26_3 : wc.cell? ⟨gb197, 3, none⟩ = some (.int .i64 a0_3) := (blk_cell BK197.out 3).trans rfl
         have hcz26_4 : wc.cell? ⟨gb197, 4, none⟩ = some (.int .i64 a0_4) := (blk_cell BK197.out 4).trans rfl
         have hcz26_5 : wc.cell? ⟨gb197, 5, none⟩ = some (.int .i64 a0_5) := (blk_cell BK197.out 5).trans rfl
         have hcz26_6 : wc.cell? ⟨gb197, 6, none⟩ = some (.int .i64 a0_6) := (blk_cell BK197.out 6).trans rfl
         have hfz26_0 := blk_frozen BK197.out 0
         have hfz26_1 := blk_frozen BK197.out 1
         have hfz26_2 := blk_frozen BK197.out 2
         have hfz26_3 := blk_frozen BK197.out 3
         have hfz26_4 := blk_frozen BK197.out 4
         have hfz26_5 := blk_frozen BK197.out 5
         have hfz26_6 := blk_frozen BK197.out 6
         go_wp2_with (first | ((with_reducible refine gate_dst (N := 27) rfl ?_); (try (refine gate_guard (by rfl) ?_; dsimp only)); refine Kd.R_lit (Kd.int .i64) _ 3 ?hg (N := 27) ?hd (xs := ([18, 19, 22, 29, 42] : List Int)) (inner := [.int .i64 18, .int .i64 19, .int .i64 22, .int .i64 29, .int .i64 42]) (ok := fun _ => True) (okp := fun _ => True) ?hr ?hp (fun _ hk => hk) trivial (Below.refl _ _) (Nat.le_refl _) (by simp) ?_; (case hd => rfl); (case hg => rfl); (case hr => first | (go_simp; done) | (go_simp; rfl)); (case hp => exact (Reps.one (show Kd.M (Kd.int .i64) _ _ _ 18 [.int .i64 18] from rfl) (Reps.one (show Kd.M (Kd.int .i64) _ _ _ 19 [.int .i64 19] from rfl) (Reps.one (show Kd.M (Kd.int .i64) _ _ _ 22 [.int .i64 22] from rfl) (Reps.one (show Kd.M (Kd.int .i64) _ _ _ 29 [.int .i64 29] from rfl) (Reps.one (show Kd.M (Kd.int .i64) _ _ _ 42 [.int .i64 42] from rfl) (Reps.none _ _))))))); intro v203 w27 ho28 hb hg_ hnew_; clear hg_ hnew_; (first | rw [← Ny202.out] at ho28 | (simp only [Int.reduceToNat] at ho28; rw [← Ny202.out] at ho28)); have n0_ := Aside0.mk (Kd.R_lower ho28 (below_size bs)); have n1_ := Aside0.mk (blk_below (g := gb197) (o := .cells #[.slice A0_0 l0_0.length c0_0, .int .i64 a0_1, .int .i64 a0_2, .int .i64 a0_3, .int .i64 a0_4, .int .i64 a0_5, .int .i64 a0_6] 74 (0, 0)) kz hb); have n2_ := Aside0.mk (below_step bs hb); clear BK197; clear HB; have HO204 := n0_; have BK197 := n1_; have HB := n2_; clear n0_ n1_ n2_; clear hb ho28; obtain ⟨Ao29, co29, eo29⟩ := Kd.R_slice HO204.out; subst eo29) | ((with_reducible refine gate_callee (f := 42) rfl ?_); refine goesL_ (some 28) rfl rfl Try.func42 (by kernel_rfl) rfl #[.int .i64 a0_4, .slice Ao29 y202.length co29] rfl mz ?_; (with_reducible refine (spec_among.calls kj9 a0_4 _ _ y202 false _ ?side1 ?side2 A19.out).mono ?_); (case side1 => repeat (first | exact (Kd.R_reads' HO204.out).2.2 | (with_reducible refine Kd.C_alloc ?_ _) | (with_reducible refine Kd.C_drewN ?_ _) | (with_reducible refine Kd.C_drew ?_))); (case side2 => exact (Kd.R_reads' HO204.out).2.1); rintro e w' ⟨rfl, ⟨nd, rfl⟩⟩; refine ⟨_, rfl, ?_⟩; have hcz30_0 : w27.cell? ⟨gb197, 0, none⟩ = some (.slice A0_0 l0_0.length c0_0) := (blk_cell BK197.out 0).trans rfl; have hcz30_1 : w27.cell? ⟨gb197, 1, none⟩ = some (.int .i64 a0_1) := (blk_cell BK197.out 1).trans rfl; have hcz30_2 : w27.cell? ⟨gb197, 2, none⟩ = some (.int .i64 a0_2) := (blk_cell BK197.out 2).trans rfl; have hcz30_3 : w27.cell? ⟨gb197, 3, none⟩ = some (.int .i64 a0_3) := (blk_cell BK197.out 3).trans rfl; have hcz30_4 : w27.cell? ⟨gb197, 4, none⟩ = some (.int .i64 a0_4) := (blk_cell BK197.out 4).trans rfl; have hcz30_5 : w27.cell? ⟨gb197, 5, none⟩ = some (.int .i64 a0_5) := (blk_cell BK197.out 5).trans rfl; have hcz30_6 : w27.cell? ⟨gb197, 6, none⟩ = some (.int .i64 a0_6) := (blk_cell BK197.out 6).trans rfl; have hfz30_0 := blk_frozen BK197.out 0; have hfz30_1 := blk_frozen BK197.out 1; have hfz30_2 := blk_frozen BK197.out 2; have hfz30_3 := blk_frozen BK197.out 3; have hfz30_4 := blk_frozen BK197.out 4; have hfz30_5 := blk_frozen BK197.out 5; have hfz30_6 := blk_frozen BK197.out 6))
         go_ret
         exact ⟨ez, bs⟩
        ·rw [if_neg c25] at H
         have c25b0 : (a0_6 == 35) = false := beq_eq_false_iff_ne.mpr c25
         have c25b1 : (a0_6 != 35) = true := bne_iff_ne.mpr c25
         have HC31 := Aside0.mk H
         clear H
         have hcz32_0 : wc.cell? ⟨gb197, 0, none⟩ = some (.slice A0_0 l0_0.length c0_0) := (blk_cell BK197.out 0).trans rfl
         have hcz32_1 : wc.cell? ⟨gb197, 1, none⟩ = some (.int .i64 a0_1) := (blk_cell BK197.out 1).trans rfl
         have hcz32_2 : wc.cell? ⟨gb197, 2, none⟩ = some (.int .i64 a0_2) := (blk_cell BK197.out 2).trans rfl
         have hcz32_3 : wc.cell? ⟨gb197, 3, none⟩ = some (.int .i64 a0_3) := (blk_cell BK197.out 3).trans rfl
         have hcz32_4 : wc.cell? ⟨gb197, 4, none⟩ = some (.int .i64 a0_4) := (blk_cell BK197.out 4).trans rfl
         have hcz32_5 : wc.cell? ⟨gb197, 5, none⟩ = some (.int .i64 a0_5) := (blk_cell BK197.out 5).trans rfl
         have hcz32_6 : wc.cell? ⟨gb197, 6, none⟩ = some (.int .i64 a0_6) := (blk_cell BK197.out 6).trans rfl
         have hfz32_0 := blk_frozen BK197.out 0
         have hfz32_1 := blk_frozen BK197.out 1
         have hfz32_2 := blk_frozen BK197.out 2
         have hfz32_3 := blk_frozen BK197.out 3
         have hfz32_4 := blk_frozen BK197.out 4
         have hfz32_5 := blk_frozen BK197.out 5
         have hfz32_6 := blk_frozen BK197.out 6
         go_upto_region 11 with (first | ((with_reducible refine gate_dst (N := 27) rfl ?_); (try (refine gate_guard (by rfl) ?_; dsimp only)); refine Kd.R_lit (Kd.int .i64) _ 3 ?hg (N := 27) ?hd (xs := ([18, 19, 22, 29, 42] : List Int)) (inner := [.int .i64 18, .int .i64 19, .int .i64 22, .int .i64 29, .int .i64 42]) (ok := fun _ => True) (okp := fun _ => True) ?hr ?hp (fun _ hk => hk) trivial (Below.refl _ _) (Nat.le_refl _) (by simp) ?_; (case hd => rfl); (case hg => rfl); (case hr => first | (go_simp; done) | (go_simp; rfl)); (case hp => exact (Reps.one (show Kd.M (Kd.int .i64) _ _ _ 18 [.int .i64 18] from rfl) (Reps.one (show Kd.M (Kd.int .i64) _ _ _ 19 [.int .i64 19] from rfl) (Reps.one (show Kd.M (Kd.int .i64) _ _ _ 22 [.int .i64 22] from rfl) (Reps.one (show Kd.M (Kd.int .i64) _ _ _ 29 [.int .i64 29] from rfl) (Reps.one (show Kd.M (Kd.int .i64) _ _ _ 42 [.int .i64 42] from rfl) (Reps.none _ _))))))); intro v203 w33 ho34 hb hg_ hnew_; clear hg_ hnew_; (first | rw [← Ny202.out] at ho34 | (simp only [Int.reduceToNat] at ho34; rw [← Ny202.out] at ho34)); have n0_ := Aside0.mk (Kd.R_lower ho34 (below_size bs)); have n1_ := Aside0.mk (blk_below (g := gb197) (o := .cells #[.slice A0_0 l0_0.length c0_0, .int .i64 a0_1, .int .i64 a0_2, .int .i64 a0_3, .int .i64 a0_4, .int .i64 a0_5, .int .i64 a0_6] 74 (0, 0)) kz hb); have n2_ := Aside0.mk (below_step bs hb); clear BK197; clear HB; have HO204 := n0_; have BK197 := n1_; have HB := n2_; clear n0_ n1_ n2_; clear hb ho34; obtain ⟨Ao35, co35, eo35⟩ := Kd.R_slice HO204.out; subst eo35) | ((with_reducible refine gate_callee (f := 42) rfl ?_); refine goesL_ (some 28) rfl rfl Try.func42 (by kernel_rfl) rfl #[.int .i64 a0_4, .slice Ao35 y202.length co35] rfl mz ?_; (with_reducible refine (spec_among.calls kj9 a0_4 _ _ y202 false _ ?side1 ?side2 A19.out).mono ?_); (case side1 => repeat (first | exact (Kd.R_reads' HO204.out).2.2 | (with_reducible refine Kd.C_alloc ?_ _) | (with_reducible refine Kd.C_drewN ?_ _) | (with_reducible refine Kd.C_drew ?_))); (case side2 => exact (Kd.R_reads' HO204.out).2.1); rintro e w' ⟨rfl, ⟨nd, rfl⟩⟩; refine ⟨_, rfl, ?_⟩; have hcz36_0 : w33.cell? ⟨gb197, 0, none⟩ = some (.slice A0_0 l0_0.length c0_0) := (blk_cell BK197.out 0).trans rfl; have hcz36_1 : w33.cell? ⟨gb197, 1, none⟩ = some (.int .i64 a0_1) := (blk_cell BK197.out 1).trans rfl; have hcz36_2 : w33.cell? ⟨gb197, 2, none⟩ = some (.int .i64 a0_2) := (blk_cell BK197.out 2).trans rfl; have hcz36_3 : w33.cell? ⟨gb197, 3, none⟩ = some (.int .i64 a0_3) := (blk_cell BK197.out 3).trans rfl; have hcz36_4 : w33.cell? ⟨gb197, 4, none⟩ = some (.int .i64 a0_4) := (blk_cell BK197.out 4).trans rfl; have hcz36_5 : w33.cell? ⟨gb197, 5, none⟩ = some (.int .i64 a0_5) := (blk_cell BK197.out 5).trans rfl; have hcz36_6 : w33.cell? ⟨gb197, 6, none⟩ = some (.int .i64 a0_6) := (blk_cell BK197.out 6).trans rfl; have hfz36_0 := blk_frozen BK197.out 0; have hfz36_1 := blk_frozen BK197.out 1; have hfz36_2 := blk_frozen BK197.out 2; have hfz36_3 := blk_frozen BK197.out 3; have hfz36_4 := blk_frozen BK197.out 4; have hfz36_5 := blk_frozen BK197.out 5; have hfz36_6 := blk_frozen BK197.out 6))
         (try simp only [Act.put, List.setIfInBounds_toArray, List.set_cons_zero, List.set_cons_succ])
         go_cut [33] (fun v33 wc => ∃ (kq : Nat) (x33_30 : Bool), v33 = .bool x33_30 ∧ Aside0 (spec_lbGlue.j2 kq x33_30 l0_0 a0_1 a0_2 a0_3 a0_4 a0_5 a0_6 = some r) ∧ Aside0 (kq ≤ kj9) ∧ Aside0 (wc.heap[gb197]? = some (.cells #[(.slice A0_0 l0_0.length c0_0), .int .i64 a0_1, .int .i64 a0_2, .int .i64 a0_3, .int .i64 a0_4, .int .i64 a0_5, .int .i64 a0_6] 74 (0, 0))) ∧ Aside0 (Below w.heap.size w wc))
         case first =>
          have H := HC31.out
          clear HC31
          by_cases c37 : a0_6 = 38
          ·rw [if_pos c37] at H
           have c37b0 : (a0_6 == 38) = true := beq_iff_eq.mpr c37
           have c37b1 : (a0_6 != 38) = false := bne_eq_false_iff_eq.mpr c37
           clear c37
           (first | rw [c37b0] | (simp only [i64_w]; rw [c37b0]) | skip)
           have H' := Aside0.mk H
           clear H
           have hcz38_0 : w33.cell? ⟨gb197, 0, none⟩ = some (.slice A0_0 l0_0.length c0_0) := (blk_cell BK197.out 0).trans rfl
           have hcz38_1 : w33.cell? ⟨gb197, 1, none⟩ = some (.int .i64 a0_1) := (blk_cell BK197.out 1).trans rfl
           have hcz38_2 : w33.cell? ⟨gb197, 2, none⟩ = some (.int .i64 a0_2) := (blk_cell BK197.out 2).trans rfl
           have hcz38_3 : w33.cell? ⟨gb197, 3, none⟩ = some (.int .i64 a0_3) := (blk_cell BK197.out 3).trans rfl
           have hcz38_4 : w33.cell? ⟨gb197, 4, none⟩ = some (.int .i64 a0_4) := (blk_cell BK197.out 4).trans rfl
           have hcz38_5 : w33.cell? ⟨gb197, 5, none⟩ = some (.int .i64 a0_5) := (blk_cell BK197.out 5).trans rfl
           have hcz38_6 : w33.cell? ⟨gb197, 6, none⟩ = some (.int .i64 a0_6) := (blk_cell BK197.out 6).trans rfl
           have hfz38_0 := blk_frozen BK197.out 0
           have hfz38_1 := blk_frozen BK197.out 1
           have hfz38_2 := blk_frozen BK197.out 2
           have hfz38_3 := blk_frozen BK197.out 3
           have hfz38_4 := blk_frozen BK197.out 4
           have hfz38_5 := blk_frozen BK197.out 5
           have hfz38_6 := blk_frozen BK197.out 6
           go_wp2
           go_meet
           case rel => exact ⟨_, ((a0_4 == 35)), vz, H', ⟨by have := HJ1.out; have := HJ9.out; first | omega | exact Nat.le_refl _⟩, ⟨kz⟩, ⟨bs⟩⟩
          ·rw [if_neg c37] at H
           have c37b0 : (a0_6 == 38) = false := beq_eq_false_iff_ne.mpr c37
           have c37b1 : (a0_6 != 38) = true := bne_iff_ne.mpr c37
           (first | rw [c37b0] | (simp only [i64_w]; rw [c37b0]) | skip)
           have H' := Aside0.mk H
           clear H
           have hcz39_0 : w33.cell? ⟨gb197, 0, none⟩ = some (.slice A0_0 l0_0.length c0_0) := (blk_cell BK197.out 0).trans rfl
           have hcz39_1 : w33.cell? ⟨gb197, 1, none⟩ = some (.int .i64 a0_1) := (blk_cell BK197.out 1).trans rfl
           have hcz39_2 : w33.cell? ⟨gb197, 2, none⟩ = some (.int .i64 a0_2) := (blk_cell BK197.out 2).trans rfl
           have hcz39_3 : w33.cell? ⟨gb197, 3, none⟩ = some (.int .i64 a0_3) := (blk_cell BK197.out 3).trans rfl
           have hcz39_4 : w33.cell? ⟨gb197, 4, none⟩ = some (.int .i64 a0_4) := (blk_cell BK197.out 4).trans rfl
           have hcz39_5 : w33.cell? ⟨gb197, 5, none⟩ = some (.int .i64 a0_5) := (blk_cell BK197.out 5).trans rfl
           have hcz39_6 : w33.cell? ⟨gb197, 6, none⟩ = some (.int .i64 a0_6) := (blk_cell BK197.out 6).trans rfl
           have hfz39_0 := blk_frozen BK197.out 0
           have hfz39_1 := blk_frozen BK197.out 1
           have hfz39_2 := blk_frozen BK197.out 2
           have hfz39_3 := blk_frozen BK197.out 3
           have hfz39_4 := blk_frozen BK197.out 4
           have hfz39_5 := blk_frozen BK197.out 5
           have hfz39_6 := blk_frozen BK197.out 6
           go_wp2
           go_meet
           case rel => exact ⟨_, (false), vz, H', ⟨by have := HJ1.out; have := HJ9.out; first | omega | exact Nat.le_refl _⟩, ⟨kz⟩, ⟨bs⟩⟩
         case rest =>
          clear HC31
          obtain ⟨kq, x33_30, rfl, HA, HJ30, BK197, HB⟩ := hcut
          cases kq with
          | zero => exact absurd HA.out (by simp [spec_lbGlue.j2])
          | succ kj30 =>
           have H := HA.out
           clear HA
           simp only [spec_lbGlue.j2] at H
           by_cases c40 : x33_30 = true
           ·subst c40
            rw [if_pos rfl] at H
            obtain rfl := Option.some.inj H
            go_wp2
            go_ret
            exact ⟨ez, bs⟩
           ·replace c40 := Bool.eq_false_iff.mpr c40
            subst c40
            rw [if_neg (show ¬ (false = true) by decide)] at H
            obtain ⟨y206, hy206⟩ : ∃ y_ : List Int, y_ = (([18, 19] : List Int)) := ⟨_, rfl⟩
            first | rw [← hy206] at H | simp only [← hy206] at H
            have Ny206 := Aside0.mk hy206
            clear hy206
            replace H := Option.bind_eq_some_iff.mp H
            obtain ⟨t209, A410, H⟩ := H
            try dsimp only at H
            have A41 := Aside0.mk A410
            clear A410
            by_cases c42 : t209 = true
            ·subst c42
             rw [if_pos rfl] at H
             by_cases c43 : a0_4 = 33
             ·rw [if_pos c43] at H
              have c43b0 : (a0_4 == 33) = true := beq_iff_eq.mpr c43
              have c43b1 : (a0_4 != 33) = false := bne_eq_false_iff_eq.mpr c43
              clear c43
              obtain rfl := Option.some.inj H
              have hcz44_0 : wc.cell? ⟨gb197, 0, none⟩ = some (.slice A0_0 l0_0.length c0_0) := (blk_cell BK197.out 0).trans rfl
              have hcz44_1 : wc.cell? ⟨gb197, 1, none⟩ = some (.int .i64 a0_1) := (blk_cell BK197.out 1).trans rfl
              have hcz44_2 : wc.cell? ⟨gb197, 2, none⟩ = some (.int .i64 a0_2) := (blk_cell BK197.out 2).trans rfl
              have hcz44_3 : wc.cell? ⟨gb197, 3, none⟩ = some (.int .i64 a0_3) := (blk_cell BK197.out 3).trans rfl
              have hcz44_4 : wc.cell? ⟨gb197, 4, none⟩ = some (.int .i64 a0_4) := (blk_cell BK197.out 4).trans rfl
              have hcz44_5 : wc.cell? ⟨gb197, 5, none⟩ = some (.int .i64 a0_5) := (blk_cell BK197.out 5).trans rfl
              have hcz44_6 : wc.cell? ⟨gb197, 6, none⟩ = some (.int .i64 a0_6) := (blk_cell BK197.out 6).trans rfl
              have hfz44_0 := blk_frozen BK197.out 0
              have hfz44_1 := blk_frozen BK197.out 1
              have hfz44_2 := blk_frozen BK197.out 2
              have hfz44_3 := blk_frozen BK197.out 3
              have hfz44_4 := blk_frozen BK197.out 4
              have hfz44_5 := blk_frozen BK197.out 5
              have hfz44_6 := blk_frozen BK197.out 6
              go_wp2_with (first | ((with_reducible refine gate_dst (N := 45) rfl ?_); (try (refine gate_guard (by rfl) ?_; dsimp only)); refine Kd.R_lit (Kd.int .i64) _ 3 ?hg (N := 45) ?hd (xs := ([18, 19] : List Int)) (inner := [.int .i64 18, .int .i64 19]) (ok := fun _ => True) (okp := fun _ => True) ?hr ?hp (fun _ hk => hk) trivial (Below.refl _ _) (Nat.le_refl _) (by simp) ?_; (case hd => rfl); (case hg => rfl); (case hr => first | (go_simp; done) | (go_simp; rfl)); (case hp => exact (Reps.one (show Kd.M (Kd.int .i64) _ _ _ 18 [.int .i64 18] from rfl) (Reps.one (show Kd.M (Kd.int .i64) _ _ _ 19 [.int .i64 19] from rfl) (Reps.none _ _)))); intro v207 w45 ho46 hb hg_ hnew_; clear hg_ hnew_; (first | rw [← Ny206.out] at ho46 | (simp only [Int.reduceToNat] at ho46; rw [← Ny206.out] at ho46)); have n0_ := Aside0.mk (Kd.R_lower ho46 (below_size bs)); have n1_ := Aside0.mk (blk_below (g := gb197) (o := .cells #[.slice A0_0 l0_0.length c0_0, .int .i64 a0_1, .int .i64 a0_2, .int .i64 a0_3, .int .i64 a0_4, .int .i64 a0_5, .int .i64 a0_6] 74 (0, 0)) kz hb); have n2_ := Aside0.mk (below_step bs hb); clear BK197; clear HB; have HO208 := n0_; have BK197 := n1_; have HB := n2_; clear n0_ n1_ n2_; clear hb ho46; obtain ⟨Ao47, co47, eo47⟩ := Kd.R_slice HO208.out; subst eo47) | ((with_reducible refine gate_callee (f := 42) rfl ?_); refine goesL_ (some 46) rfl rfl Try.func42 (by kernel_rfl) rfl #[.int .i64 a0_6, .slice Ao47 y206.length co47] rfl mz ?_; (with_reducible refine (spec_among.calls kj30 a0_6 _ _ y206 true _ ?side1 ?side2 A41.out).mono ?_); (case side1 => repeat (first | exact (Kd.R_reads' HO208.out).2.2 | (with_reducible refine Kd.C_alloc ?_ _) | (with_reducible refine Kd.C_drewN ?_ _) | (with_reducible refine Kd.C_drew ?_))); (case side2 => exact (Kd.R_reads' HO208.out).2.1); rintro e w' ⟨rfl, ⟨nd, rfl⟩⟩; refine ⟨_, rfl, ?_⟩; have hcz48_0 : w45.cell? ⟨gb197, 0, none⟩ = some (.slice A0_0 l0_0.length c0_0) := (blk_cell BK197.out 0).trans rfl; have hcz48_1 : w45.cell? ⟨gb197, 1, none⟩ = some (.int .i64 a0_1) := (blk_cell BK197.out 1).trans rfl; have hcz48_2 : w45.cell? ⟨gb197, 2, none⟩ = some (.int .i64 a0_2) := (blk_cell BK197.out 2).trans rfl; have hcz48_3 : w45.cell? ⟨gb197, 3, none⟩ = some (.int .i64 a0_3) := (blk_cell BK197.out 3).trans rfl; have hcz48_4 : w45.cell? ⟨gb197, 4, none⟩ = some (.int .i64 a0_4) := (blk_cell BK197.out 4).trans rfl; have hcz48_5 : w45.cell? ⟨gb197, 5, none⟩ = some (.int .i64 a0_5) := (blk_cell BK197.out 5).trans rfl; have hcz48_6 : w45.cell? ⟨gb197, 6, none⟩ = some (.int .i64 a0_6) := (blk_cell BK197.out 6).trans rfl; have hfz48_0 := blk_frozen BK197.out 0; have hfz48_1 := blk_frozen BK197.out 1; have hfz48_2 := blk_frozen BK197.out 2; have hfz48_3 := blk_frozen BK197.out 3; have hfz48_4 := blk_frozen BK197.out 4; have hfz48_5 := blk_frozen BK197.out 5; have hfz48_6 := blk_frozen BK197.out 6))
              go_ret
              exact ⟨ez, bs⟩
             ·rw [if_neg c43] at H
              have c43b0 : (a0_4 == 33) = false := beq_eq_false_iff_ne.mpr c43
              have c43b1 : (a0_4 != 33) = true := bne_iff_ne.mpr c43
              by_cases c49 : a0_6 = 13
              ·rw [if_pos c49] at H
               have c49b0 : (a0_6 == 13) = true := beq_iff_eq.mpr c49
               have c49b1 : (a0_6 != 13) = false := bne_eq_false_iff_eq.mpr c49
               clear c49
               obtain rfl := Option.some.inj H
               have hcz50_0 : wc.cell? ⟨gb197, 0, none⟩ = some (.slice A0_0 l0_0.length c0_0) := (blk_cell BK197.out 0).trans rfl
               have hcz50_1 : wc.cell? ⟨gb197, 1, none⟩ = some (.int .i64 a0_1) := (blk_cell BK197.out 1).trans rfl
               have hcz50_2 : wc.cell? ⟨gb197, 2, none⟩ = some (.int .i64 a0_2) := (blk_cell BK197.out 2).trans rfl
               have hcz50_3 : wc.cell? ⟨gb197, 3, none⟩ = some (.int .i64 a0_3) := (blk_cell BK197.out 3).trans rfl
               have hcz50_4 : wc.cell? ⟨gb197, 4, none⟩ = some (.int .i64 a0_4) := (blk_cell BK197.out 4).trans rfl
               have hcz50_5 : wc.cell? ⟨gb197, 5, none⟩ = some (.int .i64 a0_5) := (blk_cell BK197.out 5).trans rfl
               have hcz50_6 : wc.cell? ⟨gb197, 6, none⟩ = some (.int .i64 a0_6) := (blk_cell BK197.out 6).trans rfl
               have hfz50_0 := blk_frozen BK197.out 0
               have hfz50_1 := blk_frozen BK197.out 1
               have hfz50_2 := blk_frozen BK197.out 2
               have hfz50_3 := blk_frozen BK197.out 3
               have hfz50_4 := blk_frozen BK197.out 4
               have hfz50_5 := blk_frozen BK197.out 5
               have hfz50_6 := blk_frozen BK197.out 6
               go_wp2_with (first | ((with_reducible refine gate_dst (N := 45) rfl ?_); (try (refine gate_guard (by rfl) ?_; dsimp only)); refine Kd.R_lit (Kd.int .i64) _ 3 ?hg (N := 45) ?hd (xs := ([18, 19] : List Int)) (inner := [.int .i64 18, .int .i64 19]) (ok := fun _ => True) (okp := fun _ => True) ?hr ?hp (fun _ hk => hk) trivial (Below.refl _ _) (Nat.le_refl _) (by simp) ?_; (case hd => rfl); (case hg => rfl); (case hr => first | (go_simp; done) | (go_simp; rfl)); (case hp => exact (Reps.one (show Kd.M (Kd.int .i64) _ _ _ 18 [.int .i64 18] from rfl) (Reps.one (show Kd.M (Kd.int .i64) _ _ _ 19 [.int .i64 19] from rfl) (Reps.none _ _)))); intro v207 w51 ho52 hb hg_ hnew_; clear hg_ hnew_; (first | rw [← Ny206.out] at ho52 | (simp only [Int.reduceToNat] at ho52; rw [← Ny206.out] at ho52)); have n0_ := Aside0.mk (Kd.R_lower ho52 (below_size bs)); have n1_ := Aside0.mk (blk_below (g := gb197) (o := .cells #[.slice A0_0 l0_0.length c0_0, .int .i64 a0_1, .int .i64 a0_2, .int .i64 a0_3, .int .i64 a0_4, .int .i64 a0_5, .int .i64 a0_6] 74 (0, 0)) kz hb); have n2_ := Aside0.mk (below_step bs hb); clear BK197; clear HB; have HO208 := n0_; have BK197 := n1_; have HB := n2_; clear n0_ n1_ n2_; clear hb ho52; obtain ⟨Ao53, co53, eo53⟩ := Kd.R_slice HO208.out; subst eo53) | ((with_reducible refine gate_callee (f := 42) rfl ?_); refine goesL_ (some 46) rfl rfl Try.func42 (by kernel_rfl) rfl #[.int .i64 a0_6, .slice Ao53 y206.length co53] rfl mz ?_; (with_reducible refine (spec_among.calls kj30 a0_6 _ _ y206 true _ ?side1 ?side2 A41.out).mono ?_); (case side1 => repeat (first | exact (Kd.R_reads' HO208.out).2.2 | (with_reducible refine Kd.C_alloc ?_ _) | (with_reducible refine Kd.C_drewN ?_ _) | (with_reducible refine Kd.C_drew ?_))); (case side2 => exact (Kd.R_reads' HO208.out).2.1); rintro e w' ⟨rfl, ⟨nd, rfl⟩⟩; refine ⟨_, rfl, ?_⟩; have hcz54_0 : w51.cell? ⟨gb197, 0, none⟩ = some (.slice A0_0 l0_0.length c0_0) := (blk_cell BK197.out 0).trans rfl; have hcz54_1 : w51.cell? ⟨gb197, 1, none⟩ = some (.int .i64 a0_1) := (blk_cell BK197.out 1).trans rfl; have hcz54_2 : w51.cell? ⟨gb197, 2, none⟩ = some (.int .i64 a0_2) := (blk_cell BK197.out 2).trans rfl; have hcz54_3 : w51.cell? ⟨gb197, 3, none⟩ = some (.int .i64 a0_3) := (blk_cell BK197.out 3).trans rfl; have hcz54_4 : w51.cell? ⟨gb197, 4, none⟩ = some (.int .i64 a0_4) := (blk_cell BK197.out 4).trans rfl; have hcz54_5 : w51.cell? ⟨gb197, 5, none⟩ = some (.int .i64 a0_5) := (blk_cell BK197.out 5).trans rfl; have hcz54_6 : w51.cell? ⟨gb197, 6, none⟩ = some (.int .i64 a0_6) := (blk_cell BK197.out 6).trans rfl; have hfz54_0 := blk_frozen BK197.out 0; have hfz54_1 := blk_frozen BK197.out 1; have hfz54_2 := blk_frozen BK197.out 2; have hfz54_3 := blk_frozen BK197.out 3; have hfz54_4 := blk_frozen BK197.out 4; have hfz54_5 := blk_frozen BK197.out 5; have hfz54_6 := blk_frozen BK197.out 6))
               go_ret
               exact ⟨ez, bs⟩
              ·rw [if_neg c49] at H
               have c49b0 : (a0_6 == 13) = false := beq_eq_false_iff_ne.mpr c49
               have c49b1 : (a0_6 != 13) = true := bne_iff_ne.mpr c49
               obtain rfl := Option.some.inj H
               have hcz55_0 : wc.cell? ⟨gb197, 0, none⟩ = some (.slice A0_0 l0_0.length c0_0) := (blk_cell BK197.out 0).trans rfl
               have hcz55_1 : wc.cell? ⟨gb197, 1, none⟩ = some (.int .i64 a0_1) := (blk_cell BK197.out 1).trans rfl
               have hcz55_2 : wc.cell? ⟨gb197, 2, none⟩ = some (.int .i64 a0_2) := (blk_cell BK197.out 2).trans rfl
               have hcz55_3 : wc.cell? ⟨gb197, 3, none⟩ = some (.int .i64 a0_3) := (blk_cell BK197.out 3).trans rfl
               have hcz55_4 : wc.cell? ⟨gb197, 4, none⟩ = some (.int .i64 a0_4) := (blk_cell BK197.out 4).trans rfl
               have hcz55_5 : wc.cell? ⟨gb197, 5, none⟩ = some (.int .i64 a0_5) := (blk_cell BK197.out 5).trans rfl
               have hcz55_6 : wc.cell? ⟨gb197, 6, none⟩ = some (.int .i64 a0_6) := (blk_cell BK197.out 6).trans rfl
               have hfz55_0 := blk_frozen BK197.out 0
               have hfz55_1 := blk_frozen BK197.out 1
               have hfz55_2 := blk_frozen BK197.out 2
               have hfz55_3 := blk_frozen BK197.out 3
               have hfz55_4 := blk_frozen BK197.out 4
               have hfz55_5 := blk_frozen BK197.out 5
               have hfz55_6 := blk_frozen BK197.out 6
               go_wp2_with (first | ((with_reducible refine gate_dst (N := 45) rfl ?_); (try (refine gate_guard (by rfl) ?_; dsimp only)); refine Kd.R_lit (Kd.int .i64) _ 3 ?hg (N := 45) ?hd (xs := ([18, 19] : List Int)) (inner := [.int .i64 18, .int .i64 19]) (ok := fun _ => True) (okp := fun _ => True) ?hr ?hp (fun _ hk => hk) trivial (Below.refl _ _) (Nat.le_refl _) (by simp) ?_; (case hd => rfl); (case hg => rfl); (case hr => first | (go_simp; done) | (go_simp; rfl)); (case hp => exact (Reps.one (show Kd.M (Kd.int .i64) _ _ _ 18 [.int .i64 18] from rfl) (Reps.one (show Kd.M (Kd.int .i64) _ _ _ 19 [.int .i64 19] from rfl) (Reps.none _ _)))); intro v207 w56 ho57 hb hg_ hnew_; clear hg_ hnew_; (first | rw [← Ny206.out] at ho57 | (simp only [Int.reduceToNat] at ho57; rw [← Ny206.out] at ho57)); have n0_ := Aside0.mk (Kd.R_lower ho57 (below_size bs)); have n1_ := Aside0.mk (blk_below (g := gb197) (o := .cells #[.slice A0_0 l0_0.length c0_0, .int .i64 a0_1, .int .i64 a0_2, .int .i64 a0_3, .int .i64 a0_4, .int .i64 a0_5, .int .i64 a0_6] 74 (0, 0)) kz hb); have n2_ := Aside0.mk (below_step bs hb); clear BK197; clear HB; have HO208 := n0_; have BK197 := n1_; have HB := n2_; clear n0_ n1_ n2_; clear hb ho57; obtain ⟨Ao58, co58, eo58⟩ := Kd.R_slice HO208.out; subst eo58) | ((with_reducible refine gate_callee (f := 42) rfl ?_); refine goesL_ (some 46) rfl rfl Try.func42 (by kernel_rfl) rfl #[.int .i64 a0_6, .slice Ao58 y206.length co58] rfl mz ?_; (with_reducible refine (spec_among.calls kj30 a0_6 _ _ y206 true _ ?side1 ?side2 A41.out).mono ?_); (case side1 => repeat (first | exact (Kd.R_reads' HO208.out).2.2 | (with_reducible refine Kd.C_alloc ?_ _) | (with_reducible refine Kd.C_drewN ?_ _) | (with_reducible refine Kd.C_drew ?_))); (case side2 => exact (Kd.R_reads' HO208.out).2.1); rintro e w' ⟨rfl, ⟨nd, rfl⟩⟩; refine ⟨_, rfl, ?_⟩; have hcz59_0 : w56.cell? ⟨gb197, 0, none⟩ = some (.slice A0_0 l0_0.length c0_0) := (blk_cell BK197.out 0).trans rfl; have hcz59_1 : w56.cell? ⟨gb197, 1, none⟩ = some (.int .i64 a0_1) := (blk_cell BK197.out 1).trans rfl; have hcz59_2 : w56.cell? ⟨gb197, 2, none⟩ = some (.int .i64 a0_2) := (blk_cell BK197.out 2).trans rfl; have hcz59_3 : w56.cell? ⟨gb197, 3, none⟩ = some (.int .i64 a0_3) := (blk_cell BK197.out 3).trans rfl; have hcz59_4 : w56.cell? ⟨gb197, 4, none⟩ = some (.int .i64 a0_4) := (blk_cell BK197.out 4).trans rfl; have hcz59_5 : w56.cell? ⟨gb197, 5, none⟩ = some (.int .i64 a0_5) := (blk_cell BK197.out 5).trans rfl; have hcz59_6 : w56.cell? ⟨gb197, 6, none⟩ = some (.int .i64 a0_6) := (blk_cell BK197.out 6).trans rfl; have hfz59_0 := blk_frozen BK197.out 0; have hfz59_1 := blk_frozen BK197.out 1; have hfz59_2 := blk_frozen BK197.out 2; have hfz59_3 := blk_frozen BK197.out 3; have hfz59_4 := blk_frozen BK197.out 4; have hfz59_5 := blk_frozen BK197.out 5; have hfz59_6 := blk_frozen BK197.out 6))
               go_ret
               exact ⟨ez, bs⟩
            ·replace c42 := Bool.eq_false_iff.mpr c42
             subst c42
             rw [if_neg (show ¬ (false = true) by decide)] at H
             by_cases c60 : a0_6 = 13
             ·rw [if_pos c60] at H
              have c60b0 : (a0_6 == 13) = true := beq_iff_eq.mpr c60
              have c60b1 : (a0_6 != 13) = false := bne_eq_false_iff_eq.mpr c60
              clear c60
              obtain rfl := Option.some.inj H
              have hcz61_0 : wc.cell? ⟨gb197, 0, none⟩ = some (.slice A0_0 l0_0.length c0_0) := (blk_cell BK197.out 0).trans rfl
              have hcz61_1 : wc.cell? ⟨gb197, 1, none⟩ = some (.int .i64 a0_1) := (blk_cell BK197.out 1).trans rfl
              have hcz61_2 : wc.cell? ⟨gb197, 2, none⟩ = some (.int .i64 a0_2) := (blk_cell BK197.out 2).trans rfl
              have hcz61_3 : wc.cell? ⟨gb197, 3, none⟩ = some (.int .i64 a0_3) := (blk_cell BK197.out 3).trans rfl
              have hcz61_4 : wc.cell? ⟨gb197, 4, none⟩ = some (.int .i64 a0_4) := (blk_cell BK197.out 4).trans rfl
              have hcz61_5 : wc.cell? ⟨gb197, 5, none⟩ = some (.int .i64 a0_5) := (blk_cell BK197.out 5).trans rfl
              have hcz61_6 : wc.cell? ⟨gb197, 6, none⟩ = some (.int .i64 a0_6) := (blk_cell BK197.out 6).trans rfl
              have hfz61_0 := blk_frozen BK197.out 0
              have hfz61_1 := blk_frozen BK197.out 1
              have hfz61_2 := blk_frozen BK197.out 2
              have hfz61_3 := blk_frozen BK197.out 3
              have hfz61_4 := blk_frozen BK197.out 4
              have hfz61_5 := blk_frozen BK197.out 5
              have hfz61_6 := blk_frozen BK197.out 6
              go_wp2_with (first | ((with_reducible refine gate_dst (N := 45) rfl ?_); (try (refine gate_guard (by rfl) ?_; dsimp only)); refine Kd.R_lit (Kd.int .i64) _ 3 ?hg (N := 45) ?hd (xs := ([18, 19] : List Int)) (inner := [.int .i64 18, .int .i64 19]) (ok := fun _ => True) (okp := fun _ => True) ?hr ?hp (fun _ hk => hk) trivial (Below.refl _ _) (Nat.le_refl _) (by simp) ?_; (case hd => rfl); (case hg => rfl); (case hr => first | (go_simp; done) | (go_simp; rfl)); (case hp => exact (Reps.one (show Kd.M (Kd.int .i64) _ _ _ 18 [.int .i64 18] from rfl) (Reps.one (show Kd.M (Kd.int .i64) _ _ _ 19 [.int .i64 19] from rfl) (Reps.none _ _)))); intro v207 w62 ho63 hb hg_ hnew_; clear hg_ hnew_; (first | rw [← Ny206.out] at ho63 | (simp only [Int.reduceToNat] at ho63; rw [← Ny206.out] at ho63)); have n0_ := Aside0.mk (Kd.R_lower ho63 (below_size bs)); have n1_ := Aside0.mk (blk_below (g := gb197) (o := .cells #[.slice A0_0 l0_0.length c0_0, .int .i64 a0_1, .int .i64 a0_2, .int .i64 a0_3, .int .i64 a0_4, .int .i64 a0_5, .int .i64 a0_6] 74 (0, 0)) kz hb); have n2_ := Aside0.mk (below_step bs hb); clear BK197; clear HB; have HO208 := n0_; have BK197 := n1_; have HB := n2_; clear n0_ n1_ n2_; clear hb ho63; obtain ⟨Ao64, co64, eo64⟩ := Kd.R_slice HO208.out; subst eo64) | ((with_reducible refine gate_callee (f := 42) rfl ?_); refine goesL_ (some 46) rfl rfl Try.func42 (by kernel_rfl) rfl #[.int .i64 a0_6, .slice Ao64 y206.length co64] rfl mz ?_; (with_reducible refine (spec_among.calls kj30 a0_6 _ _ y206 false _ ?side1 ?side2 A41.out).mono ?_); (case side1 => repeat (first | exact (Kd.R_reads' HO208.out).2.2 | (with_reducible refine Kd.C_alloc ?_ _) | (with_reducible refine Kd.C_drewN ?_ _) | (with_reducible refine Kd.C_drew ?_))); (case side2 => exact (Kd.R_reads' HO208.out).2.1); rintro e w' ⟨rfl, ⟨nd, rfl⟩⟩; refine ⟨_, rfl, ?_⟩; have hcz65_0 : w62.cell? ⟨gb197, 0, none⟩ = some (.slice A0_0 l0_0.length c0_0) := (blk_cell BK197.out 0).trans rfl; have hcz65_1 : w62.cell? ⟨gb197, 1, none⟩ = some (.int .i64 a0_1) := (blk_cell BK197.out 1).trans rfl; have hcz65_2 : w62.cell? ⟨gb197, 2, none⟩ = some (.int .i64 a0_2) := (blk_cell BK197.out 2).trans rfl; have hcz65_3 : w62.cell? ⟨gb197, 3, none⟩ = some (.int .i64 a0_3) := (blk_cell BK197.out 3).trans rfl; have hcz65_4 : w62.cell? ⟨gb197, 4, none⟩ = some (.int .i64 a0_4) := (blk_cell BK197.out 4).trans rfl; have hcz65_5 : w62.cell? ⟨gb197, 5, none⟩ = some (.int .i64 a0_5) := (blk_cell BK197.out 5).trans rfl; have hcz65_6 : w62.cell? ⟨gb197, 6, none⟩ = some (.int .i64 a0_6) := (blk_cell BK197.out 6).trans rfl; have hfz65_0 := blk_frozen BK197.out 0; have hfz65_1 := blk_frozen BK197.out 1; have hfz65_2 := blk_frozen BK197.out 2; have hfz65_3 := blk_frozen BK197.out 3; have hfz65_4 := blk_frozen BK197.out 4; have hfz65_5 := blk_frozen BK197.out 5; have hfz65_6 := blk_frozen BK197.out 6))
              go_ret
              exact ⟨ez, bs⟩
             ·rw [if_neg c60] at H
              have c60b0 : (a0_6 == 13) = false := beq_eq_false_iff_ne.mpr c60
              have c60b1 : (a0_6 != 13) = true := bne_iff_ne.mpr c60
              obtain rfl := Option.some.inj H
              have hcz66_0 : wc.cell? ⟨gb197, 0, none⟩ = some (.slice A0_0 l0_0.length c0_0) := (blk_cell BK197.out 0).trans rfl
              have hcz66_1 : wc.cell? ⟨gb197, 1, none⟩ = some (.int .i64 a0_1) := (blk_cell BK197.out 1).trans rfl
              have hcz66_2 : wc.cell? ⟨gb197, 2, none⟩ = some (.int .i64 a0_2) := (blk_cell BK197.out 2).trans rfl
              have hcz66_3 : wc.cell? ⟨gb197, 3, none⟩ = some (.int .i64 a0_3) := (blk_cell BK197.out 3).trans rfl
              have hcz66_4 : wc.cell? ⟨gb197, 4, none⟩ = some (.int .i64 a0_4) := (blk_cell BK197.out 4).trans rfl
              have hcz66_5 : wc.cell? ⟨gb197, 5, none⟩ = some (.int .i64 a0_5) := (blk_cell BK197.out 5).trans rfl
              have hcz66_6 : wc.cell? ⟨gb197, 6, none⟩ = some (.int .i64 a0_6) := (blk_cell BK197.out 6).trans rfl
              have hfz66_0 := blk_frozen BK197.out 0
              have hfz66_1 := blk_frozen BK197.out 1
              have hfz66_2 := blk_frozen BK197.out 2
              have hfz66_3 := blk_frozen BK197.out 3
              have hfz66_4 := blk_frozen BK197.out 4
              have hfz66_5 := blk_frozen BK197.out 5
              have hfz66_6 := blk_frozen BK197.out 6
              go_wp2_with (first | ((with_reducible refine gate_dst (N := 45) rfl ?_); (try (refine gate_guard (by rfl) ?_; dsimp only)); refine Kd.R_lit (Kd.int .i64) _ 3 ?hg (N := 45) ?hd (xs := ([18, 19] : List Int)) (inner := [.int .i64 18, .int .i64 19]) (ok := fun _ => True) (okp := fun _ => True) ?hr ?hp (fun _ hk => hk) trivial (Below.refl _ _) (Nat.le_refl _) (by simp) ?_; (case hd => rfl); (case hg => rfl); (case hr => first | (go_simp; done) | (go_simp; rfl)); (case hp => exact (Reps.one (show Kd.M (Kd.int .i64) _ _ _ 18 [.int .i64 18] from rfl) (Reps.one (show Kd.M (Kd.int .i64) _ _ _ 19 [.int .i64 19] from rfl) (Reps.none _ _)))); intro v207 w67 ho68 hb hg_ hnew_; clear hg_ hnew_; (first | rw [← Ny206.out] at ho68 | (simp only [Int.reduceToNat] at ho68; rw [← Ny206.out] at ho68)); have n0_ := Aside0.mk (Kd.R_lower ho68 (below_size bs)); have n1_ := Aside0.mk (blk_below (g := gb197) (o := .cells #[.slice A0_0 l0_0.length c0_0, .int .i64 a0_1, .int .i64 a0_2, .int .i64 a0_3, .int .i64 a0_4, .int .i64 a0_5, .int .i64 a0_6] 74 (0, 0)) kz hb); have n2_ := Aside0.mk (below_step bs hb); clear BK197; clear HB; have HO208 := n0_; have BK197 := n1_; have HB := n2_; clear n0_ n1_ n2_; clear hb ho68; obtain ⟨Ao69, co69, eo69⟩ := Kd.R_slice HO208.out; subst eo69) | ((with_reducible refine gate_callee (f := 42) rfl ?_); refine goesL_ (some 46) rfl rfl Try.func42 (by kernel_rfl) rfl #[.int .i64 a0_6, .slice Ao69 y206.length co69] rfl mz ?_; (with_reducible refine (spec_among.calls kj30 a0_6 _ _ y206 false _ ?side1 ?side2 A41.out).mono ?_); (case side1 => repeat (first | exact (Kd.R_reads' HO208.out).2.2 | (with_reducible refine Kd.C_alloc ?_ _) | (with_reducible refine Kd.C_drewN ?_ _) | (with_reducible refine Kd.C_drew ?_))); (case side2 => exact (Kd.R_reads' HO208.out).2.1); rintro e w' ⟨rfl, ⟨nd, rfl⟩⟩; refine ⟨_, rfl, ?_⟩; have hcz70_0 : w67.cell? ⟨gb197, 0, none⟩ = some (.slice A0_0 l0_0.length c0_0) := (blk_cell BK197.out 0).trans rfl; have hcz70_1 : w67.cell? ⟨gb197, 1, none⟩ = some (.int .i64 a0_1) := (blk_cell BK197.out 1).trans rfl; have hcz70_2 : w67.cell? ⟨gb197, 2, none⟩ = some (.int .i64 a0_2) := (blk_cell BK197.out 2).trans rfl; have hcz70_3 : w67.cell? ⟨gb197, 3, none⟩ = some (.int .i64 a0_3) := (blk_cell BK197.out 3).trans rfl; have hcz70_4 : w67.cell? ⟨gb197, 4, none⟩ = some (.int .i64 a0_4) := (blk_cell BK197.out 4).trans rfl; have hcz70_5 : w67.cell? ⟨gb197, 5, none⟩ = some (.int .i64 a0_5) := (blk_cell BK197.out 5).trans rfl; have hcz70_6 : w67.cell? ⟨gb197, 6, none⟩ = some (.int .i64 a0_6) := (blk_cell BK197.out 6).trans rfl; have hfz70_0 := blk_frozen BK197.out 0; have hfz70_1 := blk_frozen BK197.out 1; have hfz70_2 := blk_frozen BK197.out 2; have hfz70_3 := blk_frozen BK197.out 3; have hfz70_4 := blk_frozen BK197.out 4; have hfz70_5 := blk_frozen BK197.out 5; have hfz70_6 := blk_frozen BK197.out 6))
              go_ret
              exact ⟨ez, bs⟩

end Go.Proofs.Ytnanfoahimccpaa.Ln
