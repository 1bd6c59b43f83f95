/- Functions of the translation as Lean functions, and their walks: lines written by a program, a turned copy of the kit's print. -/
import Derived.Test.YtnanfoahimccpaaLnx0
import Derived.Test.YtnanfoahimccpaaLnx1
namespace Go.Proofs.Ytnanfoahimccpaa.Ln
open Go.RowKit Go.Proofs.YtnanfoahimccpaaW.PrintWords Go.Proofs.YtnanfoahimccpaaW.PrintLast Go.Proofs.YtnanfoahimccpaaW.PrintMore
attribute [local go_sem] max2_int max_two
set_option linter.unusedVariables false
set_option linter.unusedSimpArgs false

mutual
def spec_lbPairs.j0 : Nat → Int → Bool → List (S64) → Int → Int → Int → Int → Int → Int → Option (Bool)
 | 0, _, _, _, _, _, _, _, _, _ => none
 | k + 1, x4, x5, x211000, x211001, x211002, x211003, x211004, x211005, x211006 => if x5 = true then ((spec_among.f k x211004 (([36, 37] : List Int))).bind fun t214 => (some t214)) else (if x4 = 34 then ((spec_among.f k x211004 (([36, 37, 34] : List Int))).bind fun t218 => (some t218)) else (if x4 = 36 then (spec_lbPairs.j1 k (x4 == 36) x211000 x211001 x211002 x211003 x211004 x211005 x211006) else (spec_lbPairs.j1 k (x4 == 37) x211000 x211001 x211002 x211003 x211004 x211005 x211006)))
def spec_lbPairs.j1 : Nat → Bool → List (S64) → Int → Int → Int → Int → Int → Int → Option (Bool)
 | 0, _, _, _, _, _, _, _, _ => none
 | k + 1, x18, x211000, x211001, x211002, x211003, x211004, x211005, x211006 => if x18 = true then ((spec_among.f k x211004 (([35, 34] : List Int))).bind fun t222 => (some t222)) else ((spec_among.f k x211003 (([26, 29, 42] : List Int))).bind fun t226 => (if t226 = true then (some (x211004 == 34)) else (some false)))
end
def spec_lbPairs.f (k : Nat) (l0_0 : List (S64)) (a0_1 : Int) (a0_2 : Int) (a0_3 : Int) (a0_4 : Int) (a0_5 : Int) (a0_6 : Int) : Option (Bool) := if a0_3 = 18 then (spec_lbPairs.j0 k a0_3 (a0_3 == 18) l0_0 a0_1 a0_2 a0_3 a0_4 a0_5 a0_6) else (spec_lbPairs.j0 k a0_3 (a0_3 == 19) l0_0 a0_1 a0_2 a0_3 a0_4 a0_5 a0_6)
set_option maxHeartbeats 8000000 in
set_option maxRecDepth 100000 in
theorem spec_lbPairs.calls (k : Nat) (A0_0 : Option Addr) (c0_0 : Nat) (l0_0 : List (S64)) (a0_1 : Int) (a0_2 : Int) (a0_3 : Int) (a0_4 : Int) (a0_5 : Int) (a0_6 : Int) (r : Bool) (w : World) (hr0_0 : Kd.C k64 w A0_0 l0_0.length l0_0) (hc0_0 : l0_0.length ≤ c0_0) (h : spec_lbPairs.f k l0_0 a0_1 a0_2 a0_3 a0_4 a0_5 a0_6 = some r) :
  Calls Try.prog 65 #[.agg #[.slice A0_0 l0_0.length c0_0, .int .i64 a0_1, .int .i64 a0_2, .int .i64 a0_3, .int .i64 a0_4, .int .i64 a0_5, .int .i64 a0_6]] w fun e w' => e = .returned (.bool r) ∧ Below w.heap.size w w' := by
 have hu74 := Try.underlying74
 have HR0_0 := Aside0.mk hr0_0
 have HC0_0 := Aside0.mk hc0_0
 clear hr0_0 hc0_0
 have HB := Aside0.mk (Below.refl w.heap.size w)
 have H : (if a0_3 = 18 then (spec_lbPairs.j0 k a0_3 (a0_3 == 18) l0_0 a0_1 a0_2 a0_3 a0_4 a0_5 a0_6) else (spec_lbPairs.j0 k a0_3 (a0_3 == 19) l0_0 a0_1 a0_2 a0_3 a0_4 a0_5 a0_6)) = some r := h
 clear h
 have HC2 := Aside0.mk H
 clear H
 go_enter Try.func65, Try.ntmps65
 go_upto_if 5 with (first | ((with_reducible refine gate_dst (N := 1) rfl ?_); refine box_event ?hg (N := 1) ?hd (cs := #[.slice A0_0 l0_0.length c0_0, .int .i64 a0_1, .int .i64 a0_2, .int .i64 a0_3, .int .i64 a0_4, .int .i64 a0_5, .int .i64 a0_6]) (t := 74) ?hr ?_; (case hd => rfl); (case hg => rfl); (case hr => first | (go_simp; done) | (go_simp; rfl)); intro gb210 hg w3 hbox hb; have n0_ := Aside0.mk (below_step bz hb); have n1_ := Aside0.mk (hbox); have n2_ := Aside0.mk ((by rw [hg]; exact (below_size bz) : w.heap.size ≤ gb210)); have n3_ := Aside0.mk ((by rw [hg]; exact (below_size bz) : w.heap.size ≤ gb210)); clear HB; have HB := n0_; have BK210 := n1_; have GW210 := n2_; have GE210 := n3_; clear n0_ n1_ n2_ n3_; clear hb hbox hg; have hcz4_0 : w3.cell? ⟨gb210, 0, none⟩ = some (.slice A0_0 l0_0.length c0_0) := (blk_cell BK210.out 0).trans rfl; have hcz4_1 : w3.cell? ⟨gb210, 1, none⟩ = some (.int .i64 a0_1) := (blk_cell BK210.out 1).trans rfl; have hcz4_2 : w3.cell? ⟨gb210, 2, none⟩ = some (.int .i64 a0_2) := (blk_cell BK210.out 2).trans rfl; have hcz4_3 : w3.cell? ⟨gb210, 3, none⟩ = some (.int .i64 a0_3) := (blk_cell BK210.out 3).trans rfl; have hcz4_4 : w3.cell? ⟨gb210, 4, none⟩ = some (.int .i64 a0_4) := (blk_cell BK210.out 4).trans rfl; have hcz4_5 : w3.cell? ⟨gb210, 5, none⟩ = some (.int .i64 a0_5) := (blk_cell BK210.out 5).trans rfl; have hcz4_6 : w3.cell? ⟨gb210, 6, none⟩ = some (.int .i64 a0_6) := (blk_cell BK210.out 6).trans rfl; have hfz4_0 := blk_frozen BK210.out 0; have hfz4_1 := blk_frozen BK210.out 1; have hfz4_2 := blk_frozen BK210.out 2; have hfz4_3 := blk_frozen BK210.out 3; have hfz4_4 := blk_frozen BK210.out 4; have hfz4_5 := blk_frozen BK210.out 5; have hfz4_6 := blk_frozen BK210.out 6))
 (try simp only [Act.put, List.setIfInBounds_toArray, List.set_cons_zero, List.set_cons_succ])
 go_cut [5] (fun v5 wc => ∃ (kq : Nat) (x5_1 : Bool), v5 = .bool x5_1 ∧ Aside0 (spec_lbPairs.j0 kq a0_3 x5_1 l0_0 a0_1 a0_2 a0_3 a0_4 a0_5 a0_6 = some r) ∧ Aside0 (kq ≤ k) ∧ Aside0 (wc.heap[gb210]? = some (.cells #[(.slice A0_0 l0_0.length c0_0), .int .i64 a0_1, .int .i64 a0_2, .int .i64 a0_3, .int .i64 a0_4, .int .i64 a0_5, .int .i64 a0_6] 74 (0, 0))) ∧ Aside0 (Below w.heap.size w wc))
 case first =>
  have H := HC2.out
  clear HC2
  by_cases c5 : a0_3 = 18
  ·rw [if_pos c5] at H
   have c5b0 : (a0_3 == 18) = true := beq_iff_eq.mpr c5
   have c5b1 : (a0_3 != 18) = false := bne_eq_false_iff_eq.mpr c5
   clear c5
   (first | rw [c5b0] | (simp only [i64_w]; rw [c5b0]) | skip)
   have H' := Aside0.mk H
   clear H
   go_wp2
   go_meet
   case rel => exact ⟨_, ((a0_3 == 18)), vz, H', ⟨by first | omega | exact Nat.le_refl _⟩, ⟨kz⟩, ⟨bs⟩⟩
  ·rw [if_neg c5] at H
   have c5b0 : (a0_3 == 18) = false := beq_eq_false_iff_ne.mpr c5
   have c5b1 : (a0_3 != 18) = true := bne_iff_ne.mpr c5
   (first | rw [c5b0] | (simp only [i64_w]; rw [c5b0]) | skip)
   have H' := Aside0.mk H
   clear H
   go_wp2
   go_meet
   case rel => exact ⟨_, ((a0_3 == 19)), vz, H', ⟨by first | omega | exact Nat.le_refl _⟩, ⟨kz⟩, ⟨bs⟩⟩
 case rest =>
  clear HC2
  obtain ⟨kq, x5_1, rfl, HA, HJ1, BK210, HB⟩ := hcut
  cases kq with
  | zero => exact absurd HA.out (by simp [spec_lbPairs.j0])
  | succ kj1 =>
   have H := HA.out
   clear HA
   simp only [spec_lbPairs.j0] at H
   by_cases c6 : x5_1 = true
   ·subst c6
    rw [if_pos rfl] at H
    obtain ⟨y211, hy211⟩ : ∃ y_ : List Int, y_ = (([36, 37] : List Int)) := ⟨_, rfl⟩
    first | rw [← hy211] at H | simp only [← hy211] at H
    have Ny211 := Aside0.mk hy211
    clear hy211
    replace H := Option.bind_eq_some_iff.mp H
    obtain ⟨t214, A70, H⟩ := H
    try dsimp only at H
    have A7 := Aside0.mk A70
    clear A70
    obtain rfl := Option.some.inj H
    have hcz8_0 : wc.cell? ⟨gb210, 0, none⟩ = some (.slice A0_0 l0_0.length c0_0) := (blk_cell BK210.out 0).trans rfl
    have hcz8_1 : wc.cell? ⟨gb210, 1, none⟩ = some (.int .i64 a0_1) := (blk_cell BK210.out 1).trans rfl
    have hcz8_2 : wc.cell? ⟨gb210, 2, none⟩ = some (.int .i64 a0_2) := (blk_cell BK210.out 2).trans rfl
    have hcz8_3 : wc.cell? ⟨gb210, 3, none⟩ = some (.int .i64 a0_3) := (blk_cell BK210.out 3).trans rfl
    have hcz8_4 : wc.cell? ⟨gb210, 4, none⟩ = some (.int .i64 a0_4) := (blk_cell BK210.out 4).trans rfl
    have hcz8_5 : wc.cell? ⟨gb210, 5, none⟩ = some (.int .i64 a0_5) := (blk_cell BK210.out 5).trans rfl
    have hcz8_6 : wc.cell? ⟨gb210, 6, none⟩ = some (.int .i64 a0_6) := (blk_cell BK210.out 6).trans rfl
    have hfz8_0 := blk_frozen BK210.out 0
    have hfz8_1 := blk_frozen BK210.out 1
    have hfz8_2 := blk_frozen BK210.out 2
    have hfz8_3 := blk_frozen BK210.out 3
    have hfz8_4 := blk_frozen BK210.out 4
    have hfz8_5 := blk_frozen BK210.out 5
    have hfz8_6 := blk_frozen BK210.out 6
    go_wp2_with (first | ((with_reducible refine gate_dst (N := 10) rfl ?_); refine Kd.R_lit (Kd.int .i64) _ 3 ?hg (N := 10) ?hd (xs := ([36, 37] : List Int)) (inner := [.int .i64 36, .int .i64 37]) (ok := fun _ => True) (okp := fun _ => True) ?hr ?hp (fun _ hk => hk) trivial (Below.refl _ _) (Nat.le_refl _) (by simp) ?_; (case hd => rfl); (case hg => rfl); (case hr => first | (go_simp; done) | (go_simp; rfl)); (case hp => exact (Reps.one (show Kd.M (Kd.int .i64) _ _ _ 36 [.int .i64 36] from rfl) (Reps.one (show Kd.M (Kd.int .i64) _ _ _ 37 [.int .i64 37] from rfl) (Reps.none _ _)))); intro v212 w9 ho10 hb hg_ hnew_; clear hg_ hnew_; (first | rw [← Ny211.out] at ho10 | (simp only [Int.reduceToNat] at ho10; rw [← Ny211.out] at ho10)); have n0_ := Aside0.mk (Kd.R_lower ho10 (below_size bs)); have n1_ := Aside0.mk (blk_below (g := gb210) (o := .cells #[.slice A0_0 l0_0.length c0_0, .int .i64 a0_1, .int .i64 a0_2, .int .i64 a0_3, .int .i64 a0_4, .int .i64 a0_5, .int .i64 a0_6] 74 (0, 0)) kz hb); have n2_ := Aside0.mk (below_step bs hb); clear BK210; clear HB; have HO213 := n0_; have BK210 := n1_; have HB := n2_; clear n0_ n1_ n2_; clear hb ho10; obtain ⟨Ao11, co11, eo11⟩ := Kd.R_slice HO213.out; subst eo11) | ((with_reducible refine gate_callee (f := 42) rfl ?_); refine goesL_ (some 11) rfl rfl Try.func42 (by kernel_rfl) rfl #[.int .i64 a0_4, .slice Ao11 y211.length co11] rfl mz ?_; (with_reducible refine (spec_among.calls kj1 a0_4 _ _ y211 t214 _ ?side1 ?side2 A7.out).mono ?_); (case side1 => repeat (first | exact (Kd.R_reads' HO213.out).2.2 | (with_reducible refine Kd.C_alloc ?_ _) | (with_reducible refine Kd.C_drewN ?_ _) | (with_reducible refine Kd.C_drew ?_))); (case side2 => exact (Kd.R_reads' HO213.out).2.1); rintro e w' ⟨rfl, ⟨nd, rfl⟩⟩; refine ⟨_, rfl, ?_⟩))
    go_ret
    exact ⟨ez, bs⟩
   ·replace c6 := Bool.eq_false_iff.mpr c6
    subst c6
    rw [if_neg (show ¬ (false = true) by decide)] at H
    by_cases c12 : a0_3 = 34
    ·rw [if_pos c12] at H
     have c12b0 : (a0_3 == 34) = true := beq_iff_eq.mpr c12
     have c12b1 : (a0_3 != 34) = false := bne_eq_false_iff_eq.mpr c12
     clear c12
     obtain ⟨y215, hy215⟩ : ∃ y_ : List Int, y_ = (([36, 37, 34] : List Int)) := ⟨_, rfl⟩
     first | rw [← hy215] at H | simp only [← hy215] at H
     have Ny215 := Aside0.mk hy215
     clear hy215
     replace H := Option.bind_eq_some_iff.mp H
     obtain ⟨t218, A130, H⟩ := H
     try dsimp only at H
     have A13 := Aside0.mk A130
     clear A130
     obtain rfl := Option.some.inj H
     have hcz14_0 : wc.cell? ⟨gb210, 0, none⟩ = some (.slice A0_0 l0_0.length c0_0) := (blk_cell BK210.out 0).trans rfl
     have hcz14_1 : wc.cell? ⟨gb210, 1, none⟩ = some (.int .i64 a0_1) := (blk_cell BK210.out 1).trans rfl
     have hcz14_2 : wc.cell? ⟨gb210, 2, none⟩ = some (.int .i64 a0_2) := (blk_cell BK210.out 2).trans rfl
     have hcz14_3 : wc.cell? ⟨gb210, 3, none⟩ = some (.int .i64 a0_3) := (blk_cell BK210.out 3).trans rfl
     have hcz14_4 : wc.cell? ⟨gb210, 4, none⟩ = some (.int .i64 a0_4) := (blk_cell BK210.out 4).trans rfl
     have hcz14_5 : wc.cell? ⟨gb210, 5, none⟩ = some (.int .i64 a0_5) := (blk_cell BK210.out 5).trans rfl
     have hcz14_6 : wc.cell? ⟨gb210, 6, none⟩ = some (.int .i64 a0_6) := (blk_cell BK210.out 6).trans rfl
     have hfz14_0 := blk_frozen BK210.out 0
     have hfz14_1 := blk_frozen BK210.out 1
     have hfz14_2 := blk_frozen BK210.out 2
     have hfz14_3 := blk_frozen BK210.out 3
     have hfz14_4 := blk_frozen BK210.out 4
     have hfz14_5 := blk_frozen BK210.out 5
     have hfz14_6 := blk_frozen BK210.out 6
     go_wp2_with (first | ((with_reducible refine gate_dst (N := 16) rfl ?_); refine Kd.R_lit (Kd.int .i64) _ 3 ?hg (N := 16) ?hd (xs := ([36, 37, 34] : List Int)) (inner := [.int .i64 36, .int .i64 37, .int .i64 34]) (ok := fun _ => True) (okp := fun _ => True) ?hr ?hp (fun _ hk => hk) trivial (Below.refl _ _) (Nat.le_refl _) (by simp) ?_; (case hd => rfl); (case hg => rfl); (case hr => first | (go_simp; done) | (go_simp; rfl)); (case hp => exact (Reps.one (show Kd.M (Kd.int .i64) _ _ _ 36 [.int .i64 36] from rfl) (Reps.one (show Kd.M (Kd.int .i64) _ _ _ 37 [.int .i64 37] from rfl) (Reps.one (show Kd.M (Kd.int .i64) _ _ _ 34 [.int .i64 34] from rfl) (Reps.none _ _))))); intro v216 w15 ho16 hb hg_ hnew_; clear hg_ hnew_; (first | rw [← Ny215.out] at ho16 | (simp only [Int.reduceToNat] at ho16; rw [← Ny215.out] at ho16)); have n0_ := Aside0.mk (Kd.R_lower ho16 (below_size bs)); have n1_ := Aside0.mk (blk_below (g := gb210) (o := .cells #[.slice A0_0 l0_0.length c0_0, .int .i64 a0_1, .int .i64 a0_2, .int .i64 a0_3, .int .i64 a0_4, .int .i64 a0_5, .int .i64 a0_6] 74 (0, 0)) kz hb); have n2_ := Aside0.mk (below_step bs hb); clear BK210; clear HB; have HO217 := n0_; have BK210 := n1_; have HB := n2_; clear n0_ n1_ n2_; clear hb ho16; obtain ⟨Ao17, co17, eo17⟩ := Kd.R_slice HO217.out; subst eo17) | ((with_reducible refine gate_callee (f := 42) rfl ?_); refine goesL_ (some 17) rfl rfl Try.func42 (by kernel_rfl) rfl #[.int .i64 a0_4, .slice Ao17 y215.length co17] rfl mz ?_; (with_reducible refine (spec_among.calls kj1 a0_4 _ _ y215 t218 _ ?side1 ?side2 A13.out).mono ?_); (case side1 => repeat (first | exact (Kd.R_reads' HO217.out).2.2 | (with_reducible refine Kd.C_alloc ?_ _) | (with_reducible refine Kd.C_drewN ?_ _) | (with_reducible refine Kd.C_drew ?_))); (case side2 => exact (Kd.R_reads' HO217.out).2.1); rintro e w' ⟨rfl, ⟨nd, rfl⟩⟩; refine ⟨_, rfl, ?_⟩))
     go_ret
     exact ⟨ez, bs⟩
    ·rw [if_neg c12] at H
     have c12b0 : (a0_3 == 34) = false := beq_eq_false_iff_ne.mpr c12
     have c12b1 : (a0_3 != 34) = true := bne_iff_ne.mpr c12
     have HC18 := Aside0.mk H
     clear H
     go_upto_if 18 with (fail)
     go_cut [18] (fun v18 wc => ∃ (kq : Nat) (x18_17 : Bool), v18 = .bool x18_17 ∧ Aside0 (spec_lbPairs.j1 kq x18_17 l0_0 a0_1 a0_2 a0_3 a0_4 a0_5 a0_6 = some r) ∧ Aside0 (kq ≤ kj1) ∧ Aside0 (wc.heap[gb210]? = some (.cells #[(.slice A0_0 l0_0.length c0_0), .int .i64 a0_1, .int .i64 a0_2, .int .i64 a0_3, .int .i64 a0_4, .int .i64 a0_5, .int .i64 a0_6] 74 (0, 0))) ∧ Aside0 (Below w.heap.size w wc))
     case first =>
      have H := HC18.out
      clear HC18
      by_cases c19 : a0_3 = 36
      ·rw [if_pos c19] at H
       have c19b0 : (a0_3 == 36) = true := beq_iff_eq.mpr c19
       have c19b1 : (a0_3 != 36) = false := bne_eq_false_iff_eq.mpr c19
       clear c19
       (first | rw [c19b0] | (simp only [i64_w]; rw [c19b0]) | skip)
       have H' := Aside0.mk H
       clear H
       go_wp2
       go_meet
       case rel => exact ⟨_, ((a0_3 == 36)), vz, H', ⟨by have := HJ1.out; first | omega | exact Nat.le_refl _⟩, ⟨kz⟩, ⟨bs⟩⟩
      ·rw [if_neg c19] at H
       have c19b0 : (a0_3 == 36) = false := beq_eq_false_iff_ne.mpr c19
       have c19b1 : (a0_3 != 36) = true := bne_iff_ne.mpr c19
       (first | rw [c19b0] | (simp only [i64_w]; rw [c19b0]) | skip)
       have H' := Aside0.mk H
       clear H
       go_wp2
       go_meet
       case rel => exact ⟨_, ((a0_3 == 37)), vz, H', ⟨by have := HJ1.out; first | omega | exact Nat.le_refl _⟩, ⟨kz⟩, ⟨bs⟩⟩
     case rest =>
      clear HC18
      obtain ⟨kq, x18_17, rfl, HA, HJ17, BK210, HB⟩ := hcut
      cases kq with
      | zero => exact absurd HA.out (by simp [spec_lbPairs.j1])
      | succ kj17 =>
       have H := HA.out
       clear HA
       simp only [spec_lbPairs.j1] at H
       by_cases c20 : x18_17 = true
       ·subst c20
        rw [if_pos rfl] at H
        obtain ⟨y219, hy219⟩ : ∃ y_ : List Int, y_ = (([35, 34] : List Int)) := ⟨_, rfl⟩
        first | rw [← hy219] at H | simp only [← hy219] at H
        have Ny219 := Aside0.mk hy219
        clear hy219
        replace H := Option.bind_eq_some_iff.mp H
        obtain ⟨t222, A210, H⟩ := H
        try dsimp only at H
        have A21 := Aside0.mk A210
        clear A210
        obtain rfl := Option.some.inj H
        have hcz22_0 : wc.cell? ⟨gb210, 0, none⟩ = some (.slice A0_0 l0_0.length c0_0) := (blk_cell BK210.out 0).trans rfl
        have hcz22_1 : wc.cell? ⟨gb210, 1, none⟩ = some (.int .i64 a0_1) := (blk_cell BK210.out 1).trans rfl
        have hcz22_2 : wc.cell? ⟨gb210, 2, none⟩ = some (.int .i64 a0_2) := (blk_cell BK210.out 2).trans rfl
        have hcz22_3 : wc.cell? ⟨gb210, 3, none⟩ = some (.int .i64 a0_3) := (blk_cell BK210.out 3).trans rfl
        have hcz22_4 : wc.cell? ⟨gb210, 4, none⟩ = some (.int .i64 a0_4) := (blk_cell BK210.out 4).trans rfl
        have hcz22_5 : wc.cell? ⟨gb210, 5, none⟩ = some (.int .i64 a0_5) := (blk_cell BK210.out 5).trans rfl
        have hcz22_6 : wc.cell? ⟨gb210, 6, none⟩ = some (.int .i64 a0_6) := (blk_cell BK210.out 6).trans rfl
        have hfz22_0 := blk_frozen BK210.out 0
        have hfz22_1 := blk_frozen BK210.out 1
        have hfz22_2 := blk_frozen BK210.out 2
        have hfz22_3 := blk_frozen BK210.out 3
        have hfz22_4 := blk_frozen BK210.out 4
        have hfz22_5 := blk_frozen BK210.out 5
        have hfz22_6 := blk_frozen BK210.out 6
        go_wp2_with (first | ((with_reducible refine gate_dst (N := 23) rfl ?_); refine Kd.R_lit (Kd.int .i64) _ 3 ?hg (N := 23) ?hd (xs := ([35, 34] : List Int)) (inner := [.int .i64 35, .int .i64 34]) (ok := fun _ => True) (okp := fun _ => True) ?hr ?hp (fun _ hk => hk) trivial (Below.refl _ _) (Nat.le_refl _) (by simp) ?_; (case hd => rfl); (case hg => rfl); (case hr => first | (go_simp; done) | (go_simp; rfl)); (case hp => exact (Reps.one (show Kd.M (Kd.int .i64) _ _ _ 35 [.int .i64 35] from rfl) (Reps.one (show Kd.M (Kd.int .i64) _ _ _ 34 [.int .i64 34] from rfl) (Reps.none _ _)))); intro v220 w23 ho24 hb hg_ hnew_; clear hg_ hnew_; (first | rw [← Ny219.out] at ho24 | (simp only [Int.reduceToNat] at ho24; rw [← Ny219.out] at ho24)); have n0_ := Aside0.mk (Kd.R_lower ho24 (below_size bs)); have n1_ := Aside0.mk (blk_below (g := gb210) (o := .cells #[.slice A0_0 l0_0.length c0_0, .int .i64 a0_1, .int .i64 a0_2, .int .i64 a0_3, .int .i64 a0_4, .int .i64 a0_5, .int .i64 a0_6] 74 (0, 0)) kz hb); have n2_ := Aside0.mk (below_step bs hb); clear BK210; clear HB; have HO221 := n0_; have BK210 := n1_; have HB := n2_; clear n0_ n1_ n2_; clear hb ho24; obtain ⟨Ao25, co25, eo25⟩ := Kd.R_slice HO221.out; subst eo25) | ((with_reducible refine gate_callee (f := 42) rfl ?_); refine goesL_ (some 24) rfl rfl Try.func42 (by kernel_rfl) rfl #[.int .i64 a0_4, .slice Ao25 y219.length co25] rfl mz ?_; (with_reducible refine (spec_among.calls kj17 a0_4 _ _ y219 t222 _ ?side1 ?side2 A21.out).mono ?_); (case side1 => repeat (first | exact (Kd.R_reads' HO221.out).2.2 | (with_reducible refine Kd.C_alloc ?_ _) | (with_reducible refine Kd.C_drewN ?_ _) | (with_reducible refine Kd.C_drew ?_))); (case side2 => exact (Kd.R_reads' HO221.out).2.1); rintro e w' ⟨rfl, ⟨nd, rfl⟩⟩; refine ⟨_, rfl, ?_⟩))
        go_ret
        exact ⟨ez, bs⟩
       ·replace c20 := Bool.eq_false_iff.mpr c20
        subst c20
        rw [if_neg (show ¬ (false = true) by decide)] at H
        obtain ⟨y223, hy223⟩ : ∃ y_ : List Int, y_ = (([26, 29, 42] : List Int)) := ⟨_, rfl⟩
        first | rw [← hy223] at H | simp only [← hy223] at H
        have Ny223 := Aside0.mk hy223
        clear hy223
        replace H := Option.bind_eq_some_iff.mp H
        obtain ⟨t226, A260, H⟩ := H
        try dsimp only at H
        have A26 := Aside0.mk A260
        clear A260
        by_cases c27 : t226 = true
        ·subst c27
         rw [if_pos rfl] at H
         obtain rfl := Option.some.inj H
         have hcz28_0 : wc.cell? ⟨gb210, 0, none⟩ = some (.slice A0_0 l0_0.length c0_0) := (blk_cell BK210.out 0).trans rfl
         have hcz28_1 : wc.cell? ⟨gb210, 1, none⟩ = some (.int .i64 a0_1) := (blk_cell BK210.out 1).trans rfl
         have hcz28_2 : wc.cell? ⟨gb210, 2, none⟩ = some (.int .i64 a0_2) := (blk_cell BK210.out 2).trans rfl
         have hcz28_3 : wc.cell? ⟨gb210, 3, none⟩ = some (.int .i64 a0_3) := (blk_cell BK210.out 3).trans rfl
         have hcz28_4 : wc.cell? ⟨gb210, 4, none⟩ = some (.int .i64 a0_4) := (blk_cell BK210.out 4).trans rfl
         have hcz28_5 : wc.cell? ⟨gb210, 5, none⟩ = some (.int .i64 a0_5) := (blk_cell BK210.out 5).trans rfl
         have hcz28_6 : wc.cell? ⟨gb210, 6, none⟩ = some (.int .i64 a0_6) := (blk_cell BK210.out 6).trans rfl
         have hfz28_0 := blk_frozen BK210.out 0
         have hfz28_1 := blk_frozen BK210.out 1
         have hfz28_2 := blk_frozen BK210.out 2
         have hfz28_3 := blk_frozen BK210.out 3
         have hfz28_4 := blk_frozen BK210.out 4
         have hfz28_5 := blk_frozen BK210.out 5
         have hfz28_6 := blk_frozen BK210.out 6
         go_wp2_with (first | ((with_reducible refine gate_dst (N := 27) rfl ?_); refine Kd.R_lit (Kd.int .i64) _ 3 ?hg (N := 27) ?hd (xs := ([26, 29, 42] : List Int)) (inner := [.int .i64 26, .int .i64 29, .int .i64 42]) (ok := fun _ => True) (okp := fun _ => True) ?hr ?hp (fun _ hk => hk) trivial (Below.refl _ _) (Nat.le_refl _) (by simp) ?_; (case hd => rfl); (case hg => rfl); (case hr => first | (go_simp; done) | (go_simp; rfl)); (case hp => exact (Reps.one (show Kd.M (Kd.int .i64) _ _ _ 26 [.int .i64 26] from rfl) (Reps.one (show Kd.M (Kd.int .i64) _ _ _ 29 [.int .i64 29] from rfl) (Reps.one (show Kd.M (Kd.int .i64) _ _ _ 42 [.int .i64 42] from rfl) (Reps.none _ _))))); intro v224 w29 ho30 hb hg_ hnew_; clear hg_ hnew_; (first | rw [← Ny223.out] at ho30 | (simp only [Int.reduceToNat] at ho30; rw [← Ny223.out] at ho30)); have n0_ := Aside0.mk (Kd.R_lower ho30 (below_size bs)); have n1_ := Aside0.mk (blk_below (g := gb210) (o := .cells #[.slice A0_0 l0_0.length c0_0, .int .i64 a0_1, .int .i64 a0_2, .int .i64 a0_3, .int .i64 a0_4, .int .i64 a0_5, .int .i64 a0_6] 74 (0, 0)) kz hb); have n2_ := Aside0.mk (below_step bs hb); clear BK210; clear HB; have HO225 := n0_; have BK210 := n1_; have HB := n2_; clear n0_ n1_ n2_; clear hb ho30; obtain ⟨Ao31, co31, eo31⟩ := Kd.R_slice HO225.out; subst eo31) | ((with_reducible refine gate_callee (f := 42) rfl ?_); refine goesL_ (some 28) rfl rfl Try.func42 (by kernel_rfl) rfl #[.int .i64 a0_3, .slice Ao31 y223.length co31] rfl mz ?_; (with_reducible refine (spec_among.calls kj17 a0_3 _ _ y223 true _ ?side1 ?side2 A26.out).mono ?_); (case side1 => repeat (first | exact (Kd.R_reads' HO225.out).2.2 | (with_reducible refine Kd.C_alloc ?_ _) | (with_reducible refine Kd.C_drewN ?_ _) | (with_reducible refine Kd.C_drew ?_))); (case side2 => exact (Kd.R_reads' HO225.out).2.1); rintro e w' ⟨rfl, ⟨nd, rfl⟩⟩; refine ⟨_, rfl, ?_⟩; have hcz32_0 : w29.cell? ⟨gb210, 0, none⟩ = some (.slice A0_0 l0_0.length c0_0) := (blk_cell BK210.out 0).trans rfl; have hcz32_1 : w29.cell? ⟨gb210, 1, none⟩ = some (.int .i64 a0_1) := (blk_cell BK210.out 1).trans rfl; have hcz32_2 : w29.cell? ⟨gb210, 2, none⟩ = some (.int .i64 a0_2) := (blk_cell BK210.out 2).trans rfl; have hcz32_3 : w29.cell? ⟨gb210, 3, none⟩ = some (.int .i64 a0_3) := (blk_cell BK210.out 3).trans rfl; have hcz32_4 : w29.cell? ⟨gb210, 4, none⟩ = some (.int .i64 a0_4) := (blk_cell BK210.out 4).trans rfl; have hcz32_5 : w29.cell? ⟨gb210, 5, none⟩ = some (.int .i64 a0_5) := (blk_cell BK210.out 5).trans rfl; have hcz32_6 : w29.cell? ⟨gb210, 6, none⟩ = some (.int .i64 a0_6) := (blk_cell BK210.out 6).trans rfl; have hfz32_0 := blk_frozen BK210.out 0; have hfz32_1 := blk_frozen BK210.out 1; have hfz32_2 := blk_frozen BK210.out 2; have hfz32_3 := blk_frozen BK210.out 3; have hfz32_4 := blk_frozen BK210.out 4; have hfz32_5 := blk_frozen BK210.out 5; have hfz32_6 := blk_frozen BK210.out 6))
         go_ret
         exact ⟨ez, bs⟩
        ·replace c27 := Bool.eq_false_iff.mpr c27
         subst c27
         rw [if_neg (show ¬ (false = true) by decide)] at H
         obtain rfl := Option.some.inj H
         have hcz33_0 : wc.cell? ⟨gb210, 0, none⟩ = some (.slice A0_0 l0_0.length c0_0) := (blk_cell BK210.out 0).trans rfl
         have hcz33_1 : wc.cell? ⟨gb210, 1, none⟩ = some (.int .i64 a0_1) := (blk_cell BK210.out 1).trans rfl
         have hcz33_2 : wc.cell? ⟨gb210, 2, none⟩ = some (.int .i64 a0_2) := (blk_cell BK210.out 2).trans rfl
         have hcz33_3 : wc.cell? ⟨gb210, 3, none⟩ = some (.int .i64 a0_3) := (blk_cell BK210.out 3).trans rfl
         have hcz33_4 : wc.cell? ⟨gb210, 4, none⟩ = some (.int .i64 a0_4) := (blk_cell BK210.out 4).trans rfl
         have hcz33_5 : wc.cell? ⟨gb210, 5, none⟩ = some (.int .i64 a0_5) := (blk_cell BK210.out 5).trans rfl
         have hcz33_6 : wc.cell? ⟨gb210, 6, none⟩ = some (.int .i64 a0_6) := (blk_cell BK210.out 6).trans rfl
         have hfz33_0 := blk_frozen BK210.out 0
         have hfz33_1 := blk_frozen BK210.out 1
         have hfz33_2 := blk_frozen BK210.out 2
         have hfz33_3 := blk_frozen BK210.out 3
         have hfz33_4 := blk_frozen BK210.out 4
         have hfz33_5 := blk_frozen BK210.out 5
         have hfz33_6 := blk_frozen BK210.out 6
         go_wp2_with (first | ((with_reducible refine gate_dst (N := 27) rfl ?_); refine Kd.R_lit (Kd.int .i64) _ 3 ?hg (N := 27) ?hd (xs := ([26, 29, 42] : List Int)) (inner := [.int .i64 26, .int .i64 29, .int .i64 42]) (ok := fun _ => True) (okp := fun _ => True) ?hr ?hp (fun _ hk => hk) trivial (Below.refl _ _) (Nat.le_refl _) (by simp) ?_; (case hd => rfl); (case hg => rfl); (case hr => first | (go_simp; done) | (go_simp; rfl)); (case hp => exact (Reps.one (show Kd.M (Kd.int .i64) _ _ _ 26 [.int .i64 26] from rfl) (Reps.one (show Kd.M (Kd.int .i64) _ _ _ 29 [.int .i64 29] from rfl) (Reps.one (show Kd.M (Kd.int .i64) _ _ _ 42 [.int .i64 42] from rfl) (Reps.none _ _))))); intro v224 w34 ho35 hb hg_ hnew_; clear hg_ hnew_; (first | rw [← Ny223.out] at ho35 | (simp only [Int.reduceToNat] at ho35; rw [← Ny223.out] at ho35)); have n0_ := Aside0.mk (Kd.R_lower ho35 (below_size bs)); have n1_ := Aside0.mk (blk_below (g := gb210) (o := .cells #[.slice A0_0 l0_0.length c0_0, .int .i64 a0_1, .int .i64 a0_2, .int .i64 a0_3, .int .i64 a0_4, .int .i64 a0_5, .int .i64 a0_6] 74 (0, 0)) kz hb); have n2_ := Aside0.mk (below_step bs hb); clear BK210; clear HB; have HO225 := n0_; have BK210 := n1_; have HB := n2_; clear n0_ n1_ n2_; clear hb ho35; obtain ⟨Ao36, co36, eo36⟩ := Kd.R_slice HO225.out; subst eo36) | ((with_reducible refine gate_callee (f := 42) rfl ?_); refine goesL_ (some 28) rfl rfl Try.func42 (by kernel_rfl) rfl #[.int .i64 a0_3, .slice Ao36 y223.length co36] rfl mz ?_; (with_reducible refine (spec_among.calls kj17 a0_3 _ _ y223 false _ ?side1 ?side2 A26.out).mono ?_); (case side1 => repeat (first | exact (Kd.R_reads' HO225.out).2.2 | (with_reducible refine Kd.C_alloc ?_ _) | (with_reducible refine Kd.C_drewN ?_ _) | (with_reducible refine Kd.C_drew ?_))); (case side2 => exact (Kd.R_reads' HO225.out).2.1); rintro e w' ⟨rfl, ⟨nd, rfl⟩⟩; refine ⟨_, rfl, ?_⟩))
         go_ret
         exact ⟨ez, bs⟩

end Go.Proofs.Ytnanfoahimccpaa.Ln
