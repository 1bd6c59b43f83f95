/- Functions of the translation as Lean functions, and their walks: lines written by a program, a turned copy of the kit's print. -/
import Derived.Test.YtnanfoahimccpaaLnx0
import Derived.Test.YtnanfoahimccpaaLnx1
namespace Go.Proofs.Ytnanfoahimccpaa.Ln
open Go.RowKit Go.Proofs.YtnanfoahimccpaaW.PrintWords Go.Proofs.YtnanfoahimccpaaW.PrintLast Go.Proofs.YtnanfoahimccpaaW.PrintMore
attribute [local go_sem] max2_int max_two
set_option linter.unusedVariables false
set_option linter.unusedSimpArgs false

def spec_lbSpaced.j0 : Nat → Bool → List (S64) → Int → Int → Int → Int → Int → Int → Option (Bool)
 | 0, _, _, _, _, _, _, _, _ => none
 | k + 1, x10, x348000, x348001, x348002, x348003, x348004, x348005, x348006 => if x10 = true then (some false) else (if x348006 = 38 then (some (x348004 == 35)) else (if x348006 = 18 then (some (x348004 == 33)) else (if x348006 = 19 then (some (x348004 == 33)) else (if x348006 = 13 then (some (x348004 == 13)) else (some false)))))
def spec_lbSpaced.f (k : Nat) (l0_0 : List (S64)) (a0_1 : Int) (a0_2 : Int) (a0_3 : Int) (a0_4 : Int) (a0_5 : Int) (a0_6 : Int) : Option (Bool) := if a0_3 = 7 then (spec_lbSpaced.j0 k (a0_2 != 7) l0_0 a0_1 a0_2 a0_3 a0_4 a0_5 a0_6) else (spec_lbSpaced.j0 k true l0_0 a0_1 a0_2 a0_3 a0_4 a0_5 a0_6)
set_option maxHeartbeats 8000000 in
set_option maxRecDepth 100000 in
theorem spec_lbSpaced.calls (k : Nat) (A0_0 : Option Addr) (c0_0 : Nat) (l0_0 : List (S64)) (a0_1 : Int) (a0_2 : Int) (a0_3 : Int) (a0_4 : Int) (a0_5 : Int) (a0_6 : Int) (r : Bool) (w : World) (hr0_0 : Kd.C k64 w A0_0 l0_0.length l0_0) (hc0_0 : l0_0.length ≤ c0_0) (h : spec_lbSpaced.f k l0_0 a0_1 a0_2 a0_3 a0_4 a0_5 a0_6 = some r) :
  Calls Try.prog 73 #[.agg #[.slice A0_0 l0_0.length c0_0, .int .i64 a0_1, .int .i64 a0_2, .int .i64 a0_3, .int .i64 a0_4, .int .i64 a0_5, .int .i64 a0_6]] w fun e w' => e = .returned (.bool r) ∧ Below w.heap.size w w' := by
 have hu74 := Try.underlying74
 have HR0_0 := Aside0.mk hr0_0
 have HC0_0 := Aside0.mk hc0_0
 clear hr0_0 hc0_0
 have HB := Aside0.mk (Below.refl w.heap.size w)
 have H : (if a0_3 = 7 then (spec_lbSpaced.j0 k (a0_2 != 7) l0_0 a0_1 a0_2 a0_3 a0_4 a0_5 a0_6) else (spec_lbSpaced.j0 k true l0_0 a0_1 a0_2 a0_3 a0_4 a0_5 a0_6)) = some r := h
 clear h
 have HC2 := Aside0.mk H
 clear H
 go_enter Try.func73, Try.ntmps73
 go_upto_region 1 with (first | ((with_reducible refine gate_dst (N := 1) rfl ?_); refine box_event ?hg (N := 1) ?hd (cs := #[.slice A0_0 l0_0.length c0_0, .int .i64 a0_1, .int .i64 a0_2, .int .i64 a0_3, .int .i64 a0_4, .int .i64 a0_5, .int .i64 a0_6]) (t := 74) ?hr ?_; (case hd => rfl); (case hg => rfl); (case hr => first | (go_simp; done) | (go_simp; rfl)); intro gb347 hg w3 hbox hb; have n0_ := Aside0.mk (below_step bz hb); have n1_ := Aside0.mk (hbox); have n2_ := Aside0.mk ((by rw [hg]; exact (below_size bz) : w.heap.size ≤ gb347)); have n3_ := Aside0.mk ((by rw [hg]; exact (below_size bz) : w.heap.size ≤ gb347)); clear HB; have HB := n0_; have BK347 := n1_; have GW347 := n2_; have GE347 := n3_; clear n0_ n1_ n2_ n3_; clear hb hbox hg))
 (try simp only [Act.put, List.setIfInBounds_toArray, List.set_cons_zero, List.set_cons_succ])
 go_cut [10] (fun v10 wc => ∃ (kq : Nat) (x10_1 : Bool), v10 = .bool x10_1 ∧ Aside0 (spec_lbSpaced.j0 kq x10_1 l0_0 a0_1 a0_2 a0_3 a0_4 a0_5 a0_6 = some r) ∧ Aside0 (kq ≤ k) ∧ Aside0 (wc.heap[gb347]? = some (.cells #[(.slice A0_0 l0_0.length c0_0), .int .i64 a0_1, .int .i64 a0_2, .int .i64 a0_3, .int .i64 a0_4, .int .i64 a0_5, .int .i64 a0_6] 74 (0, 0))) ∧ Aside0 (Below w.heap.size w wc))
 case first =>
  have H := HC2.out
  clear HC2
  by_cases c4 : a0_3 = 7
  ·rw [if_pos c4] at H
   have c4b0 : (a0_3 == 7) = true := beq_iff_eq.mpr c4
   have c4b1 : (a0_3 != 7) = false := bne_eq_false_iff_eq.mpr c4
   clear c4
   (first | rw [c4b0] | (simp only [i64_w]; rw [c4b0]) | skip)
   have H' := Aside0.mk H
   clear H
   have hcz5_0 : w3.cell? ⟨gb347, 0, none⟩ = some (.slice A0_0 l0_0.length c0_0) := (blk_cell BK347.out 0).trans rfl
   have hcz5_1 : w3.cell? ⟨gb347, 1, none⟩ = some (.int .i64 a0_1) := (blk_cell BK347.out 1).trans rfl
   have hcz5_2 : w3.cell? ⟨gb347, 2, none⟩ = some (.int .i64 a0_2) := (blk_cell BK347.out 2).trans rfl
   have hcz5_3 : w3.cell? ⟨gb347, 3, none⟩ = some (.int .i64 a0_3) := (blk_cell BK347.out 3).trans rfl
   have hcz5_4 : w3.cell? ⟨gb347, 4, none⟩ = some (.int .i64 a0_4) := (blk_cell BK347.out 4).trans rfl
   have hcz5_5 : w3.cell? ⟨gb347, 5, none⟩ = some (.int .i64 a0_5) := (blk_cell BK347.out 5).trans rfl
   have hcz5_6 : w3.cell? ⟨gb347, 6, none⟩ = some (.int .i64 a0_6) := (blk_cell BK347.out 6).trans rfl
   have hfz5_0 := blk_frozen BK347.out 0
   have hfz5_1 := blk_frozen BK347.out 1
   have hfz5_2 := blk_frozen BK347.out 2
   have hfz5_3 := blk_frozen BK347.out 3
   have hfz5_4 := blk_frozen BK347.out 4
   have hfz5_5 := blk_frozen BK347.out 5
   have hfz5_6 := blk_frozen BK347.out 6
   go_wp2
   go_meet
   case rel => exact ⟨_, ((a0_2 != 7)), vz, H', ⟨by first | omega | exact Nat.le_refl _⟩, ⟨kz⟩, ⟨bs⟩⟩
  ·rw [if_neg c4] at H
   have c4b0 : (a0_3 == 7) = false := beq_eq_false_iff_ne.mpr c4
   have c4b1 : (a0_3 != 7) = true := bne_iff_ne.mpr c4
   (first | rw [c4b0] | (simp only [i64_w]; rw [c4b0]) | skip)
   have H' := Aside0.mk H
   clear H
   have hcz6_0 : w3.cell? ⟨gb347, 0, none⟩ = some (.slice A0_0 l0_0.length c0_0) := (blk_cell BK347.out 0).trans rfl
   have hcz6_1 : w3.cell? ⟨gb347, 1, none⟩ = some (.int .i64 a0_1) := (blk_cell BK347.out 1).trans rfl
   have hcz6_2 : w3.cell? ⟨gb347, 2, none⟩ = some (.int .i64 a0_2) := (blk_cell BK347.out 2).trans rfl
   have hcz6_3 : w3.cell? ⟨gb347, 3, none⟩ = some (.int .i64 a0_3) := (blk_cell BK347.out 3).trans rfl
   have hcz6_4 : w3.cell? ⟨gb347, 4, none⟩ = some (.int .i64 a0_4) := (blk_cell BK347.out 4).trans rfl
   have hcz6_5 : w3.cell? ⟨gb347, 5, none⟩ = some (.int .i64 a0_5) := (blk_cell BK347.out 5).trans rfl
   have hcz6_6 : w3.cell? ⟨gb347, 6, none⟩ = some (.int .i64 a0_6) := (blk_cell BK347.out 6).trans rfl
   have hfz6_0 := blk_frozen BK347.out 0
   have hfz6_1 := blk_frozen BK347.out 1
   have hfz6_2 := blk_frozen BK347.out 2
   have hfz6_3 := blk_frozen BK347.out 3
   have hfz6_4 := blk_frozen BK347.out 4
   have hfz6_5 := blk_frozen BK347.out 5
   have hfz6_6 := blk_frozen BK347.out 6
   go_wp2
   go_meet
   case rel => exact ⟨_, (true), vz, H', ⟨by first | omega | exact Nat.le_refl _⟩, ⟨kz⟩, ⟨bs⟩⟩
 case rest =>
  clear HC2
  obtain ⟨kq, x10_1, rfl, HA, HJ1, BK347, HB⟩ := hcut
  cases kq with
  | zero => exact absurd HA.out (by simp [spec_lbSpaced.j0])
  | succ kj1 =>
   have H := HA.out
   clear HA
   simp only [spec_lbSpaced.j0] at H
   by_cases c7 : x10_1 = true
   ·subst c7
    rw [if_pos rfl] at H
    obtain rfl := Option.some.inj H
    go_wp2
    go_ret
    exact ⟨ez, bs⟩
   ·replace c7 := Bool.eq_false_iff.mpr c7
    subst c7
    rw [if_neg (show ¬ (false = true) by decide)] at H
    by_cases c8 : a0_6 = 38
    ·rw [if_pos c8] at H
     have c8b0 : (a0_6 == 38) = true := beq_iff_eq.mpr c8
     have c8b1 : (a0_6 != 38) = false := bne_eq_false_iff_eq.mpr c8
     clear c8
     obtain rfl := Option.some.inj H
     have hcz9_0 : wc.cell? ⟨gb347, 0, none⟩ = some (.slice A0_0 l0_0.length c0_0) := (blk_cell BK347.out 0).trans rfl
     have hcz9_1 : wc.cell? ⟨gb347, 1, none⟩ = some (.int .i64 a0_1) := (blk_cell BK347.out 1).trans rfl
     have hcz9_2 : wc.cell? ⟨gb347, 2, none⟩ = some (.int .i64 a0_2) := (blk_cell BK347.out 2).trans rfl
     have hcz9_3 : wc.cell? ⟨gb347, 3, none⟩ = some (.int .i64 a0_3) := (blk_cell BK347.out 3).trans rfl
     have hcz9_4 : wc.cell? ⟨gb347, 4, none⟩ = some (.int .i64 a0_4) := (blk_cell BK347.out 4).trans rfl
     have hcz9_5 : wc.cell? ⟨gb347, 5, none⟩ = some (.int .i64 a0_5) := (blk_cell BK347.out 5).trans rfl
     have hcz9_6 : wc.cell? ⟨gb347, 6, none⟩ = some (.int .i64 a0_6) := (blk_cell BK347.out 6).trans rfl
     have hfz9_0 := blk_frozen BK347.out 0
     have hfz9_1 := blk_frozen BK347.out 1
     have hfz9_2 := blk_frozen BK347.out 2
     have hfz9_3 := blk_frozen BK347.out 3
     have hfz9_4 := blk_frozen BK347.out 4
     have hfz9_5 := blk_frozen BK347.out 5
     have hfz9_6 := blk_frozen BK347.out 6
     go_wp2
     go_ret
     exact ⟨ez, bs⟩
    ·rw [if_neg c8] at H
     have c8b0 : (a0_6 == 38) = false := beq_eq_false_iff_ne.mpr c8
     have c8b1 : (a0_6 != 38) = true := bne_iff_ne.mpr c8
     by_cases c10 : a0_6 = 18
     ·rw [if_pos c10] at H
      have c10b0 : (a0_6 == 18) = true := beq_iff_eq.mpr c10
      have c10b1 : (a0_6 != 18) = false := bne_eq_false_iff_eq.mpr c10
      clear c10
      obtain rfl := Option.some.inj H
      have hcz11_0 : wc.cell? ⟨gb347, 0, none⟩ = some (.slice A0_0 l0_0.length c0_0) := (blk_cell BK347.out 0).trans rfl
      have hcz11_1 : wc.cell? ⟨gb347, 1, none⟩ = some (.int .i64 a0_1) := (blk_cell BK347.out 1).trans rfl
      have hcz11_2 : wc.cell? ⟨gb347, 2, none⟩ = some (.int .i64 a0_2) := (blk_cell BK347.out 2).trans rfl
      have hcz11_3 : wc.cell? ⟨gb347, 3, none⟩ = some (.int .i64 a0_3) := (blk_cell BK347.out 3).trans rfl
      have hcz11_4 : wc.cell? ⟨gb347, 4, none⟩ = some (.int .i64 a0_4) := (blk_cell BK347.out 4).trans rfl
      have hcz11_5 : wc.cell? ⟨gb347, 5, none⟩ = some (.int .i64 a0_5) := (blk_cell BK347.out 5).trans rfl
      have hcz11_6 : wc.cell? ⟨gb347, 6, none⟩ = some (.int .i64 a0_6) := (blk_cell BK347.out 6).trans rfl
      have hfz11_0 := blk_frozen BK347.out 0
      have hfz11_1 := blk_frozen BK347.out 1
      have hfz11_2 := blk_frozen BK347.out 2
      have hfz11_3 := blk_frozen BK347.out 3
      have hfz11_4 := blk_frozen BK347.out 4
      have hfz11_5 := blk_frozen BK347.out 5
      have hfz11_6 := blk_frozen BK347.out 6
      go_wp2
      go_ret
      exact ⟨ez, bs⟩
     ·rw [if_neg c10] at H
      have c10b0 : (a0_6 == 18) = false := beq_eq_false_iff_ne.mpr c10
      have c10b1 : (a0_6 != 18) = true := bne_iff_ne.mpr c10
      by_cases c12 : a0_6 = 19
      ·rw [if_pos c12] at H
       have c12b0 : (a0_6 == 19) = true := beq_iff_eq.mpr c12
       have c12b1 : (a0_6 != 19) = false := bne_eq_false_iff_eq.mpr c12
       clear c12
       obtain rfl := Option.some.inj H
       have hcz13_0 : wc.cell? ⟨gb347, 0, none⟩ = some (.slice A0_0 l0_0.length c0_0) := (blk_cell BK347.out 0).trans rfl
       have hcz13_1 : wc.cell? ⟨gb347, 1, none⟩ = some (.int .i64 a0_1) := (blk_cell BK347.out 1).trans rfl
       have hcz13_2 : wc.cell? ⟨gb347, 2, none⟩ = some (.int .i64 a0_2) := (blk_cell BK347.out 2).trans rfl
       have hcz13_3 : wc.cell? ⟨gb347, 3, none⟩ = some (.int .i64 a0_3) := (blk_cell BK347.out 3).trans rfl
       have hcz13_4 : wc.cell? ⟨gb347, 4, none⟩ = some (.int .i64 a0_4) := (blk_cell BK347.out 4).trans rfl
       have hcz13_5 : wc.cell? ⟨gb347, 5, none⟩ = some (.int .i64 a0_5) := (blk_cell BK347.out 5).trans rfl
       have hcz13_6 : wc.cell? ⟨gb347, 6, none⟩ = some (.int .i64 a0_6) := (blk_cell BK347.out 6).trans rfl
       have hfz13_0 := blk_frozen BK347.out 0
       have hfz13_1 := blk_frozen BK347.out 1
       have hfz13_2 := blk_frozen BK347.out 2
       have hfz13_3 := blk_frozen BK347.out 3
       have hfz13_4 := blk_frozen BK347.out 4
       have hfz13_5 := blk_frozen BK347.out 5
       have hfz13_6 := blk_frozen BK347.out 6
       go_wp2
       go_ret
       exact ⟨ez, bs⟩
      ·rw [if_neg c12] at H
       have c12b0 : (a0_6 == 19) = false := beq_eq_false_iff_ne.mpr c12
       have c12b1 : (a0_6 != 19) = true := bne_iff_ne.mpr c12
       by_cases c14 : a0_6 = 13
       ·rw [if_pos c14] at H
        have c14b0 : (a0_6 == 13) = true := beq_iff_eq.mpr c14
        have c14b1 : (a0_6 != 13) = false := bne_eq_false_iff_eq.mpr c14
        clear c14
        obtain rfl := Option.some.inj H
        have hcz15_0 : wc.cell? ⟨gb347, 0, none⟩ = some (.slice A0_0 l0_0.length c0_0) := (blk_cell BK347.out 0).trans rfl
        have hcz15_1 : wc.cell? ⟨gb347, 1, none⟩ = some (.int .i64 a0_1) := (blk_cell BK347.out 1).trans rfl
        have hcz15_2 : wc.cell? ⟨gb347, 2, none⟩ = some (.int .i64 a0_2) := (blk_cell BK347.out 2).trans rfl
        have hcz15_3 : wc.cell? ⟨gb347, 3, none⟩ = some (.int .i64 a0_3) := (blk_cell BK347.out 3).trans rfl
        have hcz15_4 : wc.cell? ⟨gb347, 4, none⟩ = some (.int .i64 a0_4) := (blk_cell BK347.out 4).trans rfl
        have hcz15_5 : wc.cell? ⟨gb347, 5, none⟩ = some (.int .i64 a0_5) := (blk_cell BK347.out 5).trans rfl
        have hcz15_6 : wc.cell? ⟨gb347, 6, none⟩ = some (.int .i64 a0_6) := (blk_cell BK347.out 6).trans rfl
        have hfz15_0 := blk_frozen BK347.out 0
        have hfz15_1 := blk_frozen BK347.out 1
        have hfz15_2 := blk_frozen BK347.out 2
        have hfz15_3 := blk_frozen BK347.out 3
        have hfz15_4 := blk_frozen BK347.out 4
        have hfz15_5 := blk_frozen BK347.out 5
        have hfz15_6 := blk_frozen BK347.out 6
        go_wp2
        go_ret
        exact ⟨ez, bs⟩
       ·rw [if_neg c14] at H
        have c14b0 : (a0_6 == 13) = false := beq_eq_false_iff_ne.mpr c14
        have c14b1 : (a0_6 != 13) = true := bne_iff_ne.mpr c14
        obtain rfl := Option.some.inj H
        have hcz16_0 : wc.cell? ⟨gb347, 0, none⟩ = some (.slice A0_0 l0_0.length c0_0) := (blk_cell BK347.out 0).trans rfl
        have hcz16_1 : wc.cell? ⟨gb347, 1, none⟩ = some (.int .i64 a0_1) := (blk_cell BK347.out 1).trans rfl
        have hcz16_2 : wc.cell? ⟨gb347, 2, none⟩ = some (.int .i64 a0_2) := (blk_cell BK347.out 2).trans rfl
        have hcz16_3 : wc.cell? ⟨gb347, 3, none⟩ = some (.int .i64 a0_3) := (blk_cell BK347.out 3).trans rfl
        have hcz16_4 : wc.cell? ⟨gb347, 4, none⟩ = some (.int .i64 a0_4) := (blk_cell BK347.out 4).trans rfl
        have hcz16_5 : wc.cell? ⟨gb347, 5, none⟩ = some (.int .i64 a0_5) := (blk_cell BK347.out 5).trans rfl
        have hcz16_6 : wc.cell? ⟨gb347, 6, none⟩ = some (.int .i64 a0_6) := (blk_cell BK347.out 6).trans rfl
        have hfz16_0 := blk_frozen BK347.out 0
        have hfz16_1 := blk_frozen BK347.out 1
        have hfz16_2 := blk_frozen BK347.out 2
        have hfz16_3 := blk_frozen BK347.out 3
        have hfz16_4 := blk_frozen BK347.out 4
        have hfz16_5 := blk_frozen BK347.out 5
        have hfz16_6 := blk_frozen BK347.out 6
        go_wp2
        go_ret
        exact ⟨ez, bs⟩

def spec_lbMarked.f (k : Nat) (l0_0 : List (S64)) (a0_1 : Int) (a0_2 : Int) (a0_3 : Int) (a0_4 : Int) (a0_5 : Int) (a0_6 : Int) (l1 : List (S64)) (a2 : Int) : Option (Bool) := (spec_among.f k a0_3 (([37, 36] : List Int))).bind fun t352 => (if t352 = true then (if a0_4 = 35 then (if (wrap64 (a2 + 1)) < (l1.length : Int) then (if 0 ≤ (wrap64 (a2 + 1)) then ((spec_lbResolved.f k ((rd_T64 l1 (wrap64 (a2 + 1))).f0) ((rd_T64 l1 (wrap64 (a2 + 1))).f1) ((rd_T64 l1 (wrap64 (a2 + 1))).f2) ((rd_T64 l1 (wrap64 (a2 + 1))).f3)).bind fun t354 => ((spec_lbMark.f k t354).bind fun t355 => (some t355))) else (none)) else (some false)) else (some false)) else (some false))
set_option maxHeartbeats 8000000 in
set_option maxRecDepth 100000 in
theorem spec_lbMarked.calls (k : Nat) (A0_0 : Option Addr) (c0_0 : Nat) (l0_0 : List (S64)) (a0_1 : Int) (a0_2 : Int) (a0_3 : Int) (a0_4 : Int) (a0_5 : Int) (a0_6 : Int) (A1 : Option Addr) (c1 : Nat) (l1 : List (S64)) (a2 : Int) (r : Bool) (w : World) (hr0_0 : Kd.C k64 w A0_0 l0_0.length l0_0) (hc0_0 : l0_0.length ≤ c0_0) (hr1 : Kd.C k64 w A1 l1.length l1) (hc1 : l1.length ≤ c1) (h : spec_lbMarked.f k l0_0 a0_1 a0_2 a0_3 a0_4 a0_5 a0_6 l1 a2 = some r) :
  Calls Try.prog 74 #[.agg #[.slice A0_0 l0_0.length c0_0, .int .i64 a0_1, .int .i64 a0_2, .int .i64 a0_3, .int .i64 a0_4, .int .i64 a0_5, .int .i64 a0_6], .slice A1 l1.length c1, .int .i64 a2] w fun e w' => e = .returned (.bool r) ∧ Below w.heap.size w w' := by
 have hu74 := Try.underlying74
 have hu64 := Try.underlying64
 have HR0_0 := Aside0.mk hr0_0
 have HC0_0 := Aside0.mk hc0_0
 clear hr0_0 hc0_0
 have HR1 := Aside0.mk hr1
 have HC1 := Aside0.mk hc1
 clear hr1 hc1
 have HB := Aside0.mk (Below.refl w.heap.size w)
 have H : ((spec_among.f k a0_3 (([37, 36] : List Int))).bind fun t352 => (if t352 = true then (if a0_4 = 35 then (if (wrap64 (a2 + 1)) < (l1.length : Int) then (if 0 ≤ (wrap64 (a2 + 1)) then ((spec_lbResolved.f k ((rd_T64 l1 (wrap64 (a2 + 1))).f0) ((rd_T64 l1 (wrap64 (a2 + 1))).f1) ((rd_T64 l1 (wrap64 (a2 + 1))).f2) ((rd_T64 l1 (wrap64 (a2 + 1))).f3)).bind fun t354 => ((spec_lbMark.f k t354).bind fun t355 => (some t355))) else (none)) else (some false)) else (some false)) else (some false))) = some r := h
 clear h
 obtain ⟨y349, hy349⟩ : ∃ y_ : List Int, y_ = (([37, 36] : List Int)) := ⟨_, rfl⟩
 first | rw [← hy349] at H | simp only [← hy349] at H
 have Ny349 := Aside0.mk hy349
 clear hy349
 replace H := Option.bind_eq_some_iff.mp H
 obtain ⟨t352, A40, H⟩ := H
 try dsimp only at H
 have A4 := Aside0.mk A40
 clear A40
 by_cases c5 : t352 = true
 ·subst c5
  rw [if_pos rfl] at H
  by_cases c6 : a0_4 = 35
  ·rw [if_pos c6] at H
   have c6b0 : (a0_4 == 35) = true := beq_iff_eq.mpr c6
   have c6b1 : (a0_4 != 35) = false := bne_eq_false_iff_eq.mpr c6
   clear c6
   by_cases c7 : (wrap64 (a2 + 1)) < (l1.length : Int)
   ·rw [if_pos c7] at H
    have c7b0 : decide ((wrap64 (a2 + 1)) < (l1.length : Int)) = true := decide_eq_true c7
    clear c7
    obtain ⟨ji8, hji8⟩ : ∃ j_ : Int, (wrap64 (a2 + 1)) = j_ := ⟨_, rfl⟩
    first | rw [hji8] at H | simp only [hji8] at H
    (try rw [hji8] at c7b0)
    (try rw [hji8] at A4)
    have hji8w : (IntKind.i64.wrap (a2 + 1)) = ji8 := (i64_w _).trans hji8
    by_cases c9 : 0 ≤ (ji8)
    ·rw [if_pos c9] at H
     have c9b0 : decide (0 ≤ (ji8)) = true := decide_eq_true c9
     clear c9
     replace H := Option.bind_eq_some_iff.mp H
     obtain ⟨t354, A100, H⟩ := H
     try dsimp only at H
     have A10 := Aside0.mk A100
     clear A100
     replace H := Option.bind_eq_some_iff.mp H
     obtain ⟨t355, A110, H⟩ := H
     try dsimp only at H
     have A11 := Aside0.mk A110
     clear A110
     obtain rfl := Option.some.inj H
     go_enter Try.func74, Try.ntmps74
     go_wp2_with (first | ((with_reducible refine gate_dst (N := 3) rfl ?_); (try (refine gate_guard (by rfl) ?_; dsimp only)); refine box_event ?hg (N := 3) ?hd (cs := #[.slice A0_0 l0_0.length c0_0, .int .i64 a0_1, .int .i64 a0_2, .int .i64 a0_3, .int .i64 a0_4, .int .i64 a0_5, .int .i64 a0_6]) (t := 74) ?hr ?_; (case hd => rfl); (case hg => rfl); (case hr => first | (go_simp; done) | (go_simp; rfl)); intro gb348 hg w12 hbox hb; have n0_ := Aside0.mk (below_step bz hb); have n1_ := Aside0.mk (hbox); have n2_ := Aside0.mk ((by rw [hg]; exact (below_size bz) : w.heap.size ≤ gb348)); have n3_ := Aside0.mk ((by rw [hg]; exact (below_size bz) : w.heap.size ≤ gb348)); clear HB; have HB := n0_; have BK348 := n1_; have GW348 := n2_; have GE348 := n3_; clear n0_ n1_ n2_ n3_; clear hb hbox hg; have hcz13_0 : w12.cell? ⟨gb348, 0, none⟩ = some (.slice A0_0 l0_0.length c0_0) := (blk_cell BK348.out 0).trans rfl; have hcz13_1 : w12.cell? ⟨gb348, 1, none⟩ = some (.int .i64 a0_1) := (blk_cell BK348.out 1).trans rfl; have hcz13_2 : w12.cell? ⟨gb348, 2, none⟩ = some (.int .i64 a0_2) := (blk_cell BK348.out 2).trans rfl; have hcz13_3 : w12.cell? ⟨gb348, 3, none⟩ = some (.int .i64 a0_3) := (blk_cell BK348.out 3).trans rfl; have hcz13_4 : w12.cell? ⟨gb348, 4, none⟩ = some (.int .i64 a0_4) := (blk_cell BK348.out 4).trans rfl; have hcz13_5 : w12.cell? ⟨gb348, 5, none⟩ = some (.int .i64 a0_5) := (blk_cell BK348.out 5).trans rfl; have hcz13_6 : w12.cell? ⟨gb348, 6, none⟩ = some (.int .i64 a0_6) := (blk_cell BK348.out 6).trans rfl; have hfz13_0 := blk_frozen BK348.out 0; have hfz13_1 := blk_frozen BK348.out 1; have hfz13_2 := blk_frozen BK348.out 2; have hfz13_3 := blk_frozen BK348.out 3; have hfz13_4 := blk_frozen BK348.out 4; have hfz13_5 := blk_frozen BK348.out 5; have hfz13_6 := blk_frozen BK348.out 6) | ((with_reducible refine gate_dst (N := 9) rfl ?_); (try (refine gate_guard (by rfl) ?_; dsimp only)); refine Kd.R_lit (Kd.int .i64) _ 3 ?hg (N := 9) ?hd (xs := ([37, 36] : List Int)) (inner := [.int .i64 37, .int .i64 36]) (ok := fun _ => True) (okp := fun _ => True) ?hr ?hp (fun _ hk => hk) trivial (Below.refl _ _) (Nat.le_refl _) (by simp) ?_; (case hd => rfl); (case hg => rfl); (case hr => first | (go_simp; done) | (go_simp; rfl)); (case hp => exact (Reps.one (show Kd.M (Kd.int .i64) _ _ _ 37 [.int .i64 37] from rfl) (Reps.one (show Kd.M (Kd.int .i64) _ _ _ 36 [.int .i64 36] from rfl) (Reps.none _ _)))); intro v350 w14 ho15 hb hg_ hnew_; clear hg_ hnew_; (first | rw [← Ny349.out] at ho15 | (simp only [Int.reduceToNat] at ho15; rw [← Ny349.out] at ho15)); have n0_ := Aside0.mk (Kd.R_lower ho15 (below_size bs)); have n1_ := Aside0.mk (blk_below (g := gb348) (o := .cells #[.slice A0_0 l0_0.length c0_0, .int .i64 a0_1, .int .i64 a0_2, .int .i64 a0_3, .int .i64 a0_4, .int .i64 a0_5, .int .i64 a0_6] 74 (0, 0)) kz hb); have n2_ := Aside0.mk (below_step bs hb); clear BK348; clear HB; have HO351 := n0_; have BK348 := n1_; have HB := n2_; clear n0_ n1_ n2_; clear hb ho15; obtain ⟨Ao16, co16, eo16⟩ := Kd.R_slice HO351.out; subst eo16) | ((with_reducible refine gate_callee (f := 42) rfl ?_); refine goesL_ (some 10) rfl rfl Try.func42 (by kernel_rfl) rfl #[.int .i64 a0_3, .slice Ao16 y349.length co16] rfl mz ?_; (with_reducible refine (spec_among.calls k a0_3 _ _ y349 true _ ?side1 ?side2 A4.out).mono ?_); (case side1 => repeat (first | exact (Kd.R_reads' HO351.out).2.2 | (with_reducible refine Kd.C_alloc ?_ _) | (with_reducible refine Kd.C_drewN ?_ _) | (with_reducible refine Kd.C_drew ?_))); (case side2 => exact (Kd.R_reads' HO351.out).2.1); rintro e w' ⟨rfl, ⟨nd, rfl⟩⟩; refine ⟨_, rfl, ?_⟩; have hcz17_0 : w14.cell? ⟨gb348, 0, none⟩ = some (.slice A0_0 l0_0.length c0_0) := (blk_cell BK348.out 0).trans rfl; have hcz17_1 : w14.cell? ⟨gb348, 1, none⟩ = some (.int .i64 a0_1) := (blk_cell BK348.out 1).trans rfl; have hcz17_2 : w14.cell? ⟨gb348, 2, none⟩ = some (.int .i64 a0_2) := (blk_cell BK348.out 2).trans rfl; have hcz17_3 : w14.cell? ⟨gb348, 3, none⟩ = some (.int .i64 a0_3) := (blk_cell BK348.out 3).trans rfl; have hcz17_4 : w14.cell? ⟨gb348, 4, none⟩ = some (.int .i64 a0_4) := (blk_cell BK348.out 4).trans rfl; have hcz17_5 : w14.cell? ⟨gb348, 5, none⟩ = some (.int .i64 a0_5) := (blk_cell BK348.out 5).trans rfl; have hcz17_6 : w14.cell? ⟨gb348, 6, none⟩ = some (.int .i64 a0_6) := (blk_cell BK348.out 6).trans rfl; have hfz17_0 := blk_frozen BK348.out 0; have hfz17_1 := blk_frozen BK348.out 1; have hfz17_2 := blk_frozen BK348.out 2; have hfz17_3 := blk_frozen BK348.out 3; have hfz17_4 := blk_frozen BK348.out 4; have hfz17_5 := blk_frozen BK348.out 5; have hfz17_6 := blk_frozen BK348.out 6; have p353 : 0 ≤ ((ji8) : Int) := of_decide_eq_true az; have q353 : (ji8) < (l1.length : Int) := of_decide_eq_true az; obtain ⟨ad353, e353, hx353_0, hx353_1, hx353_2, hx353_3⟩ := at_T64 HR1.out (ji8) p353 q353; cases e353; replace hx353_0 := (HB.out.cell (World.block_lt_of_cell? w _ hx353_0)).trans hx353_0; replace hx353_1 := (HB.out.cell (World.block_lt_of_cell? w _ hx353_1)).trans hx353_1; replace hx353_2 := (HB.out.cell (World.block_lt_of_cell? w _ hx353_2)).trans hx353_2; replace hx353_3 := (HB.out.cell (World.block_lt_of_cell? w _ hx353_3)).trans hx353_3; replace p353 := eq_true p353; replace q353 := eq_true q353) | (go_at_call 76; (with_reducible refine (spec_lbResolved.calls k ((rd_T64 l1 (ji8)).f0) ((rd_T64 l1 (ji8)).f1) ((rd_T64 l1 (ji8)).f2) ((rd_T64 l1 (ji8)).f3) t354 _ A10.out).mono ?_); rintro e w18 ⟨rfl, hb⟩; have n0_ := Aside0.mk (Kd.R_below (by (with_reducible repeat (first | apply Kd.R_alloc | apply Kd.R_drewN | apply Kd.R_drew)); exact HO351.out) hb); have n1_ := Aside0.mk (blk_below (g := gb348) (o := .cells #[.slice A0_0 l0_0.length c0_0, .int .i64 a0_1, .int .i64 a0_2, .int .i64 a0_3, .int .i64 a0_4, .int .i64 a0_5, .int .i64 a0_6] 74 (0, 0)) kz hb); have n2_ := Aside0.mk (below_step bs hb); clear HO351; clear BK348; clear HB; have HO351 := n0_; have BK348 := n1_; have HB := n2_; clear n0_ n1_ n2_; (try clear hb); (try clear hb2); (try clear hk); (try clear hi)) | (go_at_call 75; (with_reducible refine (spec_lbMark.calls k t354 t355 _ A11.out).mono ?_); rintro e w19 ⟨rfl, hb⟩; have n0_ := Aside0.mk (Kd.R_below (by (with_reducible repeat (first | apply Kd.R_alloc | apply Kd.R_drewN | apply Kd.R_drew)); exact HO351.out) hb); have n1_ := Aside0.mk (blk_below (g := gb348) (o := .cells #[.slice A0_0 l0_0.length c0_0, .int .i64 a0_1, .int .i64 a0_2, .int .i64 a0_3, .int .i64 a0_4, .int .i64 a0_5, .int .i64 a0_6] 74 (0, 0)) kz hb); have n2_ := Aside0.mk (below_step bs hb); clear HO351; clear BK348; clear HB; have HO351 := n0_; have BK348 := n1_; have HB := n2_; clear n0_ n1_ n2_; (try clear hb); (try clear hb2); (try clear hk); (try clear hi)))
     go_ret
     exact ⟨by first | rfl | (simp [errW_none, errW_some] <;> rfl) | (simp only [← hji8]; first | rfl | (simp [errW_none, errW_some] <;> rfl)) | (simp [*, errW_none, errW_some] <;> rfl), bs⟩
    ·rw [if_neg c9] at H
     exact absurd H (by simp)
   ·rw [if_neg c7] at H
    have c7b0 : decide ((wrap64 (a2 + 1)) < (l1.length : Int)) = false := decide_eq_false c7
    clear c7
    obtain rfl := Option.some.inj H
    go_enter Try.func74, Try.ntmps74
    go_wp2_with (first | ((with_reducible refine gate_dst (N := 3) rfl ?_); (try (refine gate_guard (by rfl) ?_; dsimp only)); refine box_event ?hg (N := 3) ?hd (cs := #[.slice A0_0 l0_0.length c0_0, .int .i64 a0_1, .int .i64 a0_2, .int .i64 a0_3, .int .i64 a0_4, .int .i64 a0_5, .int .i64 a0_6]) (t := 74) ?hr ?_; (case hd => rfl); (case hg => rfl); (case hr => first | (go_simp; done) | (go_simp; rfl)); intro gb348 hg w20 hbox hb; have n0_ := Aside0.mk (below_step bz hb); have n1_ := Aside0.mk (hbox); have n2_ := Aside0.mk ((by rw [hg]; exact (below_size bz) : w.heap.size ≤ gb348)); have n3_ := Aside0.mk ((by rw [hg]; exact (below_size bz) : w.heap.size ≤ gb348)); clear HB; have HB := n0_; have BK348 := n1_; have GW348 := n2_; have GE348 := n3_; clear n0_ n1_ n2_ n3_; clear hb hbox hg; have hcz21_0 : w20.cell? ⟨gb348, 0, none⟩ = some (.slice A0_0 l0_0.length c0_0) := (blk_cell BK348.out 0).trans rfl; have hcz21_1 : w20.cell? ⟨gb348, 1, none⟩ = some (.int .i64 a0_1) := (blk_cell BK348.out 1).trans rfl; have hcz21_2 : w20.cell? ⟨gb348, 2, none⟩ = some (.int .i64 a0_2) := (blk_cell BK348.out 2).trans rfl; have hcz21_3 : w20.cell? ⟨gb348, 3, none⟩ = some (.int .i64 a0_3) := (blk_cell BK348.out 3).trans rfl; have hcz21_4 : w20.cell? ⟨gb348, 4, none⟩ = some (.int .i64 a0_4) := (blk_cell BK348.out 4).trans rfl; have hcz21_5 : w20.cell? ⟨gb348, 5, none⟩ = some (.int .i64 a0_5) := (blk_cell BK348.out 5).trans rfl; have hcz21_6 : w20.cell? ⟨gb348, 6, none⟩ = some (.int .i64 a0_6) := (blk_cell BK348.out 6).trans rfl; have hfz21_0 := blk_frozen BK348.out 0; have hfz21_1 := blk_frozen BK348.out 1; have hfz21_2 := blk_frozen BK348.out 2; have hfz21_3 := blk_frozen BK348.out 3; have hfz21_4 := blk_frozen BK348.out 4; have hfz21_5 := blk_frozen BK348.out 5; have hfz21_6 := blk_frozen BK348.out 6) | ((with_reducible refine gate_dst (N := 9) rfl ?_); (try (refine gate_guard (by rfl) ?_; dsimp only)); refine Kd.R_lit (Kd.int .i64) _ 3 ?hg (N := 9) ?hd (xs := ([37, 36] : List Int)) (inner := [.int .i64 37, .int .i64 36]) (ok := fun _ => True) (okp := fun _ => True) ?hr ?hp (fun _ hk => hk) trivial (Below.refl _ _) (Nat.le_refl _) (by simp) ?_; (case hd => rfl); (case hg => rfl); (case hr => first | (go_simp; done) | (go_simp; rfl)); (case hp => exact (Reps.one (show Kd.M (Kd.int .i64) _ _ _ 37 [.int .i64 37] from rfl) (Reps.one (show Kd.M (Kd.int .i64) _ _ _ 36 [.int .i64 36] from rfl) (Reps.none _ _)))); intro v350 w22 ho23 hb hg_ hnew_; clear hg_ hnew_; (first | rw [← Ny349.out] at ho23 | (simp only [Int.reduceToNat] at ho23; rw [← Ny349.out] at ho23)); have n0_ := Aside0.mk (Kd.R_lower ho23 (below_size bs)); have n1_ := Aside0.mk (blk_below (g := gb348) (o := .cells #[.slice A0_0 l0_0.length c0_0, .int .i64 a0_1, .int .i64 a0_2, .int .i64 a0_3, .int .i64 a0_4, .int .i64 a0_5, .int .i64 a0_6] 74 (0, 0)) kz hb); have n2_ := Aside0.mk (below_step bs hb); clear BK348; clear HB; have HO351 := n0_; have BK348 := n1_; have HB := n2_; clear n0_ n1_ n2_; clear hb ho23; obtain ⟨Ao24, co24, eo24⟩ := Kd.R_slice HO351.out; subst eo24) | ((with_reducible refine gate_callee (f := 42) rfl ?_); refine goesL_ (some 10) rfl rfl Try.func42 (by kernel_rfl) rfl #[.int .i64 a0_3, .slice Ao24 y349.length co24] rfl mz ?_; (with_reducible refine (spec_among.calls k a0_3 _ _ y349 true _ ?side1 ?side2 A4.out).mono ?_); (case side1 => repeat (first | exact (Kd.R_reads' HO351.out).2.2 | (with_reducible refine Kd.C_alloc ?_ _) | (with_reducible refine Kd.C_drewN ?_ _) | (with_reducible refine Kd.C_drew ?_))); (case side2 => exact (Kd.R_reads' HO351.out).2.1); rintro e w' ⟨rfl, ⟨nd, rfl⟩⟩; refine ⟨_, rfl, ?_⟩; have hcz25_0 : w22.cell? ⟨gb348, 0, none⟩ = some (.slice A0_0 l0_0.length c0_0) := (blk_cell BK348.out 0).trans rfl; have hcz25_1 : w22.cell? ⟨gb348, 1, none⟩ = some (.int .i64 a0_1) := (blk_cell BK348.out 1).trans rfl; have hcz25_2 : w22.cell? ⟨gb348, 2, none⟩ = some (.int .i64 a0_2) := (blk_cell BK348.out 2).trans rfl; have hcz25_3 : w22.cell? ⟨gb348, 3, none⟩ = some (.int .i64 a0_3) := (blk_cell BK348.out 3).trans rfl; have hcz25_4 : w22.cell? ⟨gb348, 4, none⟩ = some (.int .i64 a0_4) := (blk_cell BK348.out 4).trans rfl; have hcz25_5 : w22.cell? ⟨gb348, 5, none⟩ = some (.int .i64 a0_5) := (blk_cell BK348.out 5).trans rfl; have hcz25_6 : w22.cell? ⟨gb348, 6, none⟩ = some (.int .i64 a0_6) := (blk_cell BK348.out 6).trans rfl; have hfz25_0 := blk_frozen BK348.out 0; have hfz25_1 := blk_frozen BK348.out 1; have hfz25_2 := blk_frozen BK348.out 2; have hfz25_3 := blk_frozen BK348.out 3; have hfz25_4 := blk_frozen BK348.out 4; have hfz25_5 := blk_frozen BK348.out 5; have hfz25_6 := blk_frozen BK348.out 6))
    go_ret
    exact ⟨ez, bs⟩
  ·rw [if_neg c6] at H
   have c6b0 : (a0_4 == 35) = false := beq_eq_false_iff_ne.mpr c6
   have c6b1 : (a0_4 != 35) = true := bne_iff_ne.mpr c6
   obtain rfl := Option.some.inj H
   go_enter Try.func74, Try.ntmps74
   go_wp2_with (first | ((with_reducible refine gate_dst (N := 3) rfl ?_); (try (refine gate_guard (by rfl) ?_; dsimp only)); refine box_event ?hg (N := 3) ?hd (cs := #[.slice A0_0 l0_0.length c0_0, .int .i64 a0_1, .int .i64 a0_2, .int .i64 a0_3, .int .i64 a0_4, .int .i64 a0_5, .int .i64 a0_6]) (t := 74) ?hr ?_; (case hd => rfl); (case hg => rfl); (case hr => first | (go_simp; done) | (go_simp; rfl)); intro gb348 hg w26 hbox hb; have n0_ := Aside0.mk (below_step bz hb); have n1_ := Aside0.mk (hbox); have n2_ := Aside0.mk ((by rw [hg]; exact (below_size bz) : w.heap.size ≤ gb348)); have n3_ := Aside0.mk ((by rw [hg]; exact (below_size bz) : w.heap.size ≤ gb348)); clear HB; have HB := n0_; have BK348 := n1_; have GW348 := n2_; have GE348 := n3_; clear n0_ n1_ n2_ n3_; clear hb hbox hg; have hcz27_0 : w26.cell? ⟨gb348, 0, none⟩ = some (.slice A0_0 l0_0.length c0_0) := (blk_cell BK348.out 0).trans rfl; have hcz27_1 : w26.cell? ⟨gb348, 1, none⟩ = some (.int .i64 a0_1) := (blk_cell BK348.out 1).trans rfl; have hcz27_2 : w26.cell? ⟨gb348, 2, none⟩ = some (.int .i64 a0_2) := (blk_cell BK348.out 2).trans rfl; have hcz27_3 : w26.cell? ⟨gb348, 3, none⟩ = some (.int .i64 a0_3) := (blk_cell BK348.out 3).trans rfl; have hcz27_4 : w26.cell? ⟨gb348, 4, none⟩ = some (.int .i64 a0_4) := (blk_cell BK348.out 4).trans rfl; have hcz27_5 : w26.cell? ⟨gb348, 5, none⟩ = some (.int .i64 a0_5) := (blk_cell BK348.out 5).trans rfl; have hcz27_6 : w26.cell? ⟨gb348, 6, none⟩ = some (.int .i64 a0_6) := (blk_cell BK348.out 6).trans rfl; have hfz27_0 := blk_frozen BK348.out 0; have hfz27_1 := blk_frozen BK348.out 1; have hfz27_2 := blk_frozen BK348.out 2; have hfz27_3 := blk_frozen BK348.out 3; have hfz27_4 := blk_frozen BK348.out 4; have hfz27_5 := blk_frozen BK348.out 5; have hfz27_6 := blk_frozen BK348.out 6) | ((with_reducible refine gate_dst (N := 9) rfl ?_); (try (refine gate_guard (by rfl) ?_; dsimp only)); refine Kd.R_lit (Kd.int .i64) _ 3 ?hg (N := 9) ?hd (xs := ([37, 36] : List Int)) (inner := [.int .i64 37, .int .i64 36]) (ok := fun _ => True) (okp := fun _ => True) ?hr ?hp (fun _ hk => hk) trivial (Below.refl _ _) (Nat.le_refl _) (by simp) ?_; (case hd => rfl); (case hg => rfl); (case hr => first | (go_simp; done) | (go_simp; rfl)); (case hp => exact (Reps.one (show Kd.M (Kd.int .i64) _ _ _ 37 [.int .i64 37] from rfl) (Reps.one (show Kd.M (Kd.int .i64) _ _ _ 36 [.int .i64 36] from rfl) (Reps.none _ _)))); intro v350 w28 ho29 hb hg_ hnew_; clear hg_ hnew_; (first | rw [← Ny349.out] at ho29 | (simp only [Int.reduceToNat] at ho29; rw [← Ny349.out] at ho29)); have n0_ := Aside0.mk (Kd.R_lower ho29 (below_size bs)); have n1_ := Aside0.mk (blk_below (g := gb348) (o := .cells #[.slice A0_0 l0_0.length c0_0, .int .i64 a0_1, .int .i64 a0_2, .int .i64 a0_3, .int .i64 a0_4, .int .i64 a0_5, .int .i64 a0_6] 74 (0, 0)) kz hb); have n2_ := Aside0.mk (below_step bs hb); clear BK348; clear HB; have HO351 := n0_; have BK348 := n1_; have HB := n2_; clear n0_ n1_ n2_; clear hb ho29; obtain ⟨Ao30, co30, eo30⟩ := Kd.R_slice HO351.out; subst eo30) | ((with_reducible refine gate_callee (f := 42) rfl ?_); refine goesL_ (some 10) rfl rfl Try.func42 (by kernel_rfl) rfl #[.int .i64 a0_3, .slice Ao30 y349.length co30] rfl mz ?_; (with_reducible refine (spec_among.calls k a0_3 _ _ y349 true _ ?side1 ?side2 A4.out).mono ?_); (case side1 => repeat (first | exact (Kd.R_reads' HO351.out).2.2 | (with_reducible refine Kd.C_alloc ?_ _) | (with_reducible refine Kd.C_drewN ?_ _) | (with_reducible refine Kd.C_drew ?_))); (case side2 => exact (Kd.R_reads' HO351.out).2.1); rintro e w' ⟨rfl, ⟨nd, rfl⟩⟩; refine ⟨_, rfl, ?_⟩; have hcz31_0 : w28.cell? ⟨gb348, 0, none⟩ = some (.slice A0_0 l0_0.length c0_0) := (blk_cell BK348.out 0).trans rfl; have hcz31_1 : w28.cell? ⟨gb348, 1, none⟩ = some (.int .i64 a0_1) := (blk_cell BK348.out 1).trans rfl; have hcz31_2 : w28.cell? ⟨gb348, 2, none⟩ = some (.int .i64 a0_2) := (blk_cell BK348.out 2).trans rfl; have hcz31_3 : w28.cell? ⟨gb348, 3, none⟩ = some (.int .i64 a0_3) := (blk_cell BK348.out 3).trans rfl; have hcz31_4 : w28.cell? ⟨gb348, 4, none⟩ = some (.int .i64 a0_4) := (blk_cell BK348.out 4).trans rfl; have hcz31_5 : w28.cell? ⟨gb348, 5, none⟩ = some (.int .i64 a0_5) := (blk_cell BK348.out 5).trans rfl; have hcz31_6 : w28.cell? ⟨gb348, 6, none⟩ = some (.int .i64 a0_6) := (blk_cell BK348.out 6).trans rfl; have hfz31_0 := blk_frozen BK348.out 0; have hfz31_1 := blk_frozen BK348.out 1; have hfz31_2 := blk_frozen BK348.out 2; have hfz31_3 := blk_frozen BK348.out 3; have hfz31_4 := blk_frozen BK348.out 4; have hfz31_5 := blk_frozen BK348.out 5; have hfz31_6 := blk_frozen BK348.out 6))
   go_ret
   exact ⟨ez, bs⟩
 ·replace c5 := Bool.eq_false_iff.mpr c5
  subst c5
  rw [if_neg (show ¬ (false = true) by decide)] at H
  obtain rfl := Option.some.inj H
  go_enter Try.func74, Try.ntmps74
  go_wp2_with (first | ((with_reducible refine gate_dst (N := 3) rfl ?_); (try (refine gate_guard (by rfl) ?_; dsimp only)); refine box_event ?hg (N := 3) ?hd (cs := #[.slice A0_0 l0_0.length c0_0, .int .i64 a0_1, .int .i64 a0_2, .int .i64 a0_3, .int .i64 a0_4, .int .i64 a0_5, .int .i64 a0_6]) (t := 74) ?hr ?_; (case hd => rfl); (case hg => rfl); (case hr => first | (go_simp; done) | (go_simp; rfl)); intro gb348 hg w32 hbox hb; have n0_ := Aside0.mk (below_step bz hb); have n1_ := Aside0.mk (hbox); have n2_ := Aside0.mk ((by rw [hg]; exact (below_size bz) : w.heap.size ≤ gb348)); have n3_ := Aside0.mk ((by rw [hg]; exact (below_size bz) : w.heap.size ≤ gb348)); clear HB; have HB := n0_; have BK348 := n1_; have GW348 := n2_; have GE348 := n3_; clear n0_ n1_ n2_ n3_; clear hb hbox hg; have hcz33_0 : w32.cell? ⟨gb348, 0, none⟩ = some (.slice A0_0 l0_0.length c0_0) := (blk_cell BK348.out 0).trans rfl; have hcz33_1 : w32.cell? ⟨gb348, 1, none⟩ = some (.int .i64 a0_1) := (blk_cell BK348.out 1).trans rfl; have hcz33_2 : w32.cell? ⟨gb348, 2, none⟩ = some (.int .i64 a0_2) := (blk_cell BK348.out 2).trans rfl; have hcz33_3 : w32.cell? ⟨gb348, 3, none⟩ = some (.int .i64 a0_3) := (blk_cell BK348.out 3).trans rfl; have hcz33_4 : w32.cell? ⟨gb348, 4, none⟩ = some (.int .i64 a0_4) := (blk_cell BK348.out 4).trans rfl; have hcz33_5 : w32.cell? ⟨gb348, 5, none⟩ = some (.int .i64 a0_5) := (blk_cell BK348.out 5).trans rfl; have hcz33_6 : w32.cell? ⟨gb348, 6, none⟩ = some (.int .i64 a0_6) := (blk_cell BK348.out 6).trans rfl; have hfz33_0 := blk_frozen BK348.out 0; have hfz33_1 := blk_frozen BK348.out 1; have hfz33_2 := blk_frozen BK348.out 2; have hfz33_3 := blk_frozen BK348.out 3; have hfz33_4 := blk_frozen BK348.out 4; have hfz33_5 := blk_frozen BK348.out 5; have hfz33_6 := blk_frozen BK348.out 6) | ((with_reducible refine gate_dst (N := 9) rfl ?_); (try (refine gate_guard (by rfl) ?_; dsimp only)); refine Kd.R_lit (Kd.int .i64) _ 3 ?hg (N := 9) ?hd (xs := ([37, 36] : List Int)) (inner := [.int .i64 37, .int .i64 36]) (ok := fun _ => True) (okp := fun _ => True) ?hr ?hp (fun _ hk => hk) trivial (Below.refl _ _) (Nat.le_refl _) (by simp) ?_; (case hd => rfl); (case hg => rfl); (case hr => first | (go_simp; done) | (go_simp; rfl)); (case hp => exact (Reps.one (show Kd.M (Kd.int .i64) _ _ _ 37 [.int .i64 37] from rfl) (Reps.one (show Kd.M (Kd.int .i64) _ _ _ 36 [.int .i64 36] from rfl) (Reps.none _ _)))); intro v350 w34 ho35 hb hg_ hnew_; clear hg_ hnew_; (first | rw [← Ny349.out] at ho35 | (simp only [Int.reduceToNat] at ho35; rw [← Ny349.out] at ho35)); have n0_ := Aside0.mk (Kd.R_lower ho35 (below_size bs)); have n1_ := Aside0.mk (blk_below (g := gb348) (o := .cells #[.slice A0_0 l0_0.length c0_0, .int .i64 a0_1, .int .i64 a0_2, .int .i64 a0_3, .int .i64 a0_4, .int .i64 a0_5, .int .i64 a0_6] 74 (0, 0)) kz hb); have n2_ := Aside0.mk (below_step bs hb); clear BK348; clear HB; have HO351 := n0_; have BK348 := n1_; have HB := n2_; clear n0_ n1_ n2_; clear hb ho35; obtain ⟨Ao36, co36, eo36⟩ := Kd.R_slice HO351.out; subst eo36) | ((with_reducible refine gate_callee (f := 42) rfl ?_); refine goesL_ (some 10) rfl rfl Try.func42 (by kernel_rfl) rfl #[.int .i64 a0_3, .slice Ao36 y349.length co36] rfl mz ?_; (with_reducible refine (spec_among.calls k a0_3 _ _ y349 false _ ?side1 ?side2 A4.out).mono ?_); (case side1 => repeat (first | exact (Kd.R_reads' HO351.out).2.2 | (with_reducible refine Kd.C_alloc ?_ _) | (with_reducible refine Kd.C_drewN ?_ _) | (with_reducible refine Kd.C_drew ?_))); (case side2 => exact (Kd.R_reads' HO351.out).2.1); rintro e w' ⟨rfl, ⟨nd, rfl⟩⟩; refine ⟨_, rfl, ?_⟩))
  go_ret
  exact ⟨ez, bs⟩

-- NOT PRINTED: function 47 (spec_LineOpen)

end Go.Proofs.Ytnanfoahimccpaa.Ln
