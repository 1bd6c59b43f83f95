/- Functions of the translation as Lean functions, and their walks: lines written by a program, a turned copy of the kit's print. -/
import Derived.Test.YtnanfoahimccpaaLnx0
import Derived.Test.YtnanfoahimccpaaLnx1
namespace Go.Proofs.Ytnanfoahimccpaa.Ln
open Go.RowKit Go.Proofs.YtnanfoahimccpaaW.PrintWords Go.Proofs.YtnanfoahimccpaaW.PrintLast Go.Proofs.YtnanfoahimccpaaW.PrintMore
attribute [local go_sem] max2_int max_two
set_option linter.unusedVariables false
set_option linter.unusedSimpArgs false

mutual
def spec_lbHyphens.j6 : Nat → List (S64) → Int → Int → Int → Int → Int → Int → Option (Bool)
 | 0, _, _, _, _, _, _, _ => none
 | k + 1, x259000, x259001, x259002, x259003, x259004, x259005, x259006 => (spec_lbHyphens_1.f k x259003).bind fun t271 => (if t271 = true then ((spec_lbLetter.f k x259004).bind fun t272 => (if t272 = true then (some true) else ((spec_lbLetter.f k x259003).bind fun t273 => (if t273 = true then ((spec_lbHyphens_1.f k x259004).bind fun t274 => (some t274)) else (some false))))) else ((spec_lbLetter.f k x259003).bind fun t275 => (if t275 = true then ((spec_lbHyphens_1.f k x259004).bind fun t276 => (some t276)) else (some false))))
def spec_lbHyphens.j0 : Nat → Bool → List (S64) → Int → Int → Int → Int → Int → Int → Option (Bool)
 | 0, _, _, _, _, _, _, _, _ => none
 | k + 1, x5, x259000, x259001, x259002, x259003, x259004, x259005, x259006 => if x5 = true then (some true) else (if x259002 = 25 then ((spec_among.f k x259003 (([26, 14] : List Int))).bind fun t266 => (spec_lbHyphens.j1 k t266 x259000 x259001 x259002 x259003 x259004 x259005 x259006)) else (spec_lbHyphens.j1 k false x259000 x259001 x259002 x259003 x259004 x259005 x259006))
def spec_lbHyphens.j1 : Nat → Bool → List (S64) → Int → Int → Int → Int → Int → Int → Option (Bool)
 | 0, _, _, _, _, _, _, _, _ => none
 | k + 1, x13, x259000, x259001, x259002, x259003, x259004, x259005, x259006 => if x13 = true then (some true) else (if x259003 = 42 then (spec_lbHyphens.j2 k (x259004 == 25) x259000 x259001 x259002 x259003 x259004 x259005 x259006) else (spec_lbHyphens.j2 k false x259000 x259001 x259002 x259003 x259004 x259005 x259006))
def spec_lbHyphens.j2 : Nat → Bool → List (S64) → Int → Int → Int → Int → Int → Int → Option (Bool)
 | 0, _, _, _, _, _, _, _, _ => none
 | k + 1, x23, x259000, x259001, x259002, x259003, x259004, x259005, x259006 => if x23 = true then (some true) else (if x259004 = 28 then (some true) else ((spec_lbLetter.f k x259003).bind fun t267 => (if t267 = true then (spec_lbHyphens.j3 k (x259004 == 34) x259000 x259001 x259002 x259003 x259004 x259005 x259006) else (spec_lbHyphens.j3 k false x259000 x259001 x259002 x259003 x259004 x259005 x259006))))
def spec_lbHyphens.j3 : Nat → Bool → List (S64) → Int → Int → Int → Int → Int → Int → Option (Bool)
 | 0, _, _, _, _, _, _, _, _ => none
 | k + 1, x36, x259000, x259001, x259002, x259003, x259004, x259005, x259006 => if x36 = true then (spec_lbHyphens.j4 k x36 x259000 x259001 x259002 x259003 x259004 x259005 x259006) else (if x259003 = 34 then ((spec_lbLetter.f k x259004).bind fun t268 => (spec_lbHyphens.j4 k t268 x259000 x259001 x259002 x259003 x259004 x259005 x259006)) else (spec_lbHyphens.j4 k false x259000 x259001 x259002 x259003 x259004 x259005 x259006))
def spec_lbHyphens.j4 : Nat → Bool → List (S64) → Int → Int → Int → Int → Int → Int → Option (Bool)
 | 0, _, _, _, _, _, _, _, _ => none
 | k + 1, x36, x259000, x259001, x259002, x259003, x259004, x259005, x259006 => if x36 = true then (some true) else (if x259003 = 37 then ((spec_lbHyphens_2.f k x259004).bind fun t269 => (spec_lbHyphens.j5 k t269 x259000 x259001 x259002 x259003 x259004 x259005 x259006)) else (spec_lbHyphens.j5 k false x259000 x259001 x259002 x259003 x259004 x259005 x259006))
def spec_lbHyphens.j5 : Nat → Bool → List (S64) → Int → Int → Int → Int → Int → Int → Option (Bool)
 | 0, _, _, _, _, _, _, _, _ => none
 | k + 1, x53, x259000, x259001, x259002, x259003, x259004, x259005, x259006 => if x53 = true then (some true) else ((spec_lbHyphens_2.f k x259003).bind fun t270 => (if t270 = true then (if x259004 = 36 then (some true) else (spec_lbHyphens.j6 k x259000 x259001 x259002 x259003 x259004 x259005 x259006)) else (spec_lbHyphens.j6 k x259000 x259001 x259002 x259003 x259004 x259005 x259006)))
end
def spec_lbHyphens.f (k : Nat) (l0_0 : List (S64)) (a0_1 : Int) (a0_2 : Int) (a0_3 : Int) (a0_4 : Int) (a0_5 : Int) (a0_6 : Int) : Option (Bool) := (spec_among.f k a0_4 (([14, 26, 33] : List Int))).bind fun t262 => (if t262 = true then (spec_lbHyphens.j0 k t262 l0_0 a0_1 a0_2 a0_3 a0_4 a0_5 a0_6) else (spec_lbHyphens.j0 k (a0_3 == 15) l0_0 a0_1 a0_2 a0_3 a0_4 a0_5 a0_6))
set_option maxHeartbeats 8000000 in
set_option maxRecDepth 100000 in
theorem spec_lbHyphens.calls (k : Nat) (A0_0 : Option Addr) (c0_0 : Nat) (l0_0 : List (S64)) (a0_1 : Int) (a0_2 : Int) (a0_3 : Int) (a0_4 : Int) (a0_5 : Int) (a0_6 : Int) (r : Bool) (w : World) (hr0_0 : Kd.C k64 w A0_0 l0_0.length l0_0) (hc0_0 : l0_0.length ≤ c0_0) (h : spec_lbHyphens.f k l0_0 a0_1 a0_2 a0_3 a0_4 a0_5 a0_6 = some r) :
  Calls Try.prog 67 #[.agg #[.slice A0_0 l0_0.length c0_0, .int .i64 a0_1, .int .i64 a0_2, .int .i64 a0_3, .int .i64 a0_4, .int .i64 a0_5, .int .i64 a0_6]] w fun e w' => e = .returned (.bool r) ∧ Below w.heap.size w w' := by
 have hu74 := Try.underlying74
 have HR0_0 := Aside0.mk hr0_0
 have HC0_0 := Aside0.mk hc0_0
 clear hr0_0 hc0_0
 have HB := Aside0.mk (Below.refl w.heap.size w)
 have H : ((spec_among.f k a0_4 (([14, 26, 33] : List Int))).bind fun t262 => (if t262 = true then (spec_lbHyphens.j0 k t262 l0_0 a0_1 a0_2 a0_3 a0_4 a0_5 a0_6) else (spec_lbHyphens.j0 k (a0_3 == 15) l0_0 a0_1 a0_2 a0_3 a0_4 a0_5 a0_6))) = some r := h
 clear h
 have HC2 := Aside0.mk H
 clear H
 go_enter Try.func67, Try.ntmps67
 go_upto_block 0 with (first | ((with_reducible refine gate_dst (N := 1) rfl ?_); (try (refine gate_guard (by rfl) ?_; dsimp only)); refine box_event ?hg (N := 1) ?hd (cs := #[.slice A0_0 l0_0.length c0_0, .int .i64 a0_1, .int .i64 a0_2, .int .i64 a0_3, .int .i64 a0_4, .int .i64 a0_5, .int .i64 a0_6]) (t := 74) ?hr ?_; (case hd => rfl); (case hg => rfl); (case hr => first | (go_simp; done) | (go_simp; rfl)); intro gb258 hg w3 hbox hb; have n0_ := Aside0.mk (below_step bz hb); have n1_ := Aside0.mk (hbox); have n2_ := Aside0.mk ((by rw [hg]; exact (below_size bz) : w.heap.size ≤ gb258)); have n3_ := Aside0.mk ((by rw [hg]; exact (below_size bz) : w.heap.size ≤ gb258)); clear HB; have HB := n0_; have BK258 := n1_; have GW258 := n2_; have GE258 := n3_; clear n0_ n1_ n2_ n3_; clear hb hbox hg))
 (try simp only [Act.put, List.setIfInBounds_toArray, List.set_cons_zero, List.set_cons_succ])
 go_cut [] (fun wc => ∃ (kq : Nat), Aside0 (spec_lbHyphens.j6 kq l0_0 a0_1 a0_2 a0_3 a0_4 a0_5 a0_6 = some r) ∧ Aside0 (kq ≤ k) ∧ Aside0 (wc.heap[gb258]? = some (.cells #[(.slice A0_0 l0_0.length c0_0), .int .i64 a0_1, .int .i64 a0_2, .int .i64 a0_3, .int .i64 a0_4, .int .i64 a0_5, .int .i64 a0_6] 74 (0, 0))) ∧ Aside0 (Below w.heap.size w wc))
 case first =>
  have H := HC2.out
  clear HC2
  obtain ⟨y259, hy259⟩ : ∃ y_ : List Int, y_ = (([14, 26, 33] : List Int)) := ⟨_, rfl⟩
  first | rw [← hy259] at H | simp only [← hy259] at H
  have Ny259 := Aside0.mk hy259
  clear hy259
  replace H := Option.bind_eq_some_iff.mp H
  obtain ⟨t262, A40, H⟩ := H
  try dsimp only at H
  have A4 := Aside0.mk A40
  clear A40
  have HC5 := Aside0.mk H
  clear H
  have hcz6_0 : w3.cell? ⟨gb258, 0, none⟩ = some (.slice A0_0 l0_0.length c0_0) := (blk_cell BK258.out 0).trans rfl
  have hcz6_1 : w3.cell? ⟨gb258, 1, none⟩ = some (.int .i64 a0_1) := (blk_cell BK258.out 1).trans rfl
  have hcz6_2 : w3.cell? ⟨gb258, 2, none⟩ = some (.int .i64 a0_2) := (blk_cell BK258.out 2).trans rfl
  have hcz6_3 : w3.cell? ⟨gb258, 3, none⟩ = some (.int .i64 a0_3) := (blk_cell BK258.out 3).trans rfl
  have hcz6_4 : w3.cell? ⟨gb258, 4, none⟩ = some (.int .i64 a0_4) := (blk_cell BK258.out 4).trans rfl
  have hcz6_5 : w3.cell? ⟨gb258, 5, none⟩ = some (.int .i64 a0_5) := (blk_cell BK258.out 5).trans rfl
  have hcz6_6 : w3.cell? ⟨gb258, 6, none⟩ = some (.int .i64 a0_6) := (blk_cell BK258.out 6).trans rfl
  have hfz6_0 := blk_frozen BK258.out 0
  have hfz6_1 := blk_frozen BK258.out 1
  have hfz6_2 := blk_frozen BK258.out 2
  have hfz6_3 := blk_frozen BK258.out 3
  have hfz6_4 := blk_frozen BK258.out 4
  have hfz6_5 := blk_frozen BK258.out 5
  have hfz6_6 := blk_frozen BK258.out 6
  go_upto_if 5 with (first | ((with_reducible refine gate_dst (N := 8) rfl ?_); (try (refine gate_guard (by rfl) ?_; dsimp only)); refine Kd.R_lit (Kd.int .i64) _ 3 ?hg (N := 8) ?hd (xs := ([14, 26, 33] : List Int)) (inner := [.int .i64 14, .int .i64 26, .int .i64 33]) (ok := fun _ => True) (okp := fun _ => True) ?hr ?hp (fun _ hk => hk) trivial (Below.refl _ _) (Nat.le_refl _) (by simp) ?_; (case hd => rfl); (case hg => rfl); (case hr => first | (go_simp; done) | (go_simp; rfl)); (case hp => exact (Reps.one (show Kd.M (Kd.int .i64) _ _ _ 14 [.int .i64 14] from rfl) (Reps.one (show Kd.M (Kd.int .i64) _ _ _ 26 [.int .i64 26] from rfl) (Reps.one (show Kd.M (Kd.int .i64) _ _ _ 33 [.int .i64 33] from rfl) (Reps.none _ _))))); intro v260 w7 ho8 hb hg_ hnew_; clear hg_ hnew_; (first | rw [← Ny259.out] at ho8 | (simp only [Int.reduceToNat] at ho8; rw [← Ny259.out] at ho8)); have n0_ := Aside0.mk (Kd.R_lower ho8 (below_size bs)); have n1_ := Aside0.mk (blk_below (g := gb258) (o := .cells #[.slice A0_0 l0_0.length c0_0, .int .i64 a0_1, .int .i64 a0_2, .int .i64 a0_3, .int .i64 a0_4, .int .i64 a0_5, .int .i64 a0_6] 74 (0, 0)) kz hb); have n2_ := Aside0.mk (below_step bs hb); clear BK258; clear HB; have HO261 := n0_; have BK258 := n1_; have HB := n2_; clear n0_ n1_ n2_; clear hb ho8; obtain ⟨Ao9, co9, eo9⟩ := Kd.R_slice HO261.out; subst eo9) | ((with_reducible refine gate_callee (f := 42) rfl ?_); refine goesL_ (some 9) rfl rfl Try.func42 (by kernel_rfl) rfl #[.int .i64 a0_4, .slice Ao9 y259.length co9] rfl mz ?_; (with_reducible refine (spec_among.calls k a0_4 _ _ y259 t262 _ ?side1 ?side2 A4.out).mono ?_); (case side1 => repeat (first | exact (Kd.R_reads' HO261.out).2.2 | (with_reducible refine Kd.C_alloc ?_ _) | (with_reducible refine Kd.C_drewN ?_ _) | (with_reducible refine Kd.C_drew ?_))); (case side2 => exact (Kd.R_reads' HO261.out).2.1); rintro e w' ⟨rfl, ⟨nd, rfl⟩⟩; refine ⟨_, rfl, ?_⟩))
  (try simp only [Act.put, List.setIfInBounds_toArray, List.set_cons_zero, List.set_cons_succ])
  go_cut [5] (fun v5 wc => ∃ (kq : Nat) (x5_4 : Bool), v5 = .bool x5_4 ∧ Aside0 (spec_lbHyphens.j0 kq x5_4 l0_0 a0_1 a0_2 a0_3 a0_4 a0_5 a0_6 = some r) ∧ Aside0 (kq ≤ k) ∧ Aside0 (wc.heap[gb258]? = some (.cells #[(.slice A0_0 l0_0.length c0_0), .int .i64 a0_1, .int .i64 a0_2, .int .i64 a0_3, .int .i64 a0_4, .int .i64 a0_5, .int .i64 a0_6] 74 (0, 0))) ∧ Aside0 (Below w.heap.size w wc))
  case first =>
   have H := HC5.out
   clear HC5
   by_cases c10 : t262 = true
   ·subst c10
    rw [if_pos rfl] at H
    have H' := Aside0.mk H
    clear H
    go_wp2
    go_meet
    case rel => exact ⟨_, (true), vz, H', ⟨by first | omega | exact Nat.le_refl _⟩, ⟨kz⟩, ⟨bs⟩⟩
   ·replace c10 := Bool.eq_false_iff.mpr c10
    subst c10
    rw [if_neg (show ¬ (false = true) by decide)] at H
    have H' := Aside0.mk H
    clear H
    have hcz11_0 : w7.cell? ⟨gb258, 0, none⟩ = some (.slice A0_0 l0_0.length c0_0) := (blk_cell BK258.out 0).trans rfl
    have hcz11_1 : w7.cell? ⟨gb258, 1, none⟩ = some (.int .i64 a0_1) := (blk_cell BK258.out 1).trans rfl
    have hcz11_2 : w7.cell? ⟨gb258, 2, none⟩ = some (.int .i64 a0_2) := (blk_cell BK258.out 2).trans rfl
    have hcz11_3 : w7.cell? ⟨gb258, 3, none⟩ = some (.int .i64 a0_3) := (blk_cell BK258.out 3).trans rfl
    have hcz11_4 : w7.cell? ⟨gb258, 4, none⟩ = some (.int .i64 a0_4) := (blk_cell BK258.out 4).trans rfl
    have hcz11_5 : w7.cell? ⟨gb258, 5, none⟩ = some (.int .i64 a0_5) := (blk_cell BK258.out 5).trans rfl
    have hcz11_6 : w7.cell? ⟨gb258, 6, none⟩ = some (.int .i64 a0_6) := (blk_cell BK258.out 6).trans rfl
    have hfz11_0 := blk_frozen BK258.out 0
    have hfz11_1 := blk_frozen BK258.out 1
    have hfz11_2 := blk_frozen BK258.out 2
    have hfz11_3 := blk_frozen BK258.out 3
    have hfz11_4 := blk_frozen BK258.out 4
    have hfz11_5 := blk_frozen BK258.out 5
    have hfz11_6 := blk_frozen BK258.out 6
    go_wp2
    go_meet
    case rel => exact ⟨_, ((a0_3 == 15)), vz, H', ⟨by first | omega | exact Nat.le_refl _⟩, ⟨kz⟩, ⟨bs⟩⟩
  case rest =>
   clear HC5
   obtain ⟨kq, x5_4, rfl, HA, HJ4, BK258, HB⟩ := hcut
   cases kq with
   | zero => exact absurd HA.out (by simp [spec_lbHyphens.j0])
   | succ kj4 =>
    have H := HA.out
    clear HA
    simp only [spec_lbHyphens.j0] at H
    by_cases c12 : x5_4 = true
    ·subst c12
     rw [if_pos rfl] at H
     obtain rfl := Option.some.inj H
     go_wp2
     go_ret
     exact ⟨ez, bs⟩
    ·replace c12 := Bool.eq_false_iff.mpr c12
     subst c12
     rw [if_neg (show ¬ (false = true) by decide)] at H
     have HC13 := Aside0.mk H
     clear H
     go_upto_region 6 with (fail)
     go_cut [13] (fun v13 wc => ∃ (kq : Nat) (x13_12 : Bool), v13 = .bool x13_12 ∧ Aside0 (spec_lbHyphens.j1 kq x13_12 l0_0 a0_1 a0_2 a0_3 a0_4 a0_5 a0_6 = some r) ∧ Aside0 (kq ≤ kj4) ∧ Aside0 (wc.heap[gb258]? = some (.cells #[(.slice A0_0 l0_0.length c0_0), .int .i64 a0_1, .int .i64 a0_2, .int .i64 a0_3, .int .i64 a0_4, .int .i64 a0_5, .int .i64 a0_6] 74 (0, 0))) ∧ Aside0 (Below w.heap.size w wc))
     case first =>
      have H := HC13.out
      clear HC13
      by_cases c14 : a0_2 = 25
      ·rw [if_pos c14] at H
       have c14b0 : (a0_2 == 25) = true := beq_iff_eq.mpr c14
       have c14b1 : (a0_2 != 25) = false := bne_eq_false_iff_eq.mpr c14
       clear c14
       (first | rw [c14b0] | (simp only [i64_w]; rw [c14b0]) | skip)
       obtain ⟨y263, hy263⟩ : ∃ y_ : List Int, y_ = (([26, 14] : List Int)) := ⟨_, rfl⟩
       first | rw [← hy263] at H | simp only [← hy263] at H
       have Ny263 := Aside0.mk hy263
       clear hy263
       replace H := Option.bind_eq_some_iff.mp H
       obtain ⟨t266, A150, H⟩ := H
       try dsimp only at H
       have A15 := Aside0.mk A150
       clear A150
       have H' := Aside0.mk H
       clear H
       have hcz16_0 : wc.cell? ⟨gb258, 0, none⟩ = some (.slice A0_0 l0_0.length c0_0) := (blk_cell BK258.out 0).trans rfl
       have hcz16_1 : wc.cell? ⟨gb258, 1, none⟩ = some (.int .i64 a0_1) := (blk_cell BK258.out 1).trans rfl
       have hcz16_2 : wc.cell? ⟨gb258, 2, none⟩ = some (.int .i64 a0_2) := (blk_cell BK258.out 2).trans rfl
       have hcz16_3 : wc.cell? ⟨gb258, 3, none⟩ = some (.int .i64 a0_3) := (blk_cell BK258.out 3).trans rfl
       have hcz16_4 : wc.cell? ⟨gb258, 4, none⟩ = some (.int .i64 a0_4) := (blk_cell BK258.out 4).trans rfl
       have hcz16_5 : wc.cell? ⟨gb258, 5, none⟩ = some (.int .i64 a0_5) := (blk_cell BK258.out 5).trans rfl
       have hcz16_6 : wc.cell? ⟨gb258, 6, none⟩ = some (.int .i64 a0_6) := (blk_cell BK258.out 6).trans rfl
       have hfz16_0 := blk_frozen BK258.out 0
       have hfz16_1 := blk_frozen BK258.out 1
       have hfz16_2 := blk_frozen BK258.out 2
       have hfz16_3 := blk_frozen BK258.out 3
       have hfz16_4 := blk_frozen BK258.out 4
       have hfz16_5 := blk_frozen BK258.out 5
       have hfz16_6 := blk_frozen BK258.out 6
       go_wp2_with (first | ((with_reducible refine gate_dst (N := 20) rfl ?_); (try (refine gate_guard (by rfl) ?_; dsimp only)); refine Kd.R_lit (Kd.int .i64) _ 3 ?hg (N := 20) ?hd (xs := ([26, 14] : List Int)) (inner := [.int .i64 26, .int .i64 14]) (ok := fun _ => True) (okp := fun _ => True) ?hr ?hp (fun _ hk => hk) trivial (Below.refl _ _) (Nat.le_refl _) (by simp) ?_; (case hd => rfl); (case hg => rfl); (case hr => first | (go_simp; done) | (go_simp; rfl)); (case hp => exact (Reps.one (show Kd.M (Kd.int .i64) _ _ _ 26 [.int .i64 26] from rfl) (Reps.one (show Kd.M (Kd.int .i64) _ _ _ 14 [.int .i64 14] from rfl) (Reps.none _ _)))); intro v264 w17 ho18 hb hg_ hnew_; clear hg_ hnew_; (first | rw [← Ny263.out] at ho18 | (simp only [Int.reduceToNat] at ho18; rw [← Ny263.out] at ho18)); have n0_ := Aside0.mk (Kd.R_lower ho18 (below_size bs)); have n1_ := Aside0.mk (blk_below (g := gb258) (o := .cells #[.slice A0_0 l0_0.length c0_0, .int .i64 a0_1, .int .i64 a0_2, .int .i64 a0_3, .int .i64 a0_4, .int .i64 a0_5, .int .i64 a0_6] 74 (0, 0)) kz hb); have n2_ := Aside0.mk (below_step bs hb); clear BK258; clear HB; have HO265 := n0_; have BK258 := n1_; have HB := n2_; clear n0_ n1_ n2_; clear hb ho18; obtain ⟨Ao19, co19, eo19⟩ := Kd.R_slice HO265.out; subst eo19) | (go_at_call 42; (with_reducible refine (spec_among.calls kj4 a0_3 _ _ y263 t266 _ ?side1 ?side2 A15.out).mono ?_); (case side1 => repeat (first | exact (Kd.R_reads' HO265.out).2.2 | (with_reducible refine Kd.C_alloc ?_ _) | (with_reducible refine Kd.C_drewN ?_ _) | (with_reducible refine Kd.C_drew ?_))); (case side2 => exact (Kd.R_reads' HO265.out).2.1); rintro e w' ⟨rfl, ⟨nd, rfl⟩⟩))
       go_meet
       case rel => exact ⟨_, (t266), vz, H', ⟨by have := HJ4.out; first | omega | exact Nat.le_refl _⟩, ⟨kz⟩, ⟨bs⟩⟩
      ·rw [if_neg c14] at H
       have c14b0 : (a0_2 == 25) = false := beq_eq_false_iff_ne.mpr c14
       have c14b1 : (a0_2 != 25) = true := bne_iff_ne.mpr c14
       (first | rw [c14b0] | (simp only [i64_w]; rw [c14b0]) | skip)
       have H' := Aside0.mk H
       clear H
       have hcz20_0 : wc.cell? ⟨gb258, 0, none⟩ = some (.slice A0_0 l0_0.length c0_0) := (blk_cell BK258.out 0).trans rfl
       have hcz20_1 : wc.cell? ⟨gb258, 1, none⟩ = some (.int .i64 a0_1) := (blk_cell BK258.out 1).trans rfl
       have hcz20_2 : wc.cell? ⟨gb258, 2, none⟩ = some (.int .i64 a0_2) := (blk_cell BK258.out 2).trans rfl
       have hcz20_3 : wc.cell? ⟨gb258, 3, none⟩ = some (.int .i64 a0_3) := (blk_cell BK258.out 3).trans rfl
       have hcz20_4 : wc.cell? ⟨gb258, 4, none⟩ = some (.int .i64 a0_4) := (blk_cell BK258.out 4).trans rfl
       have hcz20_5 : wc.cell? ⟨gb258, 5, none⟩ = some (.int .i64 a0_5) := (blk_cell BK258.out 5).trans rfl
       have hcz20_6 : wc.cell? ⟨gb258, 6, none⟩ = some (.int .i64 a0_6) := (blk_cell BK258.out 6).trans rfl
       have hfz20_0 := blk_frozen BK258.out 0
       have hfz20_1 := blk_frozen BK258.out 1
       have hfz20_2 := blk_frozen BK258.out 2
       have hfz20_3 := blk_frozen BK258.out 3
       have hfz20_4 := blk_frozen BK258.out 4
       have hfz20_5 := blk_frozen BK258.out 5
       have hfz20_6 := blk_frozen BK258.out 6
       go_wp2
       go_meet
       case rel => exact ⟨_, (false), vz, H', ⟨by have := HJ4.out; first | omega | exact Nat.le_refl _⟩, ⟨kz⟩, ⟨bs⟩⟩
     case rest =>
      clear HC13
      obtain ⟨kq, x13_12, rfl, HA, HJ12, BK258, HB⟩ := hcut
      cases kq with
      | zero => exact absurd HA.out (by simp [spec_lbHyphens.j1])
      | succ kj12 =>
       have H := HA.out
       clear HA
       simp only [spec_lbHyphens.j1] at H
       by_cases c21 : x13_12 = true
       ·subst c21
        rw [if_pos rfl] at H
        obtain rfl := Option.some.inj H
        go_wp2
        go_ret
        exact ⟨ez, bs⟩
       ·replace c21 := Bool.eq_false_iff.mpr c21
        subst c21
        rw [if_neg (show ¬ (false = true) by decide)] at H
        have HC22 := Aside0.mk H
        clear H
        go_upto_region 8 with (fail)
        go_cut [23] (fun v23 wc => ∃ (kq : Nat) (x23_21 : Bool), v23 = .bool x23_21 ∧ Aside0 (spec_lbHyphens.j2 kq x23_21 l0_0 a0_1 a0_2 a0_3 a0_4 a0_5 a0_6 = some r) ∧ Aside0 (kq ≤ kj12) ∧ Aside0 (wc.heap[gb258]? = some (.cells #[(.slice A0_0 l0_0.length c0_0), .int .i64 a0_1, .int .i64 a0_2, .int .i64 a0_3, .int .i64 a0_4, .int .i64 a0_5, .int .i64 a0_6] 74 (0, 0))) ∧ Aside0 (Below w.heap.size w wc))
        case first =>
         have H := HC22.out
         clear HC22
         by_cases c23 : a0_3 = 42
         ·rw [if_pos c23] at H
          have c23b0 : (a0_3 == 42) = true := beq_iff_eq.mpr c23
          have c23b1 : (a0_3 != 42) = false := bne_eq_false_iff_eq.mpr c23
          clear c23
          (first | rw [c23b0] | (simp only [i64_w]; rw [c23b0]) | skip)
          have H' := Aside0.mk H
          clear H
          have hcz24_0 : wc.cell? ⟨gb258, 0, none⟩ = some (.slice A0_0 l0_0.length c0_0) := (blk_cell BK258.out 0).trans rfl
          have hcz24_1 : wc.cell? ⟨gb258, 1, none⟩ = some (.int .i64 a0_1) := (blk_cell BK258.out 1).trans rfl
          have hcz24_2 : wc.cell? ⟨gb258, 2, none⟩ = some (.int .i64 a0_2) := (blk_cell BK258.out 2).trans rfl
          have hcz24_3 : wc.cell? ⟨gb258, 3, none⟩ = some (.int .i64 a0_3) := (blk_cell BK258.out 3).trans rfl
          have hcz24_4 : wc.cell? ⟨gb258, 4, none⟩ = some (.int .i64 a0_4) := (blk_cell BK258.out 4).trans rfl
          have hcz24_5 : wc.cell? ⟨gb258, 5, none⟩ = some (.int .i64 a0_5) := (blk_cell BK258.out 5).trans rfl
          have hcz24_6 : wc.cell? ⟨gb258, 6, none⟩ = some (.int .i64 a0_6) := (blk_cell BK258.out 6).trans rfl
          have hfz24_0 := blk_frozen BK258.out 0
          have hfz24_1 := blk_frozen BK258.out 1
          have hfz24_2 := blk_frozen BK258.out 2
          have hfz24_3 := blk_frozen BK258.out 3
          have hfz24_4 := blk_frozen BK258.out 4
          have hfz24_5 := blk_frozen BK258.out 5
          have hfz24_6 := blk_frozen BK258.out 6
          go_wp2
          go_meet
          case rel => exact ⟨_, ((a0_4 == 25)), vz, H', ⟨by have := HJ4.out; have := HJ12.out; first | omega | exact Nat.le_refl _⟩, ⟨kz⟩, ⟨bs⟩⟩
         ·rw [if_neg c23] at H
          have c23b0 : (a0_3 == 42) = false := beq_eq_false_iff_ne.mpr c23
          have c23b1 : (a0_3 != 42) = true := bne_iff_ne.mpr c23
          (first | rw [c23b0] | (simp only [i64_w]; rw [c23b0]) | skip)
          have H' := Aside0.mk H
          clear H
          have hcz25_0 : wc.cell? ⟨gb258, 0, none⟩ = some (.slice A0_0 l0_0.length c0_0) := (blk_cell BK258.out 0).trans rfl
          have hcz25_1 : wc.cell? ⟨gb258, 1, none⟩ = some (.int .i64 a0_1) := (blk_cell BK258.out 1).trans rfl
          have hcz25_2 : wc.cell? ⟨gb258, 2, none⟩ = some (.int .i64 a0_2) := (blk_cell BK258.out 2).trans rfl
          have hcz25_3 : wc.cell? ⟨gb258, 3, none⟩ = some (.int .i64 a0_3) := (blk_cell BK258.out 3).trans rfl
          have hcz25_4 : wc.cell? ⟨gb258, 4, none⟩ = some (.int .i64 a0_4) := (blk_cell BK258.out 4).trans rfl
          have hcz25_5 : wc.cell? ⟨gb258, 5, none⟩ = some (.int .i64 a0_5) := (blk_cell BK258.out 5).trans rfl
          have hcz25_6 : wc.cell? ⟨gb258, 6, none⟩ = some (.int .i64 a0_6) := (blk_cell BK258.out 6).trans rfl
          have hfz25_0 := blk_frozen BK258.out 0
          have hfz25_1 := blk_frozen BK258.out 1
          have hfz25_2 := blk_frozen BK258.out 2
          have hfz25_3 := blk_frozen BK258.out 3
          have hfz25_4 := blk_frozen BK258.out 4
          have hfz25_5 := blk_frozen BK258.out 5
          have hfz25_6 := blk_frozen BK258.out 6
          go_wp2
          go_meet
          case rel => exact ⟨_, (false), vz, H', ⟨by have := HJ4.out; have := HJ12.out; first | omega | exact Nat.le_refl _⟩, ⟨kz⟩, ⟨bs⟩⟩
        case rest =>
         clear HC22
         obtain ⟨kq, x23_21, rfl, HA, HJ21, BK258, HB⟩ := hcut
         cases kq with
         | zero => exact absurd HA.out (by simp [spec_lbHyphens.j2])
         | succ kj21 =>
          have H := HA.out
          clear HA
          simp only [spec_lbHyphens.j2] at H
          by_cases c26 : x23_21 = true
          ·subst c26
           rw [if_pos rfl] at H
           obtain rfl := Option.some.inj H
           go_wp2
           go_ret
           exact ⟨ez, bs⟩
          ·replace c26 := Bool.eq_false_iff.mpr c26
           subst c26
           rw [if_neg (show ¬ (false = true) by decide)] at H
           by_cases c27 : a0_4 = 28
           ·rw [if_pos c27] at H
            have c27b0 : (a0_4 == 28) = true := beq_iff_eq.mpr c27
            have c27b1 : (a0_4 != 28) = false := bne_eq_false_iff_eq.mpr c27
            clear c27
            obtain rfl := Option.some.inj H
            have hcz28_0 : wc.cell? ⟨gb258, 0, none⟩ = some (.slice A0_0 l0_0.length c0_0) := (blk_cell BK258.out 0).trans rfl
            have hcz28_1 : wc.cell? ⟨gb258, 1, none⟩ = some (.int .i64 a0_1) := (blk_cell BK258.out 1).trans rfl
            have hcz28_2 : wc.cell? ⟨gb258, 2, none⟩ = some (.int .i64 a0_2) := (blk_cell BK258.out 2).trans rfl
            have hcz28_3 : wc.cell? ⟨gb258, 3, none⟩ = some (.int .i64 a0_3) := (blk_cell BK258.out 3).trans rfl
            have hcz28_4 : wc.cell? ⟨gb258, 4, none⟩ = some (.int .i64 a0_4) := (blk_cell BK258.out 4).trans rfl
            have hcz28_5 : wc.cell? ⟨gb258, 5, none⟩ = some (.int .i64 a0_5) := (blk_cell BK258.out 5).trans rfl
            have hcz28_6 : wc.cell? ⟨gb258, 6, none⟩ = some (.int .i64 a0_6) := (blk_cell BK258.out 6).trans rfl
            have hfz28_0 := blk_frozen BK258.out 0
            have hfz28_1 := blk_frozen BK258.out 1
            have hfz28_2 := blk_frozen BK258.out 2
            have hfz28_3 := blk_frozen BK258.out 3
            have hfz28_4 := blk_frozen BK258.out 4
            have hfz28_5 := blk_frozen BK258.out 5
            have hfz28_6 := blk_frozen BK258.out 6
            go_wp2
            go_ret
            exact ⟨ez, bs⟩
           ·rw [if_neg c27] at H
            have c27b0 : (a0_4 == 28) = false := beq_eq_false_iff_ne.mpr c27
            have c27b1 : (a0_4 != 28) = true := bne_iff_ne.mpr c27
            have HC29 := Aside0.mk H
            clear H
            have hcz30_0 : wc.cell? ⟨gb258, 0, none⟩ = some (.slice A0_0 l0_0.length c0_0) := (blk_cell BK258.out 0).trans rfl
            have hcz30_1 : wc.cell? ⟨gb258, 1, none⟩ = some (.int .i64 a0_1) := (blk_cell BK258.out 1).trans rfl
            have hcz30_2 : wc.cell? ⟨gb258, 2, none⟩ = some (.int .i64 a0_2) := (blk_cell BK258.out 2).trans rfl
            have hcz30_3 : wc.cell? ⟨gb258, 3, none⟩ = some (.int .i64 a0_3) := (blk_cell BK258.out 3).trans rfl
            have hcz30_4 : wc.cell? ⟨gb258, 4, none⟩ = some (.int .i64 a0_4) := (blk_cell BK258.out 4).trans rfl
            have hcz30_5 : wc.cell? ⟨gb258, 5, none⟩ = some (.int .i64 a0_5) := (blk_cell BK258.out 5).trans rfl
            have hcz30_6 : wc.cell? ⟨gb258, 6, none⟩ = some (.int .i64 a0_6) := (blk_cell BK258.out 6).trans rfl
            have hfz30_0 := blk_frozen BK258.out 0
            have hfz30_1 := blk_frozen BK258.out 1
            have hfz30_2 := blk_frozen BK258.out 2
            have hfz30_3 := blk_frozen BK258.out 3
            have hfz30_4 := blk_frozen BK258.out 4
            have hfz30_5 := blk_frozen BK258.out 5
            have hfz30_6 := blk_frozen BK258.out 6
            go_upto_region 12 with (fail)
            go_cut [36] (fun v36 wc => ∃ (kq : Nat) (x36_28 : Bool), v36 = .bool x36_28 ∧ Aside0 (spec_lbHyphens.j3 kq x36_28 l0_0 a0_1 a0_2 a0_3 a0_4 a0_5 a0_6 = some r) ∧ Aside0 (kq ≤ kj21) ∧ Aside0 (wc.heap[gb258]? = some (.cells #[(.slice A0_0 l0_0.length c0_0), .int .i64 a0_1, .int .i64 a0_2, .int .i64 a0_3, .int .i64 a0_4, .int .i64 a0_5, .int .i64 a0_6] 74 (0, 0))) ∧ Aside0 (Below w.heap.size w wc))
            case first =>
             have H := HC29.out
             clear HC29
             replace H := Option.bind_eq_some_iff.mp H
             obtain ⟨t267, A310, H⟩ := H
             try dsimp only at H
             have A31 := Aside0.mk A310
             clear A310
             by_cases c32 : t267 = true
             ·subst c32
              rw [if_pos rfl] at H
              have H' := Aside0.mk H
              clear H
              have hcz33_0 : wc.cell? ⟨gb258, 0, none⟩ = some (.slice A0_0 l0_0.length c0_0) := (blk_cell BK258.out 0).trans rfl
              have hcz33_1 : wc.cell? ⟨gb258, 1, none⟩ = some (.int .i64 a0_1) := (blk_cell BK258.out 1).trans rfl
              have hcz33_2 : wc.cell? ⟨gb258, 2, none⟩ = some (.int .i64 a0_2) := (blk_cell BK258.out 2).trans rfl
              have hcz33_3 : wc.cell? ⟨gb258, 3, none⟩ = some (.int .i64 a0_3) := (blk_cell BK258.out 3).trans rfl
              have hcz33_4 : wc.cell? ⟨gb258, 4, none⟩ = some (.int .i64 a0_4) := (blk_cell BK258.out 4).trans rfl
              have hcz33_5 : wc.cell? ⟨gb258, 5, none⟩ = some (.int .i64 a0_5) := (blk_cell BK258.out 5).trans rfl
              have hcz33_6 : wc.cell? ⟨gb258, 6, none⟩ = some (.int .i64 a0_6) := (blk_cell BK258.out 6).trans rfl
              have hfz33_0 := blk_frozen BK258.out 0
              have hfz33_1 := blk_frozen BK258.out 1
              have hfz33_2 := blk_frozen BK258.out 2
              have hfz33_3 := blk_frozen BK258.out 3
              have hfz33_4 := blk_frozen BK258.out 4
              have hfz33_5 := blk_frozen BK258.out 5
              have hfz33_6 := blk_frozen BK258.out 6
              go_wp2_with (first | ((with_reducible refine gate_callee (f := 86) rfl ?_); refine goesL_ (some 39) rfl rfl Try.func86 (by kernel_rfl) rfl #[.int .i64 a0_3] rfl mz ?_; (with_reducible refine (spec_lbLetter.calls kj21 a0_3 true _ A31.out).mono ?_); rintro e w34 ⟨rfl, hb⟩; refine ⟨_, rfl, ?_⟩; have n0_ := Aside0.mk (blk_below (g := gb258) (o := .cells #[.slice A0_0 l0_0.length c0_0, .int .i64 a0_1, .int .i64 a0_2, .int .i64 a0_3, .int .i64 a0_4, .int .i64 a0_5, .int .i64 a0_6] 74 (0, 0)) kz hb); have n1_ := Aside0.mk (below_step bs hb); clear BK258; clear HB; have BK258 := n0_; have HB := n1_; clear n0_ n1_; (try clear hb); (try clear hb2); (try clear hk); (try clear hi); have hcz35_0 : w34.cell? ⟨gb258, 0, none⟩ = some (.slice A0_0 l0_0.length c0_0) := (blk_cell BK258.out 0).trans rfl; have hcz35_1 : w34.cell? ⟨gb258, 1, none⟩ = some (.int .i64 a0_1) := (blk_cell BK258.out 1).trans rfl; have hcz35_2 : w34.cell? ⟨gb258, 2, none⟩ = some (.int .i64 a0_2) := (blk_cell BK258.out 2).trans rfl; have hcz35_3 : w34.cell? ⟨gb258, 3, none⟩ = some (.int .i64 a0_3) := (blk_cell BK258.out 3).trans rfl; have hcz35_4 : w34.cell? ⟨gb258, 4, none⟩ = some (.int .i64 a0_4) := (blk_cell BK258.out 4).trans rfl; have hcz35_5 : w34.cell? ⟨gb258, 5, none⟩ = some (.int .i64 a0_5) := (blk_cell BK258.out 5).trans rfl; have hcz35_6 : w34.cell? ⟨gb258, 6, none⟩ = some (.int .i64 a0_6) := (blk_cell BK258.out 6).trans rfl; have hfz35_0 := blk_frozen BK258.out 0; have hfz35_1 := blk_frozen BK258.out 1; have hfz35_2 := blk_frozen BK258.out 2; have hfz35_3 := blk_frozen BK258.out 3; have hfz35_4 := blk_frozen BK258.out 4; have hfz35_5 := blk_frozen BK258.out 5; have hfz35_6 := blk_frozen BK258.out 6))
              go_meet
              case rel => exact ⟨_, ((a0_4 == 34)), vz, H', ⟨by have := HJ4.out; have := HJ12.out; have := HJ21.out; first | omega | exact Nat.le_refl _⟩, ⟨kz⟩, ⟨bs⟩⟩
             ·replace c32 := Bool.eq_false_iff.mpr c32
              subst c32
              rw [if_neg (show ¬ (false = true) by decide)] at H
              have H' := Aside0.mk H
              clear H
              have hcz36_0 : wc.cell? ⟨gb258, 0, none⟩ = some (.slice A0_0 l0_0.length c0_0) := (blk_cell BK258.out 0).trans rfl
              have hcz36_1 : wc.cell? ⟨gb258, 1, none⟩ = some (.int .i64 a0_1) := (blk_cell BK258.out 1).trans rfl
              have hcz36_2 : wc.cell? ⟨gb258, 2, none⟩ = some (.int .i64 a0_2) := (blk_cell BK258.out 2).trans rfl
              have hcz36_3 : wc.cell? ⟨gb258, 3, none⟩ = some (.int .i64 a0_3) := (blk_cell BK258.out 3).trans rfl
              have hcz36_4 : wc.cell? ⟨gb258, 4, none⟩ = some (.int .i64 a0_4) := (blk_cell BK258.out 4).trans rfl
              have hcz36_5 : wc.cell? ⟨gb258, 5, none⟩ = some (.int .i64 a0_5) := (blk_cell BK258.out 5).trans rfl
              have hcz36_6 : wc.cell? ⟨gb258, 6, none⟩ = some (.int .i64 a0_6) := (blk_cell BK258.out 6).trans rfl
              have hfz36_0 := blk_frozen BK258.out 0
              have hfz36_1 := blk_frozen BK258.out 1
              have hfz36_2 := blk_frozen BK258.out 2
              have hfz36_3 := blk_frozen BK258.out 3
              have hfz36_4 := blk_frozen BK258.out 4
              have hfz36_5 := blk_frozen BK258.out 5
              have hfz36_6 := blk_frozen BK258.out 6
              go_wp2_with (first | ((with_reducible refine gate_callee (f := 86) rfl ?_); refine goesL_ (some 39) rfl rfl Try.func86 (by kernel_rfl) rfl #[.int .i64 a0_3] rfl mz ?_; (with_reducible refine (spec_lbLetter.calls kj21 a0_3 false _ A31.out).mono ?_); rintro e w37 ⟨rfl, hb⟩; refine ⟨_, rfl, ?_⟩; have n0_ := Aside0.mk (blk_below (g := gb258) (o := .cells #[.slice A0_0 l0_0.length c0_0, .int .i64 a0_1, .int .i64 a0_2, .int .i64 a0_3, .int .i64 a0_4, .int .i64 a0_5, .int .i64 a0_6] 74 (0, 0)) kz hb); have n1_ := Aside0.mk (below_step bs hb); clear BK258; clear HB; have BK258 := n0_; have HB := n1_; clear n0_ n1_; (try clear hb); (try clear hb2); (try clear hk); (try clear hi)))
              go_meet
              case rel => exact ⟨_, (false), vz, H', ⟨by have := HJ4.out; have := HJ12.out; have := HJ21.out; first | omega | exact Nat.le_refl _⟩, ⟨kz⟩, ⟨bs⟩⟩
            case rest =>
             clear HC29
             obtain ⟨kq, x36_28, rfl, HA, HJ28, BK258, HB⟩ := hcut
             cases kq with
             | zero => exact absurd HA.out (by simp [spec_lbHyphens.j3])
             | succ kj28 =>
              have H := HA.out
              clear HA
              simp only [spec_lbHyphens.j3] at H
              have HC38 := Aside0.mk H
              clear H
              go_upto_if 36 with (fail)
              go_cut [36] (fun v36 wc => ∃ (kq : Nat) (x36_37 : Bool), v36 = .bool x36_37 ∧ Aside0 (spec_lbHyphens.j4 kq x36_37 l0_0 a0_1 a0_2 a0_3 a0_4 a0_5 a0_6 = some r) ∧ Aside0 (kq ≤ kj28) ∧ Aside0 (wc.heap[gb258]? = some (.cells #[(.slice A0_0 l0_0.length c0_0), .int .i64 a0_1, .int .i64 a0_2, .int .i64 a0_3, .int .i64 a0_4, .int .i64 a0_5, .int .i64 a0_6] 74 (0, 0))) ∧ Aside0 (Below w.heap.size w wc))
              case first =>
               have H := HC38.out
               clear HC38
               by_cases c39 : x36_28 = true
               ·subst c39
                rw [if_pos rfl] at H
                have H' := Aside0.mk H
                clear H
                go_wp2
                go_meet
                case rel => exact ⟨_, (true), vz, H', ⟨by have := HJ4.out; have := HJ12.out; have := HJ21.out; have := HJ28.out; first | omega | exact Nat.le_refl _⟩, ⟨kz⟩, ⟨bs⟩⟩
               ·replace c39 := Bool.eq_false_iff.mpr c39
                subst c39
                rw [if_neg (show ¬ (false = true) by decide)] at H
                by_cases c40 : a0_3 = 34
                ·rw [if_pos c40] at H
                 have c40b0 : (a0_3 == 34) = true := beq_iff_eq.mpr c40
                 have c40b1 : (a0_3 != 34) = false := bne_eq_false_iff_eq.mpr c40
                 clear c40
                 (first | rw [c40b0] | (simp only [i64_w]; rw [c40b0]) | skip)
                 replace H := Option.bind_eq_some_iff.mp H
                 obtain ⟨t268, A410, H⟩ := H
                 try dsimp only at H
                 have A41 := Aside0.mk A410
                 clear A410
                 have H' := Aside0.mk H
                 clear H
                 have hcz42_0 : wc.cell? ⟨gb258, 0, none⟩ = some (.slice A0_0 l0_0.length c0_0) := (blk_cell BK258.out 0).trans rfl
                 have hcz42_1 : wc.cell? ⟨gb258, 1, none⟩ = some (.int .i64 a0_1) := (blk_cell BK258.out 1).trans rfl
                 have hcz42_2 : wc.cell? ⟨gb258, 2, none⟩ = some (.int .i64 a0_2) := (blk_cell BK258.out 2).trans rfl
                 have hcz42_3 : wc.cell? ⟨gb258, 3, none⟩ = some (.int .i64 a0_3) := (blk_cell BK258.out 3).trans rfl
                 have hcz42_4 : wc.cell? ⟨gb258, 4, none⟩ = some (.int .i64 a0_4) := (blk_cell BK258.out 4).trans rfl
                 have hcz42_5 : wc.cell? ⟨gb258, 5, none⟩ = some (.int .i64 a0_5) := (blk_cell BK258.out 5).trans rfl
                 have hcz42_6 : wc.cell? ⟨gb258, 6, none⟩ = some (.int .i64 a0_6) := (blk_cell BK258.out 6).trans rfl
                 have hfz42_0 := blk_frozen BK258.out 0
                 have hfz42_1 := blk_frozen BK258.out 1
                 have hfz42_2 := blk_frozen BK258.out 2
                 have hfz42_3 := blk_frozen BK258.out 3
                 have hfz42_4 := blk_frozen BK258.out 4
                 have hfz42_5 := blk_frozen BK258.out 5
                 have hfz42_6 := blk_frozen BK258.out 6
                 go_wp2_with (first | (go_at_call 86; (with_reducible refine (spec_lbLetter.calls kj28 a0_4 t268 _ A41.out).mono ?_); rintro e w43 ⟨rfl, hb⟩; have n0_ := Aside0.mk (blk_below (g := gb258) (o := .cells #[.slice A0_0 l0_0.length c0_0, .int .i64 a0_1, .int .i64 a0_2, .int .i64 a0_3, .int .i64 a0_4, .int .i64 a0_5, .int .i64 a0_6] 74 (0, 0)) kz hb); have n1_ := Aside0.mk (below_step bs hb); clear BK258; clear HB; have BK258 := n0_; have HB := n1_; clear n0_ n1_; (try clear hb); (try clear hb2); (try clear hk); (try clear hi)))
                 go_meet
                 case rel => exact ⟨_, (t268), vz, H', ⟨by have := HJ4.out; have := HJ12.out; have := HJ21.out; have := HJ28.out; first | omega | exact Nat.le_refl _⟩, ⟨kz⟩, ⟨bs⟩⟩
                ·rw [if_neg c40] at H
                 have c40b0 : (a0_3 == 34) = false := beq_eq_false_iff_ne.mpr c40
                 have c40b1 : (a0_3 != 34) = true := bne_iff_ne.mpr c40
                 (first | rw [c40b0] | (simp only [i64_w]; rw [c40b0]) | skip)
                 have H' := Aside0.mk H
                 clear H
                 have hcz44_0 : wc.cell? ⟨gb258, 0, none⟩ = some (.slice A0_0 l0_0.length c0_0) := (blk_cell BK258.out 0).trans rfl
                 have hcz44_1 : wc.cell? ⟨gb258, 1, none⟩ = some (.int .i64 a0_1) := (blk_cell BK258.out 1).trans rfl
                 have hcz44_2 : wc.cell? ⟨gb258, 2, none⟩ = some (.int .i64 a0_2) := (blk_cell BK258.out 2).trans rfl
                 have hcz44_3 : wc.cell? ⟨gb258, 3, none⟩ = some (.int .i64 a0_3) := (blk_cell BK258.out 3).trans rfl
                 have hcz44_4 : wc.cell? ⟨gb258, 4, none⟩ = some (.int .i64 a0_4) := (blk_cell BK258.out 4).trans rfl
                 have hcz44_5 : wc.cell? ⟨gb258, 5, none⟩ = some (.int .i64 a0_5) := (blk_cell BK258.out 5).trans rfl
                 have hcz44_6 : wc.cell? ⟨gb258, 6, none⟩ = some (.int .i64 a0_6) := (blk_cell BK258.out 6).trans rfl
                 have hfz44_0 := blk_frozen BK258.out 0
                 have hfz44_1 := blk_frozen BK258.out 1
                 have hfz44_2 := blk_frozen BK258.out 2
                 have hfz44_3 := blk_frozen BK258.out 3
                 have hfz44_4 := blk_frozen BK258.out 4
                 have hfz44_5 := blk_frozen BK258.out 5
                 have hfz44_6 := blk_frozen BK258.out 6
                 go_wp2
                 go_meet
                 case rel => exact ⟨_, (false), vz, H', ⟨by have := HJ4.out; have := HJ12.out; have := HJ21.out; have := HJ28.out; first | omega | exact Nat.le_refl _⟩, ⟨kz⟩, ⟨bs⟩⟩
              case rest =>
               clear HC38
               obtain ⟨kq, x36_37, rfl, HA, HJ37, BK258, HB⟩ := hcut
               cases kq with
               | zero => exact absurd HA.out (by simp [spec_lbHyphens.j4])
               | succ kj37 =>
                have H := HA.out
                clear HA
                simp only [spec_lbHyphens.j4] at H
                by_cases c45 : x36_37 = true
                ·subst c45
                 rw [if_pos rfl] at H
                 obtain rfl := Option.some.inj H
                 go_wp2
                 go_ret
                 exact ⟨ez, bs⟩
                ·replace c45 := Bool.eq_false_iff.mpr c45
                 subst c45
                 rw [if_neg (show ¬ (false = true) by decide)] at H
                 have HC46 := Aside0.mk H
                 clear H
                 go_upto_region 15 with (fail)
                 go_cut [53] (fun v53 wc => ∃ (kq : Nat) (x53_45 : Bool), v53 = .bool x53_45 ∧ Aside0 (spec_lbHyphens.j5 kq x53_45 l0_0 a0_1 a0_2 a0_3 a0_4 a0_5 a0_6 = some r) ∧ Aside0 (kq ≤ kj37) ∧ Aside0 (wc.heap[gb258]? = some (.cells #[(.slice A0_0 l0_0.length c0_0), .int .i64 a0_1, .int .i64 a0_2, .int .i64 a0_3, .int .i64 a0_4, .int .i64 a0_5, .int .i64 a0_6] 74 (0, 0))) ∧ Aside0 (Below w.heap.size w wc))
                 case first =>
                  have H := HC46.out
                  clear HC46
                  by_cases c47 : a0_3 = 37
                  ·rw [if_pos c47] at H
                   have c47b0 : (a0_3 == 37) = true := beq_iff_eq.mpr c47
                   have c47b1 : (a0_3 != 37) = false := bne_eq_false_iff_eq.mpr c47
                   clear c47
                   (first | rw [c47b0] | (simp only [i64_w]; rw [c47b0]) | skip)
                   replace H := Option.bind_eq_some_iff.mp H
                   obtain ⟨t269, A480, H⟩ := H
                   try dsimp only at H
                   have A48 := Aside0.mk A480
                   clear A480
                   have H' := Aside0.mk H
                   clear H
                   have hcz49_0 : wc.cell? ⟨gb258, 0, none⟩ = some (.slice A0_0 l0_0.length c0_0) := (blk_cell BK258.out 0).trans rfl
                   have hcz49_1 : wc.cell? ⟨gb258, 1, none⟩ = some (.int .i64 a0_1) := (blk_cell BK258.out 1).trans rfl
                   have hcz49_2 : wc.cell? ⟨gb258, 2, none⟩ = some (.int .i64 a0_2) := (blk_cell BK258.out 2).trans rfl
                   have hcz49_3 : wc.cell? ⟨gb258, 3, none⟩ = some (.int .i64 a0_3) := (blk_cell BK258.out 3).trans rfl
                   have hcz49_4 : wc.cell? ⟨gb258, 4, none⟩ = some (.int .i64 a0_4) := (blk_cell BK258.out 4).trans rfl
                   have hcz49_5 : wc.cell? ⟨gb258, 5, none⟩ = some (.int .i64 a0_5) := (blk_cell BK258.out 5).trans rfl
                   have hcz49_6 : wc.cell? ⟨gb258, 6, none⟩ = some (.int .i64 a0_6) := (blk_cell BK258.out 6).trans rfl
                   have hfz49_0 := blk_frozen BK258.out 0
                   have hfz49_1 := blk_frozen BK258.out 1
                   have hfz49_2 := blk_frozen BK258.out 2
                   have hfz49_3 := blk_frozen BK258.out 3
                   have hfz49_4 := blk_frozen BK258.out 4
                   have hfz49_5 := blk_frozen BK258.out 5
                   have hfz49_6 := blk_frozen BK258.out 6
                   go_wp2_with (first | (go_at_call 85; (with_reducible refine (spec_lbHyphens_2.calls kj37 a0_4 t269 _ A48.out).mono ?_); rintro e w50 ⟨rfl, hb⟩; have n0_ := Aside0.mk (blk_below (g := gb258) (o := .cells #[.slice A0_0 l0_0.length c0_0, .int .i64 a0_1, .int .i64 a0_2, .int .i64 a0_3, .int .i64 a0_4, .int .i64 a0_5, .int .i64 a0_6] 74 (0, 0)) kz hb); have n1_ := Aside0.mk (below_step bs hb); clear BK258; clear HB; have BK258 := n0_; have HB := n1_; clear n0_ n1_; (try clear hb); (try clear hb2); (try clear hk); (try clear hi)))
                   go_meet
                   case rel => exact ⟨_, (t269), vz, H', ⟨by have := HJ4.out; have := HJ12.out; have := HJ21.out; have := HJ28.out; have := HJ37.out; first | omega | exact Nat.le_refl _⟩, ⟨kz⟩, ⟨bs⟩⟩
                  ·rw [if_neg c47] at H
                   have c47b0 : (a0_3 == 37) = false := beq_eq_false_iff_ne.mpr c47
                   have c47b1 : (a0_3 != 37) = true := bne_iff_ne.mpr c47
                   (first | rw [c47b0] | (simp only [i64_w]; rw [c47b0]) | skip)
                   have H' := Aside0.mk H
                   clear H
                   have hcz51_0 : wc.cell? ⟨gb258, 0, none⟩ = some (.slice A0_0 l0_0.length c0_0) := (blk_cell BK258.out 0).trans rfl
                   have hcz51_1 : wc.cell? ⟨gb258, 1, none⟩ = some (.int .i64 a0_1) := (blk_cell BK258.out 1).trans rfl
                   have hcz51_2 : wc.cell? ⟨gb258, 2, none⟩ = some (.int .i64 a0_2) := (blk_cell BK258.out 2).trans rfl
                   have hcz51_3 : wc.cell? ⟨gb258, 3, none⟩ = some (.int .i64 a0_3) := (blk_cell BK258.out 3).trans rfl
                   have hcz51_4 : wc.cell? ⟨gb258, 4, none⟩ = some (.int .i64 a0_4) := (blk_cell BK258.out 4).trans rfl
                   have hcz51_5 : wc.cell? ⟨gb258, 5, none⟩ = some (.int .i64 a0_5) := (blk_cell BK258.out 5).trans rfl
                   have hcz51_6 : wc.cell? ⟨gb258, 6, none⟩ = some (.int .i64 a0_6) := (blk_cell BK258.out 6).trans rfl
                   have hfz51_0 := blk_frozen BK258.out 0
                   have hfz51_1 := blk_frozen BK258.out 1
                   have hfz51_2 := blk_frozen BK258.out 2
                   have hfz51_3 := blk_frozen BK258.out 3
                   have hfz51_4 := blk_frozen BK258.out 4
                   have hfz51_5 := blk_frozen BK258.out 5
                   have hfz51_6 := blk_frozen BK258.out 6
                   go_wp2
                   go_meet
                   case rel => exact ⟨_, (false), vz, H', ⟨by have := HJ4.out; have := HJ12.out; have := HJ21.out; have := HJ28.out; have := HJ37.out; first | omega | exact Nat.le_refl _⟩, ⟨kz⟩, ⟨bs⟩⟩
                 case rest =>
                  clear HC46
                  obtain ⟨kq, x53_45, rfl, HA, HJ45, BK258, HB⟩ := hcut
                  cases kq with
                  | zero => exact absurd HA.out (by simp [spec_lbHyphens.j5])
                  | succ kj45 =>
                   have H := HA.out
                   clear HA
                   simp only [spec_lbHyphens.j5] at H
                   by_cases c52 : x53_45 = true
                   ·subst c52
                    rw [if_pos rfl] at H
                    obtain rfl := Option.some.inj H
                    go_wp2
                    go_ret
                    exact ⟨ez, bs⟩
                   ·replace c52 := Bool.eq_false_iff.mpr c52
                    subst c52
                    rw [if_neg (show ¬ (false = true) by decide)] at H
                    replace H := Option.bind_eq_some_iff.mp H
                    obtain ⟨t270, A530, H⟩ := H
                    try dsimp only at H
                    have A53 := Aside0.mk A530
                    clear A530
                    by_cases c54 : t270 = true
                    ·subst c54
                     rw [if_pos rfl] at H
                     by_cases c55 : a0_4 = 36
                     ·rw [if_pos c55] at H
                      have c55b0 : (a0_4 == 36) = true := beq_iff_eq.mpr c55
                      have c55b1 : (a0_4 != 36) = false := bne_eq_false_iff_eq.mpr c55
                      clear c55
                      obtain rfl := Option.some.inj H
                      have hcz56_0 : wc.cell? ⟨gb258, 0, none⟩ = some (.slice A0_0 l0_0.length c0_0) := (blk_cell BK258.out 0).trans rfl
                      have hcz56_1 : wc.cell? ⟨gb258, 1, none⟩ = some (.int .i64 a0_1) := (blk_cell BK258.out 1).trans rfl
                      have hcz56_2 : wc.cell? ⟨gb258, 2, none⟩ = some (.int .i64 a0_2) := (blk_cell BK258.out 2).trans rfl
                      have hcz56_3 : wc.cell? ⟨gb258, 3, none⟩ = some (.int .i64 a0_3) := (blk_cell BK258.out 3).trans rfl
                      have hcz56_4 : wc.cell? ⟨gb258, 4, none⟩ = some (.int .i64 a0_4) := (blk_cell BK258.out 4).trans rfl
                      have hcz56_5 : wc.cell? ⟨gb258, 5, none⟩ = some (.int .i64 a0_5) := (blk_cell BK258.out 5).trans rfl
                      have hcz56_6 : wc.cell? ⟨gb258, 6, none⟩ = some (.int .i64 a0_6) := (blk_cell BK258.out 6).trans rfl
                      have hfz56_0 := blk_frozen BK258.out 0
                      have hfz56_1 := blk_frozen BK258.out 1
                      have hfz56_2 := blk_frozen BK258.out 2
                      have hfz56_3 := blk_frozen BK258.out 3
                      have hfz56_4 := blk_frozen BK258.out 4
                      have hfz56_5 := blk_frozen BK258.out 5
                      have hfz56_6 := blk_frozen BK258.out 6
                      go_wp2_with (first | (go_at_call 85; (with_reducible refine (spec_lbHyphens_2.calls kj45 a0_3 true _ A53.out).mono ?_); rintro e w57 ⟨rfl, hb⟩; have n0_ := Aside0.mk (blk_below (g := gb258) (o := .cells #[.slice A0_0 l0_0.length c0_0, .int .i64 a0_1, .int .i64 a0_2, .int .i64 a0_3, .int .i64 a0_4, .int .i64 a0_5, .int .i64 a0_6] 74 (0, 0)) kz hb); have n1_ := Aside0.mk (below_step bs hb); clear BK258; clear HB; have BK258 := n0_; have HB := n1_; clear n0_ n1_; (try clear hb); (try clear hb2); (try clear hk); (try clear hi); have hcz58_0 : w57.cell? ⟨gb258, 0, none⟩ = some (.slice A0_0 l0_0.length c0_0) := (blk_cell BK258.out 0).trans rfl; have hcz58_1 : w57.cell? ⟨gb258, 1, none⟩ = some (.int .i64 a0_1) := (blk_cell BK258.out 1).trans rfl; have hcz58_2 : w57.cell? ⟨gb258, 2, none⟩ = some (.int .i64 a0_2) := (blk_cell BK258.out 2).trans rfl; have hcz58_3 : w57.cell? ⟨gb258, 3, none⟩ = some (.int .i64 a0_3) := (blk_cell BK258.out 3).trans rfl; have hcz58_4 : w57.cell? ⟨gb258, 4, none⟩ = some (.int .i64 a0_4) := (blk_cell BK258.out 4).trans rfl; have hcz58_5 : w57.cell? ⟨gb258, 5, none⟩ = some (.int .i64 a0_5) := (blk_cell BK258.out 5).trans rfl; have hcz58_6 : w57.cell? ⟨gb258, 6, none⟩ = some (.int .i64 a0_6) := (blk_cell BK258.out 6).trans rfl; have hfz58_0 := blk_frozen BK258.out 0; have hfz58_1 := blk_frozen BK258.out 1; have hfz58_2 := blk_frozen BK258.out 2; have hfz58_3 := blk_frozen BK258.out 3; have hfz58_4 := blk_frozen BK258.out 4; have hfz58_5 := blk_frozen BK258.out 5; have hfz58_6 := blk_frozen BK258.out 6))
                      go_ret
                      exact ⟨ez, bs⟩
                     ·rw [if_neg c55] at H
                      have c55b0 : (a0_4 == 36) = false := beq_eq_false_iff_ne.mpr c55
                      have c55b1 : (a0_4 != 36) = true := bne_iff_ne.mpr c55
                      have H' := Aside0.mk H
                      clear H
                      have hcz59_0 : wc.cell? ⟨gb258, 0, none⟩ = some (.slice A0_0 l0_0.length c0_0) := (blk_cell BK258.out 0).trans rfl
                      have hcz59_1 : wc.cell? ⟨gb258, 1, none⟩ = some (.int .i64 a0_1) := (blk_cell BK258.out 1).trans rfl
                      have hcz59_2 : wc.cell? ⟨gb258, 2, none⟩ = some (.int .i64 a0_2) := (blk_cell BK258.out 2).trans rfl
                      have hcz59_3 : wc.cell? ⟨gb258, 3, none⟩ = some (.int .i64 a0_3) := (blk_cell BK258.out 3).trans rfl
                      have hcz59_4 : wc.cell? ⟨gb258, 4, none⟩ = some (.int .i64 a0_4) := (blk_cell BK258.out 4).trans rfl
                      have hcz59_5 : wc.cell? ⟨gb258, 5, none⟩ = some (.int .i64 a0_5) := (blk_cell BK258.out 5).trans rfl
                      have hcz59_6 : wc.cell? ⟨gb258, 6, none⟩ = some (.int .i64 a0_6) := (blk_cell BK258.out 6).trans rfl
                      have hfz59_0 := blk_frozen BK258.out 0
                      have hfz59_1 := blk_frozen BK258.out 1
                      have hfz59_2 := blk_frozen BK258.out 2
                      have hfz59_3 := blk_frozen BK258.out 3
                      have hfz59_4 := blk_frozen BK258.out 4
                      have hfz59_5 := blk_frozen BK258.out 5
                      have hfz59_6 := blk_frozen BK258.out 6
                      go_wp2_with (first | (go_at_call 85; (with_reducible refine (spec_lbHyphens_2.calls kj45 a0_3 true _ A53.out).mono ?_); rintro e w60 ⟨rfl, hb⟩; have n0_ := Aside0.mk (blk_below (g := gb258) (o := .cells #[.slice A0_0 l0_0.length c0_0, .int .i64 a0_1, .int .i64 a0_2, .int .i64 a0_3, .int .i64 a0_4, .int .i64 a0_5, .int .i64 a0_6] 74 (0, 0)) kz hb); have n1_ := Aside0.mk (below_step bs hb); clear BK258; clear HB; have BK258 := n0_; have HB := n1_; clear n0_ n1_; (try clear hb); (try clear hb2); (try clear hk); (try clear hi); have hcz61_0 : w60.cell? ⟨gb258, 0, none⟩ = some (.slice A0_0 l0_0.length c0_0) := (blk_cell BK258.out 0).trans rfl; have hcz61_1 : w60.cell? ⟨gb258, 1, none⟩ = some (.int .i64 a0_1) := (blk_cell BK258.out 1).trans rfl; have hcz61_2 : w60.cell? ⟨gb258, 2, none⟩ = some (.int .i64 a0_2) := (blk_cell BK258.out 2).trans rfl; have hcz61_3 : w60.cell? ⟨gb258, 3, none⟩ = some (.int .i64 a0_3) := (blk_cell BK258.out 3).trans rfl; have hcz61_4 : w60.cell? ⟨gb258, 4, none⟩ = some (.int .i64 a0_4) := (blk_cell BK258.out 4).trans rfl; have hcz61_5 : w60.cell? ⟨gb258, 5, none⟩ = some (.int .i64 a0_5) := (blk_cell BK258.out 5).trans rfl; have hcz61_6 : w60.cell? ⟨gb258, 6, none⟩ = some (.int .i64 a0_6) := (blk_cell BK258.out 6).trans rfl; have hfz61_0 := blk_frozen BK258.out 0; have hfz61_1 := blk_frozen BK258.out 1; have hfz61_2 := blk_frozen BK258.out 2; have hfz61_3 := blk_frozen BK258.out 3; have hfz61_4 := blk_frozen BK258.out 4; have hfz61_5 := blk_frozen BK258.out 5; have hfz61_6 := blk_frozen BK258.out 6))
                      go_meet
                      case rel => exact ⟨_, H', ⟨by have := HJ4.out; have := HJ12.out; have := HJ21.out; have := HJ28.out; have := HJ37.out; have := HJ45.out; first | omega | exact Nat.le_refl _⟩, ⟨kz⟩, ⟨bs⟩⟩
                    ·replace c54 := Bool.eq_false_iff.mpr c54
                     subst c54
                     rw [if_neg (show ¬ (false = true) by decide)] at H
                     have H' := Aside0.mk H
                     clear H
                     have hcz62_0 : wc.cell? ⟨gb258, 0, none⟩ = some (.slice A0_0 l0_0.length c0_0) := (blk_cell BK258.out 0).trans rfl
                     have hcz62_1 : wc.cell? ⟨gb258, 1, none⟩ = some (.int .i64 a0_1) := (blk_cell BK258.out 1).trans rfl
                     have hcz62_2 : wc.cell? ⟨gb258, 2, none⟩ = some (.int .i64 a0_2) := (blk_cell BK258.out 2).trans rfl
                     have hcz62_3 : wc.cell? ⟨gb258, 3, none⟩ = some (.int .i64 a0_3) := (blk_cell BK258.out 3).trans rfl
                     have hcz62_4 : wc.cell? ⟨gb258, 4, none⟩ = some (.int .i64 a0_4) := (blk_cell BK258.out 4).trans rfl
                     have hcz62_5 : wc.cell? ⟨gb258, 5, none⟩ = some (.int .i64 a0_5) := (blk_cell BK258.out 5).trans rfl
                     have hcz62_6 : wc.cell? ⟨gb258, 6, none⟩ = some (.int .i64 a0_6) := (blk_cell BK258.out 6).trans rfl
                     have hfz62_0 := blk_frozen BK258.out 0
                     have hfz62_1 := blk_frozen BK258.out 1
                     have hfz62_2 := blk_frozen BK258.out 2
                     have hfz62_3 := blk_frozen BK258.out 3
                     have hfz62_4 := blk_frozen BK258.out 4
                     have hfz62_5 := blk_frozen BK258.out 5
                     have hfz62_6 := blk_frozen BK258.out 6
                     go_wp2_with (first | (go_at_call 85; (with_reducible refine (spec_lbHyphens_2.calls kj45 a0_3 false _ A53.out).mono ?_); rintro e w63 ⟨rfl, hb⟩; have n0_ := Aside0.mk (blk_below (g := gb258) (o := .cells #[.slice A0_0 l0_0.length c0_0, .int .i64 a0_1, .int .i64 a0_2, .int .i64 a0_3, .int .i64 a0_4, .int .i64 a0_5, .int .i64 a0_6] 74 (0, 0)) kz hb); have n1_ := Aside0.mk (below_step bs hb); clear BK258; clear HB; have BK258 := n0_; have HB := n1_; clear n0_ n1_; (try clear hb); (try clear hb2); (try clear hk); (try clear hi)))
                     go_meet
                     case rel => exact ⟨_, H', ⟨by have := HJ4.out; have := HJ12.out; have := HJ21.out; have := HJ28.out; have := HJ37.out; have := HJ45.out; first | omega | exact Nat.le_refl _⟩, ⟨kz⟩, ⟨bs⟩⟩
 case rest =>
  clear HC2
  obtain ⟨kq, HA, HJ1, BK258, HB⟩ := hcut
  cases kq with
  | zero => exact absurd HA.out (by simp [spec_lbHyphens.j6])
  | succ kj1 =>
   have H := HA.out
   clear HA
   simp only [spec_lbHyphens.j6] at H
   replace H := Option.bind_eq_some_iff.mp H
   obtain ⟨t271, A640, H⟩ := H
   try dsimp only at H
   have A64 := Aside0.mk A640
   clear A640
   by_cases c65 : t271 = true
   ·subst c65
    rw [if_pos rfl] at H
    replace H := Option.bind_eq_some_iff.mp H
    obtain ⟨t272, A660, H⟩ := H
    try dsimp only at H
    have A66 := Aside0.mk A660
    clear A660
    by_cases c67 : t272 = true
    ·subst c67
     rw [if_pos rfl] at H
     obtain rfl := Option.some.inj H
     have hcz68_0 : wc.cell? ⟨gb258, 0, none⟩ = some (.slice A0_0 l0_0.length c0_0) := (blk_cell BK258.out 0).trans rfl
     have hcz68_1 : wc.cell? ⟨gb258, 1, none⟩ = some (.int .i64 a0_1) := (blk_cell BK258.out 1).trans rfl
     have hcz68_2 : wc.cell? ⟨gb258, 2, none⟩ = some (.int .i64 a0_2) := (blk_cell BK258.out 2).trans rfl
     have hcz68_3 : wc.cell? ⟨gb258, 3, none⟩ = some (.int .i64 a0_3) := (blk_cell BK258.out 3).trans rfl
     have hcz68_4 : wc.cell? ⟨gb258, 4, none⟩ = some (.int .i64 a0_4) := (blk_cell BK258.out 4).trans rfl
     have hcz68_5 : wc.cell? ⟨gb258, 5, none⟩ = some (.int .i64 a0_5) := (blk_cell BK258.out 5).trans rfl
     have hcz68_6 : wc.cell? ⟨gb258, 6, none⟩ = some (.int .i64 a0_6) := (blk_cell BK258.out 6).trans rfl
     have hfz68_0 := blk_frozen BK258.out 0
     have hfz68_1 := blk_frozen BK258.out 1
     have hfz68_2 := blk_frozen BK258.out 2
     have hfz68_3 := blk_frozen BK258.out 3
     have hfz68_4 := blk_frozen BK258.out 4
     have hfz68_5 := blk_frozen BK258.out 5
     have hfz68_6 := blk_frozen BK258.out 6
     go_wp2_with (first | (go_at_call 84; (with_reducible refine (spec_lbHyphens_1.calls kj1 a0_3 true _ A64.out).mono ?_); rintro e w69 ⟨rfl, hb⟩; have n0_ := Aside0.mk (blk_below (g := gb258) (o := .cells #[.slice A0_0 l0_0.length c0_0, .int .i64 a0_1, .int .i64 a0_2, .int .i64 a0_3, .int .i64 a0_4, .int .i64 a0_5, .int .i64 a0_6] 74 (0, 0)) kz hb); have n1_ := Aside0.mk (below_step bs hb); clear BK258; clear HB; have BK258 := n0_; have HB := n1_; clear n0_ n1_; (try clear hb); (try clear hb2); (try clear hk); (try clear hi); have hcz70_0 : w69.cell? ⟨gb258, 0, none⟩ = some (.slice A0_0 l0_0.length c0_0) := (blk_cell BK258.out 0).trans rfl; have hcz70_1 : w69.cell? ⟨gb258, 1, none⟩ = some (.int .i64 a0_1) := (blk_cell BK258.out 1).trans rfl; have hcz70_2 : w69.cell? ⟨gb258, 2, none⟩ = some (.int .i64 a0_2) := (blk_cell BK258.out 2).trans rfl; have hcz70_3 : w69.cell? ⟨gb258, 3, none⟩ = some (.int .i64 a0_3) := (blk_cell BK258.out 3).trans rfl; have hcz70_4 : w69.cell? ⟨gb258, 4, none⟩ = some (.int .i64 a0_4) := (blk_cell BK258.out 4).trans rfl; have hcz70_5 : w69.cell? ⟨gb258, 5, none⟩ = some (.int .i64 a0_5) := (blk_cell BK258.out 5).trans rfl; have hcz70_6 : w69.cell? ⟨gb258, 6, none⟩ = some (.int .i64 a0_6) := (blk_cell BK258.out 6).trans rfl; have hfz70_0 := blk_frozen BK258.out 0; have hfz70_1 := blk_frozen BK258.out 1; have hfz70_2 := blk_frozen BK258.out 2; have hfz70_3 := blk_frozen BK258.out 3; have hfz70_4 := blk_frozen BK258.out 4; have hfz70_5 := blk_frozen BK258.out 5; have hfz70_6 := blk_frozen BK258.out 6) | (go_at_call 86; (with_reducible refine (spec_lbLetter.calls kj1 a0_4 true _ A66.out).mono ?_); rintro e w71 ⟨rfl, hb⟩; have n0_ := Aside0.mk (blk_below (g := gb258) (o := .cells #[.slice A0_0 l0_0.length c0_0, .int .i64 a0_1, .int .i64 a0_2, .int .i64 a0_3, .int .i64 a0_4, .int .i64 a0_5, .int .i64 a0_6] 74 (0, 0)) kz hb); have n1_ := Aside0.mk (below_step bs hb); clear BK258; clear HB; have BK258 := n0_; have HB := n1_; clear n0_ n1_; (try clear hb); (try clear hb2); (try clear hk); (try clear hi)))
     go_ret
     exact ⟨ez, bs⟩
    ·replace c67 := Bool.eq_false_iff.mpr c67
     subst c67
     rw [if_neg (show ¬ (false = true) by decide)] at H
     replace H := Option.bind_eq_some_iff.mp H
     obtain ⟨t273, A720, H⟩ := H
     try dsimp only at H
     have A72 := Aside0.mk A720
     clear A720
     by_cases c73 : t273 = true
     ·subst c73
      rw [if_pos rfl] at H
      replace H := Option.bind_eq_some_iff.mp H
      obtain ⟨t274, A740, H⟩ := H
      try dsimp only at H
      have A74 := Aside0.mk A740
      clear A740
      obtain rfl := Option.some.inj H
      have hcz75_0 : wc.cell? ⟨gb258, 0, none⟩ = some (.slice A0_0 l0_0.length c0_0) := (blk_cell BK258.out 0).trans rfl
      have hcz75_1 : wc.cell? ⟨gb258, 1, none⟩ = some (.int .i64 a0_1) := (blk_cell BK258.out 1).trans rfl
      have hcz75_2 : wc.cell? ⟨gb258, 2, none⟩ = some (.int .i64 a0_2) := (blk_cell BK258.out 2).trans rfl
      have hcz75_3 : wc.cell? ⟨gb258, 3, none⟩ = some (.int .i64 a0_3) := (blk_cell BK258.out 3).trans rfl
      have hcz75_4 : wc.cell? ⟨gb258, 4, none⟩ = some (.int .i64 a0_4) := (blk_cell BK258.out 4).trans rfl
      have hcz75_5 : wc.cell? ⟨gb258, 5, none⟩ = some (.int .i64 a0_5) := (blk_cell BK258.out 5).trans rfl
      have hcz75_6 : wc.cell? ⟨gb258, 6, none⟩ = some (.int .i64 a0_6) := (blk_cell BK258.out 6).trans rfl
      have hfz75_0 := blk_frozen BK258.out 0
      have hfz75_1 := blk_frozen BK258.out 1
      have hfz75_2 := blk_frozen BK258.out 2
      have hfz75_3 := blk_frozen BK258.out 3
      have hfz75_4 := blk_frozen BK258.out 4
      have hfz75_5 := blk_frozen BK258.out 5
      have hfz75_6 := blk_frozen BK258.out 6
      go_wp2_with (first | (go_at_call 84; (with_reducible refine (spec_lbHyphens_1.calls kj1 a0_3 true _ A64.out).mono ?_); rintro e w76 ⟨rfl, hb⟩; have n0_ := Aside0.mk (blk_below (g := gb258) (o := .cells #[.slice A0_0 l0_0.length c0_0, .int .i64 a0_1, .int .i64 a0_2, .int .i64 a0_3, .int .i64 a0_4, .int .i64 a0_5, .int .i64 a0_6] 74 (0, 0)) kz hb); have n1_ := Aside0.mk (below_step bs hb); clear BK258; clear HB; have BK258 := n0_; have HB := n1_; clear n0_ n1_; (try clear hb); (try clear hb2); (try clear hk); (try clear hi); have hcz77_0 : w76.cell? ⟨gb258, 0, none⟩ = some (.slice A0_0 l0_0.length c0_0) := (blk_cell BK258.out 0).trans rfl; have hcz77_1 : w76.cell? ⟨gb258, 1, none⟩ = some (.int .i64 a0_1) := (blk_cell BK258.out 1).trans rfl; have hcz77_2 : w76.cell? ⟨gb258, 2, none⟩ = some (.int .i64 a0_2) := (blk_cell BK258.out 2).trans rfl; have hcz77_3 : w76.cell? ⟨gb258, 3, none⟩ = some (.int .i64 a0_3) := (blk_cell BK258.out 3).trans rfl; have hcz77_4 : w76.cell? ⟨gb258, 4, none⟩ = some (.int .i64 a0_4) := (blk_cell BK258.out 4).trans rfl; have hcz77_5 : w76.cell? ⟨gb258, 5, none⟩ = some (.int .i64 a0_5) := (blk_cell BK258.out 5).trans rfl; have hcz77_6 : w76.cell? ⟨gb258, 6, none⟩ = some (.int .i64 a0_6) := (blk_cell BK258.out 6).trans rfl; have hfz77_0 := blk_frozen BK258.out 0; have hfz77_1 := blk_frozen BK258.out 1; have hfz77_2 := blk_frozen BK258.out 2; have hfz77_3 := blk_frozen BK258.out 3; have hfz77_4 := blk_frozen BK258.out 4; have hfz77_5 := blk_frozen BK258.out 5; have hfz77_6 := blk_frozen BK258.out 6) | (go_at_call 86; (with_reducible refine (spec_lbLetter.calls kj1 a0_4 false _ A66.out).mono ?_); rintro e w78 ⟨rfl, hb⟩; have n0_ := Aside0.mk (blk_below (g := gb258) (o := .cells #[.slice A0_0 l0_0.length c0_0, .int .i64 a0_1, .int .i64 a0_2, .int .i64 a0_3, .int .i64 a0_4, .int .i64 a0_5, .int .i64 a0_6] 74 (0, 0)) kz hb); have n1_ := Aside0.mk (below_step bs hb); clear BK258; clear HB; have BK258 := n0_; have HB := n1_; clear n0_ n1_; (try clear hb); (try clear hb2); (try clear hk); (try clear hi); have hcz79_0 : w78.cell? ⟨gb258, 0, none⟩ = some (.slice A0_0 l0_0.length c0_0) := (blk_cell BK258.out 0).trans rfl; have hcz79_1 : w78.cell? ⟨gb258, 1, none⟩ = some (.int .i64 a0_1) := (blk_cell BK258.out 1).trans rfl; have hcz79_2 : w78.cell? ⟨gb258, 2, none⟩ = some (.int .i64 a0_2) := (blk_cell BK258.out 2).trans rfl; have hcz79_3 : w78.cell? ⟨gb258, 3, none⟩ = some (.int .i64 a0_3) := (blk_cell BK258.out 3).trans rfl; have hcz79_4 : w78.cell? ⟨gb258, 4, none⟩ = some (.int .i64 a0_4) := (blk_cell BK258.out 4).trans rfl; have hcz79_5 : w78.cell? ⟨gb258, 5, none⟩ = some (.int .i64 a0_5) := (blk_cell BK258.out 5).trans rfl; have hcz79_6 : w78.cell? ⟨gb258, 6, none⟩ = some (.int .i64 a0_6) := (blk_cell BK258.out 6).trans rfl; have hfz79_0 := blk_frozen BK258.out 0; have hfz79_1 := blk_frozen BK258.out 1; have hfz79_2 := blk_frozen BK258.out 2; have hfz79_3 := blk_frozen BK258.out 3; have hfz79_4 := blk_frozen BK258.out 4; have hfz79_5 := blk_frozen BK258.out 5; have hfz79_6 := blk_frozen BK258.out 6) | (go_at_call 86; (with_reducible refine (spec_lbLetter.calls kj1 a0_3 true _ A72.out).mono ?_); rintro e w80 ⟨rfl, hb⟩; have n0_ := Aside0.mk (blk_below (g := gb258) (o := .cells #[.slice A0_0 l0_0.length c0_0, .int .i64 a0_1, .int .i64 a0_2, .int .i64 a0_3, .int .i64 a0_4, .int .i64 a0_5, .int .i64 a0_6] 74 (0, 0)) kz hb); have n1_ := Aside0.mk (below_step bs hb); clear BK258; clear HB; have BK258 := n0_; have HB := n1_; clear n0_ n1_; (try clear hb); (try clear hb2); (try clear hk); (try clear hi); have hcz81_0 : w80.cell? ⟨gb258, 0, none⟩ = some (.slice A0_0 l0_0.length c0_0) := (blk_cell BK258.out 0).trans rfl; have hcz81_1 : w80.cell? ⟨gb258, 1, none⟩ = some (.int .i64 a0_1) := (blk_cell BK258.out 1).trans rfl; have hcz81_2 : w80.cell? ⟨gb258, 2, none⟩ = some (.int .i64 a0_2) := (blk_cell BK258.out 2).trans rfl; have hcz81_3 : w80.cell? ⟨gb258, 3, none⟩ = some (.int .i64 a0_3) := (blk_cell BK258.out 3).trans rfl; have hcz81_4 : w80.cell? ⟨gb258, 4, none⟩ = some (.int .i64 a0_4) := (blk_cell BK258.out 4).trans rfl; have hcz81_5 : w80.cell? ⟨gb258, 5, none⟩ = some (.int .i64 a0_5) := (blk_cell BK258.out 5).trans rfl; have hcz81_6 : w80.cell? ⟨gb258, 6, none⟩ = some (.int .i64 a0_6) := (blk_cell BK258.out 6).trans rfl; have hfz81_0 := blk_frozen BK258.out 0; have hfz81_1 := blk_frozen BK258.out 1; have hfz81_2 := blk_frozen BK258.out 2; have hfz81_3 := blk_frozen BK258.out 3; have hfz81_4 := blk_frozen BK258.out 4; have hfz81_5 := blk_frozen BK258.out 5; have hfz81_6 := blk_frozen BK258.out 6) | (go_at_call 84; (with_reducible refine (spec_lbHyphens_1.calls kj1 a0_4 t274 _ A74.out).mono ?_); rintro e w82 ⟨rfl, hb⟩; have n0_ := Aside0.mk (blk_below (g := gb258) (o := .cells #[.slice A0_0 l0_0.length c0_0, .int .i64 a0_1, .int .i64 a0_2, .int .i64 a0_3, .int .i64 a0_4, .int .i64 a0_5, .int .i64 a0_6] 74 (0, 0)) kz hb); have n1_ := Aside0.mk (below_step bs hb); clear BK258; clear HB; have BK258 := n0_; have HB := n1_; clear n0_ n1_; (try clear hb); (try clear hb2); (try clear hk); (try clear hi)))
      go_ret
      exact ⟨ez, bs⟩
     ·replace c73 := Bool.eq_false_iff.mpr c73
      subst c73
      rw [if_neg (show ¬ (false = true) by decide)] at H
      obtain rfl := Option.some.inj H
      have hcz83_0 : wc.cell? ⟨gb258, 0, none⟩ = some (.slice A0_0 l0_0.length c0_0) := (blk_cell BK258.out 0).trans rfl
      have hcz83_1 : wc.cell? ⟨gb258, 1, none⟩ = some (.int .i64 a0_1) := (blk_cell BK258.out 1).trans rfl
      have hcz83_2 : wc.cell? ⟨gb258, 2, none⟩ = some (.int .i64 a0_2) := (blk_cell BK258.out 2).trans rfl
      have hcz83_3 : wc.cell? ⟨gb258, 3, none⟩ = some (.int .i64 a0_3) := (blk_cell BK258.out 3).trans rfl
      have hcz83_4 : wc.cell? ⟨gb258, 4, none⟩ = some (.int .i64 a0_4) := (blk_cell BK258.out 4).trans rfl
      have hcz83_5 : wc.cell? ⟨gb258, 5, none⟩ = some (.int .i64 a0_5) := (blk_cell BK258.out 5).trans rfl
      have hcz83_6 : wc.cell? ⟨gb258, 6, none⟩ = some (.int .i64 a0_6) := (blk_cell BK258.out 6).trans rfl
      have hfz83_0 := blk_frozen BK258.out 0
      have hfz83_1 := blk_frozen BK258.out 1
      have hfz83_2 := blk_frozen BK258.out 2
      have hfz83_3 := blk_frozen BK258.out 3
      have hfz83_4 := blk_frozen BK258.out 4
      have hfz83_5 := blk_frozen BK258.out 5
      have hfz83_6 := blk_frozen BK258.out 6
      go_wp2_with (first | (go_at_call 84; (with_reducible refine (spec_lbHyphens_1.calls kj1 a0_3 true _ A64.out).mono ?_); rintro e w84 ⟨rfl, hb⟩; have n0_ := Aside0.mk (blk_below (g := gb258) (o := .cells #[.slice A0_0 l0_0.length c0_0, .int .i64 a0_1, .int .i64 a0_2, .int .i64 a0_3, .int .i64 a0_4, .int .i64 a0_5, .int .i64 a0_6] 74 (0, 0)) kz hb); have n1_ := Aside0.mk (below_step bs hb); clear BK258; clear HB; have BK258 := n0_; have HB := n1_; clear n0_ n1_; (try clear hb); (try clear hb2); (try clear hk); (try clear hi); have hcz85_0 : w84.cell? ⟨gb258, 0, none⟩ = some (.slice A0_0 l0_0.length c0_0) := (blk_cell BK258.out 0).trans rfl; have hcz85_1 : w84.cell? ⟨gb258, 1, none⟩ = some (.int .i64 a0_1) := (blk_cell BK258.out 1).trans rfl; have hcz85_2 : w84.cell? ⟨gb258, 2, none⟩ = some (.int .i64 a0_2) := (blk_cell BK258.out 2).trans rfl; have hcz85_3 : w84.cell? ⟨gb258, 3, none⟩ = some (.int .i64 a0_3) := (blk_cell BK258.out 3).trans rfl; have hcz85_4 : w84.cell? ⟨gb258, 4, none⟩ = some (.int .i64 a0_4) := (blk_cell BK258.out 4).trans rfl; have hcz85_5 : w84.cell? ⟨gb258, 5, none⟩ = some (.int .i64 a0_5) := (blk_cell BK258.out 5).trans rfl; have hcz85_6 : w84.cell? ⟨gb258, 6, none⟩ = some (.int .i64 a0_6) := (blk_cell BK258.out 6).trans rfl; have hfz85_0 := blk_frozen BK258.out 0; have hfz85_1 := blk_frozen BK258.out 1; have hfz85_2 := blk_frozen BK258.out 2; have hfz85_3 := blk_frozen BK258.out 3; have hfz85_4 := blk_frozen BK258.out 4; have hfz85_5 := blk_frozen BK258.out 5; have hfz85_6 := blk_frozen BK258.out 6) | (go_at_call 86; (with_reducible refine (spec_lbLetter.calls kj1 a0_4 false _ A66.out).mono ?_); rintro e w86 ⟨rfl, hb⟩; have n0_ := Aside0.mk (blk_below (g := gb258) (o := .cells #[.slice A0_0 l0_0.length c0_0, .int .i64 a0_1, .int .i64 a0_2, .int .i64 a0_3, .int .i64 a0_4, .int .i64 a0_5, .int .i64 a0_6] 74 (0, 0)) kz hb); have n1_ := Aside0.mk (below_step bs hb); clear BK258; clear HB; have BK258 := n0_; have HB := n1_; clear n0_ n1_; (try clear hb); (try clear hb2); (try clear hk); (try clear hi); have hcz87_0 : w86.cell? ⟨gb258, 0, none⟩ = some (.slice A0_0 l0_0.length c0_0) := (blk_cell BK258.out 0).trans rfl; have hcz87_1 : w86.cell? ⟨gb258, 1, none⟩ = some (.int .i64 a0_1) := (blk_cell BK258.out 1).trans rfl; have hcz87_2 : w86.cell? ⟨gb258, 2, none⟩ = some (.int .i64 a0_2) := (blk_cell BK258.out 2).trans rfl; have hcz87_3 : w86.cell? ⟨gb258, 3, none⟩ = some (.int .i64 a0_3) := (blk_cell BK258.out 3).trans rfl; have hcz87_4 : w86.cell? ⟨gb258, 4, none⟩ = some (.int .i64 a0_4) := (blk_cell BK258.out 4).trans rfl; have hcz87_5 : w86.cell? ⟨gb258, 5, none⟩ = some (.int .i64 a0_5) := (blk_cell BK258.out 5).trans rfl; have hcz87_6 : w86.cell? ⟨gb258, 6, none⟩ = some (.int .i64 a0_6) := (blk_cell BK258.out 6).trans rfl; have hfz87_0 := blk_frozen BK258.out 0; have hfz87_1 := blk_frozen BK258.out 1; have hfz87_2 := blk_frozen BK258.out 2; have hfz87_3 := blk_frozen BK258.out 3; have hfz87_4 := blk_frozen BK258.out 4; have hfz87_5 := blk_frozen BK258.out 5; have hfz87_6 := blk_frozen BK258.out 6) | (go_at_call 86; (with_reducible refine (spec_lbLetter.calls kj1 a0_3 false _ A72.out).mono ?_); rintro e w88 ⟨rfl, hb⟩; have n0_ := Aside0.mk (blk_below (g := gb258) (o := .cells #[.slice A0_0 l0_0.length c0_0, .int .i64 a0_1, .int .i64 a0_2, .int .i64 a0_3, .int .i64 a0_4, .int .i64 a0_5, .int .i64 a0_6] 74 (0, 0)) kz hb); have n1_ := Aside0.mk (below_step bs hb); clear BK258; clear HB; have BK258 := n0_; have HB := n1_; clear n0_ n1_; (try clear hb); (try clear hb2); (try clear hk); (try clear hi)))
      go_ret
      exact ⟨ez, bs⟩
   ·replace c65 := Bool.eq_false_iff.mpr c65
    subst c65
    rw [if_neg (show ¬ (false = true) by decide)] at H
    replace H := Option.bind_eq_some_iff.mp H
    obtain ⟨t275, A890, H⟩ := H
    try dsimp only at H
    have A89 := Aside0.mk A890
    clear A890
    by_cases c90 : t275 = true
    ·subst c90
     rw [if_pos rfl] at H
     replace H := Option.bind_eq_some_iff.mp H
     obtain ⟨t276, A910, H⟩ := H
     try dsimp only at H
     have A91 := Aside0.mk A910
     clear A910
     obtain rfl := Option.some.inj H
     have hcz92_0 : wc.cell? ⟨gb258, 0, none⟩ = some (.slice A0_0 l0_0.length c0_0) := (blk_cell BK258.out 0).trans rfl
     have hcz92_1 : wc.cell? ⟨gb258, 1, none⟩ = some (.int .i64 a0_1) := (blk_cell BK258.out 1).trans rfl
     have hcz92_2 : wc.cell? ⟨gb258, 2, none⟩ = some (.int .i64 a0_2) := (blk_cell BK258.out 2).trans rfl
     have hcz92_3 : wc.cell? ⟨gb258, 3, none⟩ = some (.int .i64 a0_3) := (blk_cell BK258.out 3).trans rfl
     have hcz92_4 : wc.cell? ⟨gb258, 4, none⟩ = some (.int .i64 a0_4) := (blk_cell BK258.out 4).trans rfl
     have hcz92_5 : wc.cell? ⟨gb258, 5, none⟩ = some (.int .i64 a0_5) := (blk_cell BK258.out 5).trans rfl
     have hcz92_6 : wc.cell? ⟨gb258, 6, none⟩ = some (.int .i64 a0_6) := (blk_cell BK258.out 6).trans rfl
     have hfz92_0 := blk_frozen BK258.out 0
     have hfz92_1 := blk_frozen BK258.out 1
     have hfz92_2 := blk_frozen BK258.out 2
     have hfz92_3 := blk_frozen BK258.out 3
     have hfz92_4 := blk_frozen BK258.out 4
     have hfz92_5 := blk_frozen BK258.out 5
     have hfz92_6 := blk_frozen BK258.out 6
     go_wp2_with (first | (go_at_call 84; (with_reducible refine (spec_lbHyphens_1.calls kj1 a0_3 false _ A64.out).mono ?_); rintro e w93 ⟨rfl, hb⟩; have n0_ := Aside0.mk (blk_below (g := gb258) (o := .cells #[.slice A0_0 l0_0.length c0_0, .int .i64 a0_1, .int .i64 a0_2, .int .i64 a0_3, .int .i64 a0_4, .int .i64 a0_5, .int .i64 a0_6] 74 (0, 0)) kz hb); have n1_ := Aside0.mk (below_step bs hb); clear BK258; clear HB; have BK258 := n0_; have HB := n1_; clear n0_ n1_; (try clear hb); (try clear hb2); (try clear hk); (try clear hi); have hcz94_0 : w93.cell? ⟨gb258, 0, none⟩ = some (.slice A0_0 l0_0.length c0_0) := (blk_cell BK258.out 0).trans rfl; have hcz94_1 : w93.cell? ⟨gb258, 1, none⟩ = some (.int .i64 a0_1) := (blk_cell BK258.out 1).trans rfl; have hcz94_2 : w93.cell? ⟨gb258, 2, none⟩ = some (.int .i64 a0_2) := (blk_cell BK258.out 2).trans rfl; have hcz94_3 : w93.cell? ⟨gb258, 3, none⟩ = some (.int .i64 a0_3) := (blk_cell BK258.out 3).trans rfl; have hcz94_4 : w93.cell? ⟨gb258, 4, none⟩ = some (.int .i64 a0_4) := (blk_cell BK258.out 4).trans rfl; have hcz94_5 : w93.cell? ⟨gb258, 5, none⟩ = some (.int .i64 a0_5) := (blk_cell BK258.out 5).trans rfl; have hcz94_6 : w93.cell? ⟨gb258, 6, none⟩ = some (.int .i64 a0_6) := (blk_cell BK258.out 6).trans rfl; have hfz94_0 := blk_frozen BK258.out 0; have hfz94_1 := blk_frozen BK258.out 1; have hfz94_2 := blk_frozen BK258.out 2; have hfz94_3 := blk_frozen BK258.out 3; have hfz94_4 := blk_frozen BK258.out 4; have hfz94_5 := blk_frozen BK258.out 5; have hfz94_6 := blk_frozen BK258.out 6) | (go_at_call 86; (with_reducible refine (spec_lbLetter.calls kj1 a0_3 true _ A89.out).mono ?_); rintro e w95 ⟨rfl, hb⟩; have n0_ := Aside0.mk (blk_below (g := gb258) (o := .cells #[.slice A0_0 l0_0.length c0_0, .int .i64 a0_1, .int .i64 a0_2, .int .i64 a0_3, .int .i64 a0_4, .int .i64 a0_5, .int .i64 a0_6] 74 (0, 0)) kz hb); have n1_ := Aside0.mk (below_step bs hb); clear BK258; clear HB; have BK258 := n0_; have HB := n1_; clear n0_ n1_; (try clear hb); (try clear hb2); (try clear hk); (try clear hi); have hcz96_0 : w95.cell? ⟨gb258, 0, none⟩ = some (.slice A0_0 l0_0.length c0_0) := (blk_cell BK258.out 0).trans rfl; have hcz96_1 : w95.cell? ⟨gb258, 1, none⟩ = some (.int .i64 a0_1) := (blk_cell BK258.out 1).trans rfl; have hcz96_2 : w95.cell? ⟨gb258, 2, none⟩ = some (.int .i64 a0_2) := (blk_cell BK258.out 2).trans rfl; have hcz96_3 : w95.cell? ⟨gb258, 3, none⟩ = some (.int .i64 a0_3) := (blk_cell BK258.out 3).trans rfl; have hcz96_4 : w95.cell? ⟨gb258, 4, none⟩ = some (.int .i64 a0_4) := (blk_cell BK258.out 4).trans rfl; have hcz96_5 : w95.cell? ⟨gb258, 5, none⟩ = some (.int .i64 a0_5) := (blk_cell BK258.out 5).trans rfl; have hcz96_6 : w95.cell? ⟨gb258, 6, none⟩ = some (.int .i64 a0_6) := (blk_cell BK258.out 6).trans rfl; have hfz96_0 := blk_frozen BK258.out 0; have hfz96_1 := blk_frozen BK258.out 1; have hfz96_2 := blk_frozen BK258.out 2; have hfz96_3 := blk_frozen BK258.out 3; have hfz96_4 := blk_frozen BK258.out 4; have hfz96_5 := blk_frozen BK258.out 5; have hfz96_6 := blk_frozen BK258.out 6) | (go_at_call 84; (with_reducible refine (spec_lbHyphens_1.calls kj1 a0_4 t276 _ A91.out).mono ?_); rintro e w97 ⟨rfl, hb⟩; have n0_ := Aside0.mk (blk_below (g := gb258) (o := .cells #[.slice A0_0 l0_0.length c0_0, .int .i64 a0_1, .int .i64 a0_2, .int .i64 a0_3, .int .i64 a0_4, .int .i64 a0_5, .int .i64 a0_6] 74 (0, 0)) kz hb); have n1_ := Aside0.mk (below_step bs hb); clear BK258; clear HB; have BK258 := n0_; have HB := n1_; clear n0_ n1_; (try clear hb); (try clear hb2); (try clear hk); (try clear hi)))
     go_ret
     exact ⟨ez, bs⟩
    ·replace c90 := Bool.eq_false_iff.mpr c90
     subst c90
     rw [if_neg (show ¬ (false = true) by decide)] at H
     obtain rfl := Option.some.inj H
     have hcz98_0 : wc.cell? ⟨gb258, 0, none⟩ = some (.slice A0_0 l0_0.length c0_0) := (blk_cell BK258.out 0).trans rfl
     have hcz98_1 : wc.cell? ⟨gb258, 1, none⟩ = some (.int .i64 a0_1) := (blk_cell BK258.out 1).trans rfl
     have hcz98_2 : wc.cell? ⟨gb258, 2, none⟩ = some (.int .i64 a0_2) := (blk_cell BK258.out 2).trans rfl
     have hcz98_3 : wc.cell? ⟨gb258, 3, none⟩ = some (.int .i64 a0_3) := (blk_cell BK258.out 3).trans rfl
     have hcz98_4 : wc.cell? ⟨gb258, 4, none⟩ = some (.int .i64 a0_4) := (blk_cell BK258.out 4).trans rfl
     have hcz98_5 : wc.cell? ⟨gb258, 5, none⟩ = some (.int .i64 a0_5) := (blk_cell BK258.out 5).trans rfl
     have hcz98_6 : wc.cell? ⟨gb258, 6, none⟩ = some (.int .i64 a0_6) := (blk_cell BK258.out 6).trans rfl
     have hfz98_0 := blk_frozen BK258.out 0
     have hfz98_1 := blk_frozen BK258.out 1
     have hfz98_2 := blk_frozen BK258.out 2
     have hfz98_3 := blk_frozen BK258.out 3
     have hfz98_4 := blk_frozen BK258.out 4
     have hfz98_5 := blk_frozen BK258.out 5
     have hfz98_6 := blk_frozen BK258.out 6
     go_wp2_with (first | (go_at_call 84; (with_reducible refine (spec_lbHyphens_1.calls kj1 a0_3 false _ A64.out).mono ?_); rintro e w99 ⟨rfl, hb⟩; have n0_ := Aside0.mk (blk_below (g := gb258) (o := .cells #[.slice A0_0 l0_0.length c0_0, .int .i64 a0_1, .int .i64 a0_2, .int .i64 a0_3, .int .i64 a0_4, .int .i64 a0_5, .int .i64 a0_6] 74 (0, 0)) kz hb); have n1_ := Aside0.mk (below_step bs hb); clear BK258; clear HB; have BK258 := n0_; have HB := n1_; clear n0_ n1_; (try clear hb); (try clear hb2); (try clear hk); (try clear hi); have hcz100_0 : w99.cell? ⟨gb258, 0, none⟩ = some (.slice A0_0 l0_0.length c0_0) := (blk_cell BK258.out 0).trans rfl; have hcz100_1 : w99.cell? ⟨gb258, 1, none⟩ = some (.int .i64 a0_1) := (blk_cell BK258.out 1).trans rfl; have hcz100_2 : w99.cell? ⟨gb258, 2, none⟩ = some (.int .i64 a0_2) := (blk_cell BK258.out 2).trans rfl; have hcz100_3 : w99.cell? ⟨gb258, 3, none⟩ = some (.int .i64 a0_3) := (blk_cell BK258.out 3).trans rfl; have hcz100_4 : w99.cell? ⟨gb258, 4, none⟩ = some (.int .i64 a0_4) := (blk_cell BK258.out 4).trans rfl; have hcz100_5 : w99.cell? ⟨gb258, 5, none⟩ = some (.int .i64 a0_5) := (blk_cell BK258.out 5).trans rfl; have hcz100_6 : w99.cell? ⟨gb258, 6, none⟩ = some (.int .i64 a0_6) := (blk_cell BK258.out 6).trans rfl; have hfz100_0 := blk_frozen BK258.out 0; have hfz100_1 := blk_frozen BK258.out 1; have hfz100_2 := blk_frozen BK258.out 2; have hfz100_3 := blk_frozen BK258.out 3; have hfz100_4 := blk_frozen BK258.out 4; have hfz100_5 := blk_frozen BK258.out 5; have hfz100_6 := blk_frozen BK258.out 6) | (go_at_call 86; (with_reducible refine (spec_lbLetter.calls kj1 a0_3 false _ A89.out).mono ?_); rintro e w101 ⟨rfl, hb⟩; have n0_ := Aside0.mk (blk_below (g := gb258) (o := .cells #[.slice A0_0 l0_0.length c0_0, .int .i64 a0_1, .int .i64 a0_2, .int .i64 a0_3, .int .i64 a0_4, .int .i64 a0_5, .int .i64 a0_6] 74 (0, 0)) kz hb); have n1_ := Aside0.mk (below_step bs hb); clear BK258; clear HB; have BK258 := n0_; have HB := n1_; clear n0_ n1_; (try clear hb); (try clear hb2); (try clear hk); (try clear hi)))
     go_ret
     exact ⟨ez, bs⟩

end Go.Proofs.Ytnanfoahimccpaa.Ln
