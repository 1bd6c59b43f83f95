/- Functions of the translation as Lean functions, and their walks: lines written by a program, a turned copy of the kit's print. -/
import Derived.Test.YtnanfoahimccpaaLnx0
import Derived.Test.YtnanfoahimccpaaLnx1
namespace Go.Proofs.Ytnanfoahimccpaa.Ln
open Go.RowKit Go.Proofs.YtnanfoahimccpaaW.PrintWords Go.Proofs.YtnanfoahimccpaaW.PrintLast Go.Proofs.YtnanfoahimccpaaW.PrintMore
attribute [local go_sem] max2_int max_two
set_option linter.unusedVariables false
set_option linter.unusedSimpArgs false

mutual
def spec_lbHangul.j0 : Nat → Bool → List (S64) → Int → Int → Int → Int → Int → Int → Option (Bool)
 | 0, _, _, _, _, _, _, _, _ => none
 | k + 1, x4, x278000, x278001, x278002, x278003, x278004, x278005, x278006 => if x4 = true then (some true) else ((spec_among.f k x278003 (([32, 23] : List Int))).bind fun t285 => (if t285 = true then ((spec_among.f k x278004 (([32, 31] : List Int))).bind fun t289 => (spec_lbHangul.j1 k t289 x278000 x278001 x278002 x278003 x278004 x278005 x278006)) else (spec_lbHangul.j1 k false x278000 x278001 x278002 x278003 x278004 x278005 x278006)))
def spec_lbHangul.j1 : Nat → Bool → List (S64) → Int → Int → Int → Int → Int → Int → Option (Bool)
 | 0, _, _, _, _, _, _, _, _ => none
 | k + 1, x14, x278000, x278001, x278002, x278003, x278004, x278005, x278006 => if x14 = true then (some true) else ((spec_among.f k x278003 (([31, 24] : List Int))).bind fun t293 => (if t293 = true then (spec_lbHangul.j2 k (x278004 == 31) x278000 x278001 x278002 x278003 x278004 x278005 x278006) else (spec_lbHangul.j2 k false x278000 x278001 x278002 x278003 x278004 x278005 x278006)))
def spec_lbHangul.j2 : Nat → Bool → List (S64) → Int → Int → Int → Int → Int → Int → Option (Bool)
 | 0, _, _, _, _, _, _, _, _ => none
 | k + 1, x25, x278000, x278001, x278002, x278003, x278004, x278005, x278006 => if x25 = true then (some true) else ((spec_lbHangul_1.f k x278003).bind fun t294 => (if t294 = true then (if x278004 = 36 then (some true) else (if x278003 = 37 then ((spec_lbHangul_1.f k x278004).bind fun t295 => (some t295)) else (some false))) else (if x278003 = 37 then ((spec_lbHangul_1.f k x278004).bind fun t296 => (some t296)) else (some false))))
end
def spec_lbHangul.f (k : Nat) (l0_0 : List (S64)) (a0_1 : Int) (a0_2 : Int) (a0_3 : Int) (a0_4 : Int) (a0_5 : Int) (a0_6 : Int) : Option (Bool) := if a0_3 = 30 then ((spec_among.f k a0_4 (([30, 32, 23, 24] : List Int))).bind fun t281 => (spec_lbHangul.j0 k t281 l0_0 a0_1 a0_2 a0_3 a0_4 a0_5 a0_6)) else (spec_lbHangul.j0 k false l0_0 a0_1 a0_2 a0_3 a0_4 a0_5 a0_6)
set_option maxHeartbeats 8000000 in
set_option maxRecDepth 100000 in
theorem spec_lbHangul.calls (k : Nat) (A0_0 : Option Addr) (c0_0 : Nat) (l0_0 : List (S64)) (a0_1 : Int) (a0_2 : Int) (a0_3 : Int) (a0_4 : Int) (a0_5 : Int) (a0_6 : Int) (r : Bool) (w : World) (hr0_0 : Kd.C k64 w A0_0 l0_0.length l0_0) (hc0_0 : l0_0.length ≤ c0_0) (h : spec_lbHangul.f k l0_0 a0_1 a0_2 a0_3 a0_4 a0_5 a0_6 = some r) :
  Calls Try.prog 68 #[.agg #[.slice A0_0 l0_0.length c0_0, .int .i64 a0_1, .int .i64 a0_2, .int .i64 a0_3, .int .i64 a0_4, .int .i64 a0_5, .int .i64 a0_6]] w fun e w' => e = .returned (.bool r) ∧ Below w.heap.size w w' := by
 have hu74 := Try.underlying74
 have HR0_0 := Aside0.mk hr0_0
 have HC0_0 := Aside0.mk hc0_0
 clear hr0_0 hc0_0
 have HB := Aside0.mk (Below.refl w.heap.size w)
 have H : (if a0_3 = 30 then ((spec_among.f k a0_4 (([30, 32, 23, 24] : List Int))).bind fun t281 => (spec_lbHangul.j0 k t281 l0_0 a0_1 a0_2 a0_3 a0_4 a0_5 a0_6)) else (spec_lbHangul.j0 k false l0_0 a0_1 a0_2 a0_3 a0_4 a0_5 a0_6)) = some r := h
 clear h
 have HC2 := Aside0.mk H
 clear H
 go_enter Try.func68, Try.ntmps68
 go_upto_region 2 with (first | ((with_reducible refine gate_dst (N := 1) rfl ?_); (try (refine gate_guard (by rfl) ?_; dsimp only)); refine box_event ?hg (N := 1) ?hd (cs := #[.slice A0_0 l0_0.length c0_0, .int .i64 a0_1, .int .i64 a0_2, .int .i64 a0_3, .int .i64 a0_4, .int .i64 a0_5, .int .i64 a0_6]) (t := 74) ?hr ?_; (case hd => rfl); (case hg => rfl); (case hr => first | (go_simp; done) | (go_simp; rfl)); intro gb277 hg w3 hbox hb; have n0_ := Aside0.mk (below_step bz hb); have n1_ := Aside0.mk (hbox); have n2_ := Aside0.mk ((by rw [hg]; exact (below_size bz) : w.heap.size ≤ gb277)); have n3_ := Aside0.mk ((by rw [hg]; exact (below_size bz) : w.heap.size ≤ gb277)); clear HB; have HB := n0_; have BK277 := n1_; have GW277 := n2_; have GE277 := n3_; clear n0_ n1_ n2_ n3_; clear hb hbox hg))
 (try simp only [Act.put, List.setIfInBounds_toArray, List.set_cons_zero, List.set_cons_succ])
 go_cut [4] (fun v4 wc => ∃ (kq : Nat) (x4_1 : Bool), v4 = .bool x4_1 ∧ Aside0 (spec_lbHangul.j0 kq x4_1 l0_0 a0_1 a0_2 a0_3 a0_4 a0_5 a0_6 = some r) ∧ Aside0 (kq ≤ k) ∧ Aside0 (wc.heap[gb277]? = some (.cells #[(.slice A0_0 l0_0.length c0_0), .int .i64 a0_1, .int .i64 a0_2, .int .i64 a0_3, .int .i64 a0_4, .int .i64 a0_5, .int .i64 a0_6] 74 (0, 0))) ∧ Aside0 (Below w.heap.size w wc))
 case first =>
  have H := HC2.out
  clear HC2
  by_cases c4 : a0_3 = 30
  ·rw [if_pos c4] at H
   have c4b0 : (a0_3 == 30) = true := beq_iff_eq.mpr c4
   have c4b1 : (a0_3 != 30) = false := bne_eq_false_iff_eq.mpr c4
   clear c4
   (first | rw [c4b0] | (simp only [i64_w]; rw [c4b0]) | skip)
   obtain ⟨y278, hy278⟩ : ∃ y_ : List Int, y_ = (([30, 32, 23, 24] : List Int)) := ⟨_, rfl⟩
   first | rw [← hy278] at H | simp only [← hy278] at H
   have Ny278 := Aside0.mk hy278
   clear hy278
   replace H := Option.bind_eq_some_iff.mp H
   obtain ⟨t281, A50, H⟩ := H
   try dsimp only at H
   have A5 := Aside0.mk A50
   clear A50
   have H' := Aside0.mk H
   clear H
   have hcz6_0 : w3.cell? ⟨gb277, 0, none⟩ = some (.slice A0_0 l0_0.length c0_0) := (blk_cell BK277.out 0).trans rfl
   have hcz6_1 : w3.cell? ⟨gb277, 1, none⟩ = some (.int .i64 a0_1) := (blk_cell BK277.out 1).trans rfl
   have hcz6_2 : w3.cell? ⟨gb277, 2, none⟩ = some (.int .i64 a0_2) := (blk_cell BK277.out 2).trans rfl
   have hcz6_3 : w3.cell? ⟨gb277, 3, none⟩ = some (.int .i64 a0_3) := (blk_cell BK277.out 3).trans rfl
   have hcz6_4 : w3.cell? ⟨gb277, 4, none⟩ = some (.int .i64 a0_4) := (blk_cell BK277.out 4).trans rfl
   have hcz6_5 : w3.cell? ⟨gb277, 5, none⟩ = some (.int .i64 a0_5) := (blk_cell BK277.out 5).trans rfl
   have hcz6_6 : w3.cell? ⟨gb277, 6, none⟩ = some (.int .i64 a0_6) := (blk_cell BK277.out 6).trans rfl
   have hfz6_0 := blk_frozen BK277.out 0
   have hfz6_1 := blk_frozen BK277.out 1
   have hfz6_2 := blk_frozen BK277.out 2
   have hfz6_3 := blk_frozen BK277.out 3
   have hfz6_4 := blk_frozen BK277.out 4
   have hfz6_5 := blk_frozen BK277.out 5
   have hfz6_6 := blk_frozen BK277.out 6
   go_wp2_with (first | ((with_reducible refine gate_dst (N := 11) rfl ?_); (try (refine gate_guard (by rfl) ?_; dsimp only)); refine Kd.R_lit (Kd.int .i64) _ 3 ?hg (N := 11) ?hd (xs := ([30, 32, 23, 24] : List Int)) (inner := [.int .i64 30, .int .i64 32, .int .i64 23, .int .i64 24]) (ok := fun _ => True) (okp := fun _ => True) ?hr ?hp (fun _ hk => hk) trivial (Below.refl _ _) (Nat.le_refl _) (by simp) ?_; (case hd => rfl); (case hg => rfl); (case hr => first | (go_simp; done) | (go_simp; rfl)); (case hp => exact (Reps.one (show Kd.M (Kd.int .i64) _ _ _ 30 [.int .i64 30] from rfl) (Reps.one (show Kd.M (Kd.int .i64) _ _ _ 32 [.int .i64 32] from rfl) (Reps.one (show Kd.M (Kd.int .i64) _ _ _ 23 [.int .i64 23] from rfl) (Reps.one (show Kd.M (Kd.int .i64) _ _ _ 24 [.int .i64 24] from rfl) (Reps.none _ _)))))); intro v279 w7 ho8 hb hg_ hnew_; clear hg_ hnew_; (first | rw [← Ny278.out] at ho8 | (simp only [Int.reduceToNat] at ho8; rw [← Ny278.out] at ho8)); have n0_ := Aside0.mk (Kd.R_lower ho8 (below_size bs)); have n1_ := Aside0.mk (blk_below (g := gb277) (o := .cells #[.slice A0_0 l0_0.length c0_0, .int .i64 a0_1, .int .i64 a0_2, .int .i64 a0_3, .int .i64 a0_4, .int .i64 a0_5, .int .i64 a0_6] 74 (0, 0)) kz hb); have n2_ := Aside0.mk (below_step bs hb); clear BK277; clear HB; have HO280 := n0_; have BK277 := n1_; have HB := n2_; clear n0_ n1_ n2_; clear hb ho8; obtain ⟨Ao9, co9, eo9⟩ := Kd.R_slice HO280.out; subst eo9) | (go_at_call 42; (with_reducible refine (spec_among.calls k a0_4 _ _ y278 t281 _ ?side1 ?side2 A5.out).mono ?_); (case side1 => repeat (first | exact (Kd.R_reads' HO280.out).2.2 | (with_reducible refine Kd.C_alloc ?_ _) | (with_reducible refine Kd.C_drewN ?_ _) | (with_reducible refine Kd.C_drew ?_))); (case side2 => exact (Kd.R_reads' HO280.out).2.1); rintro e w' ⟨rfl, ⟨nd, rfl⟩⟩))
   go_meet
   case rel => exact ⟨_, (t281), vz, H', ⟨by first | omega | exact Nat.le_refl _⟩, ⟨kz⟩, ⟨bs⟩⟩
  ·rw [if_neg c4] at H
   have c4b0 : (a0_3 == 30) = false := beq_eq_false_iff_ne.mpr c4
   have c4b1 : (a0_3 != 30) = true := bne_iff_ne.mpr c4
   (first | rw [c4b0] | (simp only [i64_w]; rw [c4b0]) | skip)
   have H' := Aside0.mk H
   clear H
   have hcz10_0 : w3.cell? ⟨gb277, 0, none⟩ = some (.slice A0_0 l0_0.length c0_0) := (blk_cell BK277.out 0).trans rfl
   have hcz10_1 : w3.cell? ⟨gb277, 1, none⟩ = some (.int .i64 a0_1) := (blk_cell BK277.out 1).trans rfl
   have hcz10_2 : w3.cell? ⟨gb277, 2, none⟩ = some (.int .i64 a0_2) := (blk_cell BK277.out 2).trans rfl
   have hcz10_3 : w3.cell? ⟨gb277, 3, none⟩ = some (.int .i64 a0_3) := (blk_cell BK277.out 3).trans rfl
   have hcz10_4 : w3.cell? ⟨gb277, 4, none⟩ = some (.int .i64 a0_4) := (blk_cell BK277.out 4).trans rfl
   have hcz10_5 : w3.cell? ⟨gb277, 5, none⟩ = some (.int .i64 a0_5) := (blk_cell BK277.out 5).trans rfl
   have hcz10_6 : w3.cell? ⟨gb277, 6, none⟩ = some (.int .i64 a0_6) := (blk_cell BK277.out 6).trans rfl
   have hfz10_0 := blk_frozen BK277.out 0
   have hfz10_1 := blk_frozen BK277.out 1
   have hfz10_2 := blk_frozen BK277.out 2
   have hfz10_3 := blk_frozen BK277.out 3
   have hfz10_4 := blk_frozen BK277.out 4
   have hfz10_5 := blk_frozen BK277.out 5
   have hfz10_6 := blk_frozen BK277.out 6
   go_wp2
   go_meet
   case rel => exact ⟨_, (false), vz, H', ⟨by first | omega | exact Nat.le_refl _⟩, ⟨kz⟩, ⟨bs⟩⟩
 case rest =>
  clear HC2
  obtain ⟨kq, x4_1, rfl, HA, HJ1, BK277, HB⟩ := hcut
  cases kq with
  | zero => exact absurd HA.out (by simp [spec_lbHangul.j0])
  | succ kj1 =>
   have H := HA.out
   clear HA
   simp only [spec_lbHangul.j0] at H
   by_cases c11 : x4_1 = true
   ·subst c11
    rw [if_pos rfl] at H
    obtain rfl := Option.some.inj H
    go_wp2
    go_ret
    exact ⟨ez, bs⟩
   ·replace c11 := Bool.eq_false_iff.mpr c11
    subst c11
    rw [if_neg (show ¬ (false = true) by decide)] at H
    have HC12 := Aside0.mk H
    clear H
    go_upto_region 4 with (fail)
    go_cut [14] (fun v14 wc => ∃ (kq : Nat) (x14_11 : Bool), v14 = .bool x14_11 ∧ Aside0 (spec_lbHangul.j1 kq x14_11 l0_0 a0_1 a0_2 a0_3 a0_4 a0_5 a0_6 = some r) ∧ Aside0 (kq ≤ kj1) ∧ Aside0 (wc.heap[gb277]? = some (.cells #[(.slice A0_0 l0_0.length c0_0), .int .i64 a0_1, .int .i64 a0_2, .int .i64 a0_3, .int .i64 a0_4, .int .i64 a0_5, .int .i64 a0_6] 74 (0, 0))) ∧ Aside0 (Below w.heap.size w wc))
    case first =>
     have H := HC12.out
     clear HC12
     obtain ⟨y282, hy282⟩ : ∃ y_ : List Int, y_ = (([32, 23] : List Int)) := ⟨_, rfl⟩
     first | rw [← hy282] at H | simp only [← hy282] at H
     have Ny282 := Aside0.mk hy282
     clear hy282
     replace H := Option.bind_eq_some_iff.mp H
     obtain ⟨t285, A130, H⟩ := H
     try dsimp only at H
     have A13 := Aside0.mk A130
     clear A130
     by_cases c14 : t285 = true
     ·subst c14
      rw [if_pos rfl] at H
      obtain ⟨y286, hy286⟩ : ∃ y_ : List Int, y_ = (([32, 31] : List Int)) := ⟨_, rfl⟩
      first | rw [← hy286] at H | simp only [← hy286] at H
      have Ny286 := Aside0.mk hy286
      clear hy286
      replace H := Option.bind_eq_some_iff.mp H
      obtain ⟨t289, A150, H⟩ := H
      try dsimp only at H
      have A15 := Aside0.mk A150
      clear A150
      have H' := Aside0.mk H
      clear H
      have hcz16_0 : wc.cell? ⟨gb277, 0, none⟩ = some (.slice A0_0 l0_0.length c0_0) := (blk_cell BK277.out 0).trans rfl
      have hcz16_1 : wc.cell? ⟨gb277, 1, none⟩ = some (.int .i64 a0_1) := (blk_cell BK277.out 1).trans rfl
      have hcz16_2 : wc.cell? ⟨gb277, 2, none⟩ = some (.int .i64 a0_2) := (blk_cell BK277.out 2).trans rfl
      have hcz16_3 : wc.cell? ⟨gb277, 3, none⟩ = some (.int .i64 a0_3) := (blk_cell BK277.out 3).trans rfl
      have hcz16_4 : wc.cell? ⟨gb277, 4, none⟩ = some (.int .i64 a0_4) := (blk_cell BK277.out 4).trans rfl
      have hcz16_5 : wc.cell? ⟨gb277, 5, none⟩ = some (.int .i64 a0_5) := (blk_cell BK277.out 5).trans rfl
      have hcz16_6 : wc.cell? ⟨gb277, 6, none⟩ = some (.int .i64 a0_6) := (blk_cell BK277.out 6).trans rfl
      have hfz16_0 := blk_frozen BK277.out 0
      have hfz16_1 := blk_frozen BK277.out 1
      have hfz16_2 := blk_frozen BK277.out 2
      have hfz16_3 := blk_frozen BK277.out 3
      have hfz16_4 := blk_frozen BK277.out 4
      have hfz16_5 := blk_frozen BK277.out 5
      have hfz16_6 := blk_frozen BK277.out 6
      go_wp2_with (first | ((with_reducible refine gate_dst (N := 17) rfl ?_); (try (refine gate_guard (by rfl) ?_; dsimp only)); refine Kd.R_lit (Kd.int .i64) _ 3 ?hg (N := 17) ?hd (xs := ([32, 23] : List Int)) (inner := [.int .i64 32, .int .i64 23]) (ok := fun _ => True) (okp := fun _ => True) ?hr ?hp (fun _ hk => hk) trivial (Below.refl _ _) (Nat.le_refl _) (by simp) ?_; (case hd => rfl); (case hg => rfl); (case hr => first | (go_simp; done) | (go_simp; rfl)); (case hp => exact (Reps.one (show Kd.M (Kd.int .i64) _ _ _ 32 [.int .i64 32] from rfl) (Reps.one (show Kd.M (Kd.int .i64) _ _ _ 23 [.int .i64 23] from rfl) (Reps.none _ _)))); intro v283 w17 ho18 hb hg_ hnew_; clear hg_ hnew_; (first | rw [← Ny282.out] at ho18 | (simp only [Int.reduceToNat] at ho18; rw [← Ny282.out] at ho18)); have n0_ := Aside0.mk (Kd.R_lower ho18 (below_size bs)); have n1_ := Aside0.mk (blk_below (g := gb277) (o := .cells #[.slice A0_0 l0_0.length c0_0, .int .i64 a0_1, .int .i64 a0_2, .int .i64 a0_3, .int .i64 a0_4, .int .i64 a0_5, .int .i64 a0_6] 74 (0, 0)) kz hb); have n2_ := Aside0.mk (below_step bs hb); clear BK277; clear HB; have HO284 := n0_; have BK277 := n1_; have HB := n2_; clear n0_ n1_ n2_; clear hb ho18; obtain ⟨Ao19, co19, eo19⟩ := Kd.R_slice HO284.out; subst eo19) | ((with_reducible refine gate_callee (f := 42) rfl ?_); refine goesL_ (some 18) rfl rfl Try.func42 (by kernel_rfl) rfl #[.int .i64 a0_3, .slice Ao19 y282.length co19] rfl mz ?_; (with_reducible refine (spec_among.calls kj1 a0_3 _ _ y282 true _ ?side1 ?side2 A13.out).mono ?_); (case side1 => repeat (first | exact (Kd.R_reads' HO284.out).2.2 | (with_reducible refine Kd.C_alloc ?_ _) | (with_reducible refine Kd.C_drewN ?_ _) | (with_reducible refine Kd.C_drew ?_))); (case side2 => exact (Kd.R_reads' HO284.out).2.1); rintro e w' ⟨rfl, ⟨nd, rfl⟩⟩; refine ⟨_, rfl, ?_⟩; have hcz20_0 : w17.cell? ⟨gb277, 0, none⟩ = some (.slice A0_0 l0_0.length c0_0) := (blk_cell BK277.out 0).trans rfl; have hcz20_1 : w17.cell? ⟨gb277, 1, none⟩ = some (.int .i64 a0_1) := (blk_cell BK277.out 1).trans rfl; have hcz20_2 : w17.cell? ⟨gb277, 2, none⟩ = some (.int .i64 a0_2) := (blk_cell BK277.out 2).trans rfl; have hcz20_3 : w17.cell? ⟨gb277, 3, none⟩ = some (.int .i64 a0_3) := (blk_cell BK277.out 3).trans rfl; have hcz20_4 : w17.cell? ⟨gb277, 4, none⟩ = some (.int .i64 a0_4) := (blk_cell BK277.out 4).trans rfl; have hcz20_5 : w17.cell? ⟨gb277, 5, none⟩ = some (.int .i64 a0_5) := (blk_cell BK277.out 5).trans rfl; have hcz20_6 : w17.cell? ⟨gb277, 6, none⟩ = some (.int .i64 a0_6) := (blk_cell BK277.out 6).trans rfl; have hfz20_0 := blk_frozen BK277.out 0; have hfz20_1 := blk_frozen BK277.out 1; have hfz20_2 := blk_frozen BK277.out 2; have hfz20_3 := blk_frozen BK277.out 3; have hfz20_4 := blk_frozen BK277.out 4; have hfz20_5 := blk_frozen BK277.out 5; have hfz20_6 := blk_frozen BK277.out 6) | ((with_reducible refine gate_dst (N := 22) rfl ?_); (try (refine gate_guard (by rfl) ?_; dsimp only)); refine Kd.R_lit (Kd.int .i64) _ 3 ?hg (N := 22) ?hd (xs := ([32, 31] : List Int)) (inner := [.int .i64 32, .int .i64 31]) (ok := fun _ => True) (okp := fun _ => True) ?hr ?hp (fun _ hk => hk) trivial (Below.refl _ _) (Nat.le_refl _) (by simp) ?_; (case hd => rfl); (case hg => rfl); (case hr => first | (go_simp; done) | (go_simp; rfl)); (case hp => exact (Reps.one (show Kd.M (Kd.int .i64) _ _ _ 32 [.int .i64 32] from rfl) (Reps.one (show Kd.M (Kd.int .i64) _ _ _ 31 [.int .i64 31] from rfl) (Reps.none _ _)))); intro v287 w21 ho22 hb hg_ hnew_; clear hg_ hnew_; (first | rw [← Ny286.out] at ho22 | (simp only [Int.reduceToNat] at ho22; rw [← Ny286.out] at ho22)); have n0_ := Aside0.mk (Kd.R_elder' (by (with_reducible repeat (first | apply Kd.R_alloc | apply Kd.R_drewN | apply Kd.R_drew)); exact HO284.out) (Kd.R_base ho22) hb); have n1_ := Aside0.mk (Kd.R_lower (Kd.R_new' ho22 (Kd.R_lt (by (with_reducible repeat (first | apply Kd.R_alloc | apply Kd.R_drewN | apply Kd.R_drew)); exact HO284.out))) (below_size bs)); have n2_ := Aside0.mk (blk_below (g := gb277) (o := .cells #[.slice A0_0 l0_0.length c0_0, .int .i64 a0_1, .int .i64 a0_2, .int .i64 a0_3, .int .i64 a0_4, .int .i64 a0_5, .int .i64 a0_6] 74 (0, 0)) kz hb); have n3_ := Aside0.mk (below_step bs hb); clear HO284; clear BK277; clear HB; have HO284 := n0_; have HO288 := n1_; have BK277 := n2_; have HB := n3_; clear n0_ n1_ n2_ n3_; clear hb ho22; obtain ⟨Ao23, co23, eo23⟩ := Kd.R_slice HO288.out; subst eo23) | (go_at_call 42; (with_reducible refine (spec_among.calls kj1 a0_4 _ _ y286 t289 _ ?side1 ?side2 A15.out).mono ?_); (case side1 => repeat (first | exact (Kd.R_reads' HO288.out).2.2 | (with_reducible refine Kd.C_alloc ?_ _) | (with_reducible refine Kd.C_drewN ?_ _) | (with_reducible refine Kd.C_drew ?_))); (case side2 => exact (Kd.R_reads' HO288.out).2.1); rintro e w' ⟨rfl, ⟨nd, rfl⟩⟩))
      go_meet
      case rel => exact ⟨_, (t289), vz, H', ⟨by have := HJ1.out; first | omega | exact Nat.le_refl _⟩, ⟨kz⟩, ⟨bs⟩⟩
     ·replace c14 := Bool.eq_false_iff.mpr c14
      subst c14
      rw [if_neg (show ¬ (false = true) by decide)] at H
      have H' := Aside0.mk H
      clear H
      have hcz24_0 : wc.cell? ⟨gb277, 0, none⟩ = some (.slice A0_0 l0_0.length c0_0) := (blk_cell BK277.out 0).trans rfl
      have hcz24_1 : wc.cell? ⟨gb277, 1, none⟩ = some (.int .i64 a0_1) := (blk_cell BK277.out 1).trans rfl
      have hcz24_2 : wc.cell? ⟨gb277, 2, none⟩ = some (.int .i64 a0_2) := (blk_cell BK277.out 2).trans rfl
      have hcz24_3 : wc.cell? ⟨gb277, 3, none⟩ = some (.int .i64 a0_3) := (blk_cell BK277.out 3).trans rfl
      have hcz24_4 : wc.cell? ⟨gb277, 4, none⟩ = some (.int .i64 a0_4) := (blk_cell BK277.out 4).trans rfl
      have hcz24_5 : wc.cell? ⟨gb277, 5, none⟩ = some (.int .i64 a0_5) := (blk_cell BK277.out 5).trans rfl
      have hcz24_6 : wc.cell? ⟨gb277, 6, none⟩ = some (.int .i64 a0_6) := (blk_cell BK277.out 6).trans rfl
      have hfz24_0 := blk_frozen BK277.out 0
      have hfz24_1 := blk_frozen BK277.out 1
      have hfz24_2 := blk_frozen BK277.out 2
      have hfz24_3 := blk_frozen BK277.out 3
      have hfz24_4 := blk_frozen BK277.out 4
      have hfz24_5 := blk_frozen BK277.out 5
      have hfz24_6 := blk_frozen BK277.out 6
      go_wp2_with (first | ((with_reducible refine gate_dst (N := 17) rfl ?_); (try (refine gate_guard (by rfl) ?_; dsimp only)); refine Kd.R_lit (Kd.int .i64) _ 3 ?hg (N := 17) ?hd (xs := ([32, 23] : List Int)) (inner := [.int .i64 32, .int .i64 23]) (ok := fun _ => True) (okp := fun _ => True) ?hr ?hp (fun _ hk => hk) trivial (Below.refl _ _) (Nat.le_refl _) (by simp) ?_; (case hd => rfl); (case hg => rfl); (case hr => first | (go_simp; done) | (go_simp; rfl)); (case hp => exact (Reps.one (show Kd.M (Kd.int .i64) _ _ _ 32 [.int .i64 32] from rfl) (Reps.one (show Kd.M (Kd.int .i64) _ _ _ 23 [.int .i64 23] from rfl) (Reps.none _ _)))); intro v283 w25 ho26 hb hg_ hnew_; clear hg_ hnew_; (first | rw [← Ny282.out] at ho26 | (simp only [Int.reduceToNat] at ho26; rw [← Ny282.out] at ho26)); have n0_ := Aside0.mk (Kd.R_lower ho26 (below_size bs)); have n1_ := Aside0.mk (blk_below (g := gb277) (o := .cells #[.slice A0_0 l0_0.length c0_0, .int .i64 a0_1, .int .i64 a0_2, .int .i64 a0_3, .int .i64 a0_4, .int .i64 a0_5, .int .i64 a0_6] 74 (0, 0)) kz hb); have n2_ := Aside0.mk (below_step bs hb); clear BK277; clear HB; have HO284 := n0_; have BK277 := n1_; have HB := n2_; clear n0_ n1_ n2_; clear hb ho26; obtain ⟨Ao27, co27, eo27⟩ := Kd.R_slice HO284.out; subst eo27) | ((with_reducible refine gate_callee (f := 42) rfl ?_); refine goesL_ (some 18) rfl rfl Try.func42 (by kernel_rfl) rfl #[.int .i64 a0_3, .slice Ao27 y282.length co27] rfl mz ?_; (with_reducible refine (spec_among.calls kj1 a0_3 _ _ y282 false _ ?side1 ?side2 A13.out).mono ?_); (case side1 => repeat (first | exact (Kd.R_reads' HO284.out).2.2 | (with_reducible refine Kd.C_alloc ?_ _) | (with_reducible refine Kd.C_drewN ?_ _) | (with_reducible refine Kd.C_drew ?_))); (case side2 => exact (Kd.R_reads' HO284.out).2.1); rintro e w' ⟨rfl, ⟨nd, rfl⟩⟩; refine ⟨_, rfl, ?_⟩))
      go_meet
      case rel => exact ⟨_, (false), vz, H', ⟨by have := HJ1.out; first | omega | exact Nat.le_refl _⟩, ⟨kz⟩, ⟨bs⟩⟩
    case rest =>
     clear HC12
     obtain ⟨kq, x14_11, rfl, HA, HJ11, BK277, HB⟩ := hcut
     cases kq with
     | zero => exact absurd HA.out (by simp [spec_lbHangul.j1])
     | succ kj11 =>
      have H := HA.out
      clear HA
      simp only [spec_lbHangul.j1] at H
      by_cases c28 : x14_11 = true
      ·subst c28
       rw [if_pos rfl] at H
       obtain rfl := Option.some.inj H
       go_wp2
       go_ret
       exact ⟨ez, bs⟩
      ·replace c28 := Bool.eq_false_iff.mpr c28
       subst c28
       rw [if_neg (show ¬ (false = true) by decide)] at H
       have HC29 := Aside0.mk H
       clear H
       go_upto_region 6 with (fail)
       go_cut [25] (fun v25 wc => ∃ (kq : Nat) (x25_28 : Bool), v25 = .bool x25_28 ∧ Aside0 (spec_lbHangul.j2 kq x25_28 l0_0 a0_1 a0_2 a0_3 a0_4 a0_5 a0_6 = some r) ∧ Aside0 (kq ≤ kj11) ∧ Aside0 (wc.heap[gb277]? = some (.cells #[(.slice A0_0 l0_0.length c0_0), .int .i64 a0_1, .int .i64 a0_2, .int .i64 a0_3, .int .i64 a0_4, .int .i64 a0_5, .int .i64 a0_6] 74 (0, 0))) ∧ Aside0 (Below w.heap.size w wc))
       case first =>
        have H := HC29.out
        clear HC29
        obtain ⟨y290, hy290⟩ : ∃ y_ : List Int, y_ = (([31, 24] : List Int)) := ⟨_, rfl⟩
        first | rw [← hy290] at H | simp only [← hy290] at H
        have Ny290 := Aside0.mk hy290
        clear hy290
        replace H := Option.bind_eq_some_iff.mp H
        obtain ⟨t293, A300, H⟩ := H
        try dsimp only at H
        have A30 := Aside0.mk A300
        clear A300
        by_cases c31 : t293 = true
        ·subst c31
         rw [if_pos rfl] at H
         have H' := Aside0.mk H
         clear H
         have hcz32_0 : wc.cell? ⟨gb277, 0, none⟩ = some (.slice A0_0 l0_0.length c0_0) := (blk_cell BK277.out 0).trans rfl
         have hcz32_1 : wc.cell? ⟨gb277, 1, none⟩ = some (.int .i64 a0_1) := (blk_cell BK277.out 1).trans rfl
         have hcz32_2 : wc.cell? ⟨gb277, 2, none⟩ = some (.int .i64 a0_2) := (blk_cell BK277.out 2).trans rfl
         have hcz32_3 : wc.cell? ⟨gb277, 3, none⟩ = some (.int .i64 a0_3) := (blk_cell BK277.out 3).trans rfl
         have hcz32_4 : wc.cell? ⟨gb277, 4, none⟩ = some (.int .i64 a0_4) := (blk_cell BK277.out 4).trans rfl
         have hcz32_5 : wc.cell? ⟨gb277, 5, none⟩ = some (.int .i64 a0_5) := (blk_cell BK277.out 5).trans rfl
         have hcz32_6 : wc.cell? ⟨gb277, 6, none⟩ = some (.int .i64 a0_6) := (blk_cell BK277.out 6).trans rfl
         have hfz32_0 := blk_frozen BK277.out 0
         have hfz32_1 := blk_frozen BK277.out 1
         have hfz32_2 := blk_frozen BK277.out 2
         have hfz32_3 := blk_frozen BK277.out 3
         have hfz32_4 := blk_frozen BK277.out 4
         have hfz32_5 := blk_frozen BK277.out 5
         have hfz32_6 := blk_frozen BK277.out 6
         go_wp2_with (first | ((with_reducible refine gate_dst (N := 28) rfl ?_); (try (refine gate_guard (by rfl) ?_; dsimp only)); refine Kd.R_lit (Kd.int .i64) _ 3 ?hg (N := 28) ?hd (xs := ([31, 24] : List Int)) (inner := [.int .i64 31, .int .i64 24]) (ok := fun _ => True) (okp := fun _ => True) ?hr ?hp (fun _ hk => hk) trivial (Below.refl _ _) (Nat.le_refl _) (by simp) ?_; (case hd => rfl); (case hg => rfl); (case hr => first | (go_simp; done) | (go_simp; rfl)); (case hp => exact (Reps.one (show Kd.M (Kd.int .i64) _ _ _ 31 [.int .i64 31] from rfl) (Reps.one (show Kd.M (Kd.int .i64) _ _ _ 24 [.int .i64 24] from rfl) (Reps.none _ _)))); intro v291 w33 ho34 hb hg_ hnew_; clear hg_ hnew_; (first | rw [← Ny290.out] at ho34 | (simp only [Int.reduceToNat] at ho34; rw [← Ny290.out] at ho34)); have n0_ := Aside0.mk (Kd.R_lower ho34 (below_size bs)); have n1_ := Aside0.mk (blk_below (g := gb277) (o := .cells #[.slice A0_0 l0_0.length c0_0, .int .i64 a0_1, .int .i64 a0_2, .int .i64 a0_3, .int .i64 a0_4, .int .i64 a0_5, .int .i64 a0_6] 74 (0, 0)) kz hb); have n2_ := Aside0.mk (below_step bs hb); clear BK277; clear HB; have HO292 := n0_; have BK277 := n1_; have HB := n2_; clear n0_ n1_ n2_; clear hb ho34; obtain ⟨Ao35, co35, eo35⟩ := Kd.R_slice HO292.out; subst eo35) | ((with_reducible refine gate_callee (f := 42) rfl ?_); refine goesL_ (some 29) rfl rfl Try.func42 (by kernel_rfl) rfl #[.int .i64 a0_3, .slice Ao35 y290.length co35] rfl mz ?_; (with_reducible refine (spec_among.calls kj11 a0_3 _ _ y290 true _ ?side1 ?side2 A30.out).mono ?_); (case side1 => repeat (first | exact (Kd.R_reads' HO292.out).2.2 | (with_reducible refine Kd.C_alloc ?_ _) | (with_reducible refine Kd.C_drewN ?_ _) | (with_reducible refine Kd.C_drew ?_))); (case side2 => exact (Kd.R_reads' HO292.out).2.1); rintro e w' ⟨rfl, ⟨nd, rfl⟩⟩; refine ⟨_, rfl, ?_⟩; have hcz36_0 : w33.cell? ⟨gb277, 0, none⟩ = some (.slice A0_0 l0_0.length c0_0) := (blk_cell BK277.out 0).trans rfl; have hcz36_1 : w33.cell? ⟨gb277, 1, none⟩ = some (.int .i64 a0_1) := (blk_cell BK277.out 1).trans rfl; have hcz36_2 : w33.cell? ⟨gb277, 2, none⟩ = some (.int .i64 a0_2) := (blk_cell BK277.out 2).trans rfl; have hcz36_3 : w33.cell? ⟨gb277, 3, none⟩ = some (.int .i64 a0_3) := (blk_cell BK277.out 3).trans rfl; have hcz36_4 : w33.cell? ⟨gb277, 4, none⟩ = some (.int .i64 a0_4) := (blk_cell BK277.out 4).trans rfl; have hcz36_5 : w33.cell? ⟨gb277, 5, none⟩ = some (.int .i64 a0_5) := (blk_cell BK277.out 5).trans rfl; have hcz36_6 : w33.cell? ⟨gb277, 6, none⟩ = some (.int .i64 a0_6) := (blk_cell BK277.out 6).trans rfl; have hfz36_0 := blk_frozen BK277.out 0; have hfz36_1 := blk_frozen BK277.out 1; have hfz36_2 := blk_frozen BK277.out 2; have hfz36_3 := blk_frozen BK277.out 3; have hfz36_4 := blk_frozen BK277.out 4; have hfz36_5 := blk_frozen BK277.out 5; have hfz36_6 := blk_frozen BK277.out 6))
         go_meet
         case rel => exact ⟨_, ((a0_4 == 31)), vz, H', ⟨by have := HJ1.out; have := HJ11.out; first | omega | exact Nat.le_refl _⟩, ⟨kz⟩, ⟨bs⟩⟩
        ·replace c31 := Bool.eq_false_iff.mpr c31
         subst c31
         rw [if_neg (show ¬ (false = true) by decide)] at H
         have H' := Aside0.mk H
         clear H
         have hcz37_0 : wc.cell? ⟨gb277, 0, none⟩ = some (.slice A0_0 l0_0.length c0_0) := (blk_cell BK277.out 0).trans rfl
         have hcz37_1 : wc.cell? ⟨gb277, 1, none⟩ = some (.int .i64 a0_1) := (blk_cell BK277.out 1).trans rfl
         have hcz37_2 : wc.cell? ⟨gb277, 2, none⟩ = some (.int .i64 a0_2) := (blk_cell BK277.out 2).trans rfl
         have hcz37_3 : wc.cell? ⟨gb277, 3, none⟩ = some (.int .i64 a0_3) := (blk_cell BK277.out 3).trans rfl
         have hcz37_4 : wc.cell? ⟨gb277, 4, none⟩ = some (.int .i64 a0_4) := (blk_cell BK277.out 4).trans rfl
         have hcz37_5 : wc.cell? ⟨gb277, 5, none⟩ = some (.int .i64 a0_5) := (blk_cell BK277.out 5).trans rfl
         have hcz37_6 : wc.cell? ⟨gb277, 6, none⟩ = some (.int .i64 a0_6) := (blk_cell BK277.out 6).trans rfl
         have hfz37_0 := blk_frozen BK277.out 0
         have hfz37_1 := blk_frozen BK277.out 1
         have hfz37_2 := blk_frozen BK277.out 2
         have hfz37_3 := blk_frozen BK277.out 3
         have hfz37_4 := blk_frozen BK277.out 4
         have hfz37_5 := blk_frozen BK277.out 5
         have hfz37_6 := blk_frozen BK277.out 6
         go_wp2_with (first | ((with_reducible refine gate_dst (N := 28) rfl ?_); (try (refine gate_guard (by rfl) ?_; dsimp only)); refine Kd.R_lit (Kd.int .i64) _ 3 ?hg (N := 28) ?hd (xs := ([31, 24] : List Int)) (inner := [.int .i64 31, .int .i64 24]) (ok := fun _ => True) (okp := fun _ => True) ?hr ?hp (fun _ hk => hk) trivial (Below.refl _ _) (Nat.le_refl _) (by simp) ?_; (case hd => rfl); (case hg => rfl); (case hr => first | (go_simp; done) | (go_simp; rfl)); (case hp => exact (Reps.one (show Kd.M (Kd.int .i64) _ _ _ 31 [.int .i64 31] from rfl) (Reps.one (show Kd.M (Kd.int .i64) _ _ _ 24 [.int .i64 24] from rfl) (Reps.none _ _)))); intro v291 w38 ho39 hb hg_ hnew_; clear hg_ hnew_; (first | rw [← Ny290.out] at ho39 | (simp only [Int.reduceToNat] at ho39; rw [← Ny290.out] at ho39)); have n0_ := Aside0.mk (Kd.R_lower ho39 (below_size bs)); have n1_ := Aside0.mk (blk_below (g := gb277) (o := .cells #[.slice A0_0 l0_0.length c0_0, .int .i64 a0_1, .int .i64 a0_2, .int .i64 a0_3, .int .i64 a0_4, .int .i64 a0_5, .int .i64 a0_6] 74 (0, 0)) kz hb); have n2_ := Aside0.mk (below_step bs hb); clear BK277; clear HB; have HO292 := n0_; have BK277 := n1_; have HB := n2_; clear n0_ n1_ n2_; clear hb ho39; obtain ⟨Ao40, co40, eo40⟩ := Kd.R_slice HO292.out; subst eo40) | ((with_reducible refine gate_callee (f := 42) rfl ?_); refine goesL_ (some 29) rfl rfl Try.func42 (by kernel_rfl) rfl #[.int .i64 a0_3, .slice Ao40 y290.length co40] rfl mz ?_; (with_reducible refine (spec_among.calls kj11 a0_3 _ _ y290 false _ ?side1 ?side2 A30.out).mono ?_); (case side1 => repeat (first | exact (Kd.R_reads' HO292.out).2.2 | (with_reducible refine Kd.C_alloc ?_ _) | (with_reducible refine Kd.C_drewN ?_ _) | (with_reducible refine Kd.C_drew ?_))); (case side2 => exact (Kd.R_reads' HO292.out).2.1); rintro e w' ⟨rfl, ⟨nd, rfl⟩⟩; refine ⟨_, rfl, ?_⟩))
         go_meet
         case rel => exact ⟨_, (false), vz, H', ⟨by have := HJ1.out; have := HJ11.out; first | omega | exact Nat.le_refl _⟩, ⟨kz⟩, ⟨bs⟩⟩
       case rest =>
        clear HC29
        obtain ⟨kq, x25_28, rfl, HA, HJ28, BK277, HB⟩ := hcut
        cases kq with
        | zero => exact absurd HA.out (by simp [spec_lbHangul.j2])
        | succ kj28 =>
         have H := HA.out
         clear HA
         simp only [spec_lbHangul.j2] at H
         by_cases c41 : x25_28 = true
         ·subst c41
          rw [if_pos rfl] at H
          obtain rfl := Option.some.inj H
          go_wp2
          go_ret
          exact ⟨ez, bs⟩
         ·replace c41 := Bool.eq_false_iff.mpr c41
          subst c41
          rw [if_neg (show ¬ (false = true) by decide)] at H
          replace H := Option.bind_eq_some_iff.mp H
          obtain ⟨t294, A420, H⟩ := H
          try dsimp only at H
          have A42 := Aside0.mk A420
          clear A420
          by_cases c43 : t294 = true
          ·subst c43
           rw [if_pos rfl] at H
           by_cases c44 : a0_4 = 36
           ·rw [if_pos c44] at H
            have c44b0 : (a0_4 == 36) = true := beq_iff_eq.mpr c44
            have c44b1 : (a0_4 != 36) = false := bne_eq_false_iff_eq.mpr c44
            clear c44
            obtain rfl := Option.some.inj H
            have hcz45_0 : wc.cell? ⟨gb277, 0, none⟩ = some (.slice A0_0 l0_0.length c0_0) := (blk_cell BK277.out 0).trans rfl
            have hcz45_1 : wc.cell? ⟨gb277, 1, none⟩ = some (.int .i64 a0_1) := (blk_cell BK277.out 1).trans rfl
            have hcz45_2 : wc.cell? ⟨gb277, 2, none⟩ = some (.int .i64 a0_2) := (blk_cell BK277.out 2).trans rfl
            have hcz45_3 : wc.cell? ⟨gb277, 3, none⟩ = some (.int .i64 a0_3) := (blk_cell BK277.out 3).trans rfl
            have hcz45_4 : wc.cell? ⟨gb277, 4, none⟩ = some (.int .i64 a0_4) := (blk_cell BK277.out 4).trans rfl
            have hcz45_5 : wc.cell? ⟨gb277, 5, none⟩ = some (.int .i64 a0_5) := (blk_cell BK277.out 5).trans rfl
            have hcz45_6 : wc.cell? ⟨gb277, 6, none⟩ = some (.int .i64 a0_6) := (blk_cell BK277.out 6).trans rfl
            have hfz45_0 := blk_frozen BK277.out 0
            have hfz45_1 := blk_frozen BK277.out 1
            have hfz45_2 := blk_frozen BK277.out 2
            have hfz45_3 := blk_frozen BK277.out 3
            have hfz45_4 := blk_frozen BK277.out 4
            have hfz45_5 := blk_frozen BK277.out 5
            have hfz45_6 := blk_frozen BK277.out 6
            go_wp2_with (first | (go_at_call 87; (with_reducible refine (spec_lbHangul_1.calls kj28 a0_3 true _ A42.out).mono ?_); rintro e w46 ⟨rfl, hb⟩; have n0_ := Aside0.mk (blk_below (g := gb277) (o := .cells #[.slice A0_0 l0_0.length c0_0, .int .i64 a0_1, .int .i64 a0_2, .int .i64 a0_3, .int .i64 a0_4, .int .i64 a0_5, .int .i64 a0_6] 74 (0, 0)) kz hb); have n1_ := Aside0.mk (below_step bs hb); clear BK277; clear HB; have BK277 := n0_; have HB := n1_; clear n0_ n1_; (try clear hb); (try clear hb2); (try clear hk); (try clear hi); have hcz47_0 : w46.cell? ⟨gb277, 0, none⟩ = some (.slice A0_0 l0_0.length c0_0) := (blk_cell BK277.out 0).trans rfl; have hcz47_1 : w46.cell? ⟨gb277, 1, none⟩ = some (.int .i64 a0_1) := (blk_cell BK277.out 1).trans rfl; have hcz47_2 : w46.cell? ⟨gb277, 2, none⟩ = some (.int .i64 a0_2) := (blk_cell BK277.out 2).trans rfl; have hcz47_3 : w46.cell? ⟨gb277, 3, none⟩ = some (.int .i64 a0_3) := (blk_cell BK277.out 3).trans rfl; have hcz47_4 : w46.cell? ⟨gb277, 4, none⟩ = some (.int .i64 a0_4) := (blk_cell BK277.out 4).trans rfl; have hcz47_5 : w46.cell? ⟨gb277, 5, none⟩ = some (.int .i64 a0_5) := (blk_cell BK277.out 5).trans rfl; have hcz47_6 : w46.cell? ⟨gb277, 6, none⟩ = some (.int .i64 a0_6) := (blk_cell BK277.out 6).trans rfl; have hfz47_0 := blk_frozen BK277.out 0; have hfz47_1 := blk_frozen BK277.out 1; have hfz47_2 := blk_frozen BK277.out 2; have hfz47_3 := blk_frozen BK277.out 3; have hfz47_4 := blk_frozen BK277.out 4; have hfz47_5 := blk_frozen BK277.out 5; have hfz47_6 := blk_frozen BK277.out 6))
            go_ret
            exact ⟨ez, bs⟩
           ·rw [if_neg c44] at H
            have c44b0 : (a0_4 == 36) = false := beq_eq_false_iff_ne.mpr c44
            have c44b1 : (a0_4 != 36) = true := bne_iff_ne.mpr c44
            by_cases c48 : a0_3 = 37
            ·rw [if_pos c48] at H
             have c48b0 : (a0_3 == 37) = true := beq_iff_eq.mpr c48
             have c48b1 : (a0_3 != 37) = false := bne_eq_false_iff_eq.mpr c48
             clear c48
             replace H := Option.bind_eq_some_iff.mp H
             obtain ⟨t295, A490, H⟩ := H
             try dsimp only at H
             have A49 := Aside0.mk A490
             clear A490
             obtain rfl := Option.some.inj H
             have hcz50_0 : wc.cell? ⟨gb277, 0, none⟩ = some (.slice A0_0 l0_0.length c0_0) := (blk_cell BK277.out 0).trans rfl
             have hcz50_1 : wc.cell? ⟨gb277, 1, none⟩ = some (.int .i64 a0_1) := (blk_cell BK277.out 1).trans rfl
             have hcz50_2 : wc.cell? ⟨gb277, 2, none⟩ = some (.int .i64 a0_2) := (blk_cell BK277.out 2).trans rfl
             have hcz50_3 : wc.cell? ⟨gb277, 3, none⟩ = some (.int .i64 a0_3) := (blk_cell BK277.out 3).trans rfl
             have hcz50_4 : wc.cell? ⟨gb277, 4, none⟩ = some (.int .i64 a0_4) := (blk_cell BK277.out 4).trans rfl
             have hcz50_5 : wc.cell? ⟨gb277, 5, none⟩ = some (.int .i64 a0_5) := (blk_cell BK277.out 5).trans rfl
             have hcz50_6 : wc.cell? ⟨gb277, 6, none⟩ = some (.int .i64 a0_6) := (blk_cell BK277.out 6).trans rfl
             have hfz50_0 := blk_frozen BK277.out 0
             have hfz50_1 := blk_frozen BK277.out 1
             have hfz50_2 := blk_frozen BK277.out 2
             have hfz50_3 := blk_frozen BK277.out 3
             have hfz50_4 := blk_frozen BK277.out 4
             have hfz50_5 := blk_frozen BK277.out 5
             have hfz50_6 := blk_frozen BK277.out 6
             go_wp2_with (first | (go_at_call 87; (with_reducible refine (spec_lbHangul_1.calls kj28 a0_3 true _ A42.out).mono ?_); rintro e w51 ⟨rfl, hb⟩; have n0_ := Aside0.mk (blk_below (g := gb277) (o := .cells #[.slice A0_0 l0_0.length c0_0, .int .i64 a0_1, .int .i64 a0_2, .int .i64 a0_3, .int .i64 a0_4, .int .i64 a0_5, .int .i64 a0_6] 74 (0, 0)) kz hb); have n1_ := Aside0.mk (below_step bs hb); clear BK277; clear HB; have BK277 := n0_; have HB := n1_; clear n0_ n1_; (try clear hb); (try clear hb2); (try clear hk); (try clear hi); have hcz52_0 : w51.cell? ⟨gb277, 0, none⟩ = some (.slice A0_0 l0_0.length c0_0) := (blk_cell BK277.out 0).trans rfl; have hcz52_1 : w51.cell? ⟨gb277, 1, none⟩ = some (.int .i64 a0_1) := (blk_cell BK277.out 1).trans rfl; have hcz52_2 : w51.cell? ⟨gb277, 2, none⟩ = some (.int .i64 a0_2) := (blk_cell BK277.out 2).trans rfl; have hcz52_3 : w51.cell? ⟨gb277, 3, none⟩ = some (.int .i64 a0_3) := (blk_cell BK277.out 3).trans rfl; have hcz52_4 : w51.cell? ⟨gb277, 4, none⟩ = some (.int .i64 a0_4) := (blk_cell BK277.out 4).trans rfl; have hcz52_5 : w51.cell? ⟨gb277, 5, none⟩ = some (.int .i64 a0_5) := (blk_cell BK277.out 5).trans rfl; have hcz52_6 : w51.cell? ⟨gb277, 6, none⟩ = some (.int .i64 a0_6) := (blk_cell BK277.out 6).trans rfl; have hfz52_0 := blk_frozen BK277.out 0; have hfz52_1 := blk_frozen BK277.out 1; have hfz52_2 := blk_frozen BK277.out 2; have hfz52_3 := blk_frozen BK277.out 3; have hfz52_4 := blk_frozen BK277.out 4; have hfz52_5 := blk_frozen BK277.out 5; have hfz52_6 := blk_frozen BK277.out 6) | (go_at_call 87; (with_reducible refine (spec_lbHangul_1.calls kj28 a0_4 t295 _ A49.out).mono ?_); rintro e w53 ⟨rfl, hb⟩; have n0_ := Aside0.mk (blk_below (g := gb277) (o := .cells #[.slice A0_0 l0_0.length c0_0, .int .i64 a0_1, .int .i64 a0_2, .int .i64 a0_3, .int .i64 a0_4, .int .i64 a0_5, .int .i64 a0_6] 74 (0, 0)) kz hb); have n1_ := Aside0.mk (below_step bs hb); clear BK277; clear HB; have BK277 := n0_; have HB := n1_; clear n0_ n1_; (try clear hb); (try clear hb2); (try clear hk); (try clear hi)))
             go_ret
             exact ⟨ez, bs⟩
            ·rw [if_neg c48] at H
             have c48b0 : (a0_3 == 37) = false := beq_eq_false_iff_ne.mpr c48
             have c48b1 : (a0_3 != 37) = true := bne_iff_ne.mpr c48
             obtain rfl := Option.some.inj H
             have hcz54_0 : wc.cell? ⟨gb277, 0, none⟩ = some (.slice A0_0 l0_0.length c0_0) := (blk_cell BK277.out 0).trans rfl
             have hcz54_1 : wc.cell? ⟨gb277, 1, none⟩ = some (.int .i64 a0_1) := (blk_cell BK277.out 1).trans rfl
             have hcz54_2 : wc.cell? ⟨gb277, 2, none⟩ = some (.int .i64 a0_2) := (blk_cell BK277.out 2).trans rfl
             have hcz54_3 : wc.cell? ⟨gb277, 3, none⟩ = some (.int .i64 a0_3) := (blk_cell BK277.out 3).trans rfl
             have hcz54_4 : wc.cell? ⟨gb277, 4, none⟩ = some (.int .i64 a0_4) := (blk_cell BK277.out 4).trans rfl
             have hcz54_5 : wc.cell? ⟨gb277, 5, none⟩ = some (.int .i64 a0_5) := (blk_cell BK277.out 5).trans rfl
             have hcz54_6 : wc.cell? ⟨gb277, 6, none⟩ = some (.int .i64 a0_6) := (blk_cell BK277.out 6).trans rfl
             have hfz54_0 := blk_frozen BK277.out 0
             have hfz54_1 := blk_frozen BK277.out 1
             have hfz54_2 := blk_frozen BK277.out 2
             have hfz54_3 := blk_frozen BK277.out 3
             have hfz54_4 := blk_frozen BK277.out 4
             have hfz54_5 := blk_frozen BK277.out 5
             have hfz54_6 := blk_frozen BK277.out 6
             go_wp2_with (first | (go_at_call 87; (with_reducible refine (spec_lbHangul_1.calls kj28 a0_3 true _ A42.out).mono ?_); rintro e w55 ⟨rfl, hb⟩; have n0_ := Aside0.mk (blk_below (g := gb277) (o := .cells #[.slice A0_0 l0_0.length c0_0, .int .i64 a0_1, .int .i64 a0_2, .int .i64 a0_3, .int .i64 a0_4, .int .i64 a0_5, .int .i64 a0_6] 74 (0, 0)) kz hb); have n1_ := Aside0.mk (below_step bs hb); clear BK277; clear HB; have BK277 := n0_; have HB := n1_; clear n0_ n1_; (try clear hb); (try clear hb2); (try clear hk); (try clear hi); have hcz56_0 : w55.cell? ⟨gb277, 0, none⟩ = some (.slice A0_0 l0_0.length c0_0) := (blk_cell BK277.out 0).trans rfl; have hcz56_1 : w55.cell? ⟨gb277, 1, none⟩ = some (.int .i64 a0_1) := (blk_cell BK277.out 1).trans rfl; have hcz56_2 : w55.cell? ⟨gb277, 2, none⟩ = some (.int .i64 a0_2) := (blk_cell BK277.out 2).trans rfl; have hcz56_3 : w55.cell? ⟨gb277, 3, none⟩ = some (.int .i64 a0_3) := (blk_cell BK277.out 3).trans rfl; have hcz56_4 : w55.cell? ⟨gb277, 4, none⟩ = some (.int .i64 a0_4) := (blk_cell BK277.out 4).trans rfl; have hcz56_5 : w55.cell? ⟨gb277, 5, none⟩ = some (.int .i64 a0_5) := (blk_cell BK277.out 5).trans rfl; have hcz56_6 : w55.cell? ⟨gb277, 6, none⟩ = some (.int .i64 a0_6) := (blk_cell BK277.out 6).trans rfl; have hfz56_0 := blk_frozen BK277.out 0; have hfz56_1 := blk_frozen BK277.out 1; have hfz56_2 := blk_frozen BK277.out 2; have hfz56_3 := blk_frozen BK277.out 3; have hfz56_4 := blk_frozen BK277.out 4; have hfz56_5 := blk_frozen BK277.out 5; have hfz56_6 := blk_frozen BK277.out 6))
             go_ret
             exact ⟨ez, bs⟩
          ·replace c43 := Bool.eq_false_iff.mpr c43
           subst c43
           rw [if_neg (show ¬ (false = true) by decide)] at H
           by_cases c57 : a0_3 = 37
           ·rw [if_pos c57] at H
            have c57b0 : (a0_3 == 37) = true := beq_iff_eq.mpr c57
            have c57b1 : (a0_3 != 37) = false := bne_eq_false_iff_eq.mpr c57
            clear c57
            replace H := Option.bind_eq_some_iff.mp H
            obtain ⟨t296, A580, H⟩ := H
            try dsimp only at H
            have A58 := Aside0.mk A580
            clear A580
            obtain rfl := Option.some.inj H
            have hcz59_0 : wc.cell? ⟨gb277, 0, none⟩ = some (.slice A0_0 l0_0.length c0_0) := (blk_cell BK277.out 0).trans rfl
            have hcz59_1 : wc.cell? ⟨gb277, 1, none⟩ = some (.int .i64 a0_1) := (blk_cell BK277.out 1).trans rfl
            have hcz59_2 : wc.cell? ⟨gb277, 2, none⟩ = some (.int .i64 a0_2) := (blk_cell BK277.out 2).trans rfl
            have hcz59_3 : wc.cell? ⟨gb277, 3, none⟩ = some (.int .i64 a0_3) := (blk_cell BK277.out 3).trans rfl
            have hcz59_4 : wc.cell? ⟨gb277, 4, none⟩ = some (.int .i64 a0_4) := (blk_cell BK277.out 4).trans rfl
            have hcz59_5 : wc.cell? ⟨gb277, 5, none⟩ = some (.int .i64 a0_5) := (blk_cell BK277.out 5).trans rfl
            have hcz59_6 : wc.cell? ⟨gb277, 6, none⟩ = some (.int .i64 a0_6) := (blk_cell BK277.out 6).trans rfl
            have hfz59_0 := blk_frozen BK277.out 0
            have hfz59_1 := blk_frozen BK277.out 1
            have hfz59_2 := blk_frozen BK277.out 2
            have hfz59_3 := blk_frozen BK277.out 3
            have hfz59_4 := blk_frozen BK277.out 4
            have hfz59_5 := blk_frozen BK277.out 5
            have hfz59_6 := blk_frozen BK277.out 6
            go_wp2_with (first | (go_at_call 87; (with_reducible refine (spec_lbHangul_1.calls kj28 a0_3 false _ A42.out).mono ?_); rintro e w60 ⟨rfl, hb⟩; have n0_ := Aside0.mk (blk_below (g := gb277) (o := .cells #[.slice A0_0 l0_0.length c0_0, .int .i64 a0_1, .int .i64 a0_2, .int .i64 a0_3, .int .i64 a0_4, .int .i64 a0_5, .int .i64 a0_6] 74 (0, 0)) kz hb); have n1_ := Aside0.mk (below_step bs hb); clear BK277; clear HB; have BK277 := n0_; have HB := n1_; clear n0_ n1_; (try clear hb); (try clear hb2); (try clear hk); (try clear hi); have hcz61_0 : w60.cell? ⟨gb277, 0, none⟩ = some (.slice A0_0 l0_0.length c0_0) := (blk_cell BK277.out 0).trans rfl; have hcz61_1 : w60.cell? ⟨gb277, 1, none⟩ = some (.int .i64 a0_1) := (blk_cell BK277.out 1).trans rfl; have hcz61_2 : w60.cell? ⟨gb277, 2, none⟩ = some (.int .i64 a0_2) := (blk_cell BK277.out 2).trans rfl; have hcz61_3 : w60.cell? ⟨gb277, 3, none⟩ = some (.int .i64 a0_3) := (blk_cell BK277.out 3).trans rfl; have hcz61_4 : w60.cell? ⟨gb277, 4, none⟩ = some (.int .i64 a0_4) := (blk_cell BK277.out 4).trans rfl; have hcz61_5 : w60.cell? ⟨gb277, 5, none⟩ = some (.int .i64 a0_5) := (blk_cell BK277.out 5).trans rfl; have hcz61_6 : w60.cell? ⟨gb277, 6, none⟩ = some (.int .i64 a0_6) := (blk_cell BK277.out 6).trans rfl; have hfz61_0 := blk_frozen BK277.out 0; have hfz61_1 := blk_frozen BK277.out 1; have hfz61_2 := blk_frozen BK277.out 2; have hfz61_3 := blk_frozen BK277.out 3; have hfz61_4 := blk_frozen BK277.out 4; have hfz61_5 := blk_frozen BK277.out 5; have hfz61_6 := blk_frozen BK277.out 6) | (go_at_call 87; (with_reducible refine (spec_lbHangul_1.calls kj28 a0_4 t296 _ A58.out).mono ?_); rintro e w62 ⟨rfl, hb⟩; have n0_ := Aside0.mk (blk_below (g := gb277) (o := .cells #[.slice A0_0 l0_0.length c0_0, .int .i64 a0_1, .int .i64 a0_2, .int .i64 a0_3, .int .i64 a0_4, .int .i64 a0_5, .int .i64 a0_6] 74 (0, 0)) kz hb); have n1_ := Aside0.mk (below_step bs hb); clear BK277; clear HB; have BK277 := n0_; have HB := n1_; clear n0_ n1_; (try clear hb); (try clear hb2); (try clear hk); (try clear hi)))
            go_ret
            exact ⟨ez, bs⟩
           ·rw [if_neg c57] at H
            have c57b0 : (a0_3 == 37) = false := beq_eq_false_iff_ne.mpr c57
            have c57b1 : (a0_3 != 37) = true := bne_iff_ne.mpr c57
            obtain rfl := Option.some.inj H
            have hcz63_0 : wc.cell? ⟨gb277, 0, none⟩ = some (.slice A0_0 l0_0.length c0_0) := (blk_cell BK277.out 0).trans rfl
            have hcz63_1 : wc.cell? ⟨gb277, 1, none⟩ = some (.int .i64 a0_1) := (blk_cell BK277.out 1).trans rfl
            have hcz63_2 : wc.cell? ⟨gb277, 2, none⟩ = some (.int .i64 a0_2) := (blk_cell BK277.out 2).trans rfl
            have hcz63_3 : wc.cell? ⟨gb277, 3, none⟩ = some (.int .i64 a0_3) := (blk_cell BK277.out 3).trans rfl
            have hcz63_4 : wc.cell? ⟨gb277, 4, none⟩ = some (.int .i64 a0_4) := (blk_cell BK277.out 4).trans rfl
            have hcz63_5 : wc.cell? ⟨gb277, 5, none⟩ = some (.int .i64 a0_5) := (blk_cell BK277.out 5).trans rfl
            have hcz63_6 : wc.cell? ⟨gb277, 6, none⟩ = some (.int .i64 a0_6) := (blk_cell BK277.out 6).trans rfl
            have hfz63_0 := blk_frozen BK277.out 0
            have hfz63_1 := blk_frozen BK277.out 1
            have hfz63_2 := blk_frozen BK277.out 2
            have hfz63_3 := blk_frozen BK277.out 3
            have hfz63_4 := blk_frozen BK277.out 4
            have hfz63_5 := blk_frozen BK277.out 5
            have hfz63_6 := blk_frozen BK277.out 6
            go_wp2_with (first | (go_at_call 87; (with_reducible refine (spec_lbHangul_1.calls kj28 a0_3 false _ A42.out).mono ?_); rintro e w64 ⟨rfl, hb⟩; have n0_ := Aside0.mk (blk_below (g := gb277) (o := .cells #[.slice A0_0 l0_0.length c0_0, .int .i64 a0_1, .int .i64 a0_2, .int .i64 a0_3, .int .i64 a0_4, .int .i64 a0_5, .int .i64 a0_6] 74 (0, 0)) kz hb); have n1_ := Aside0.mk (below_step bs hb); clear BK277; clear HB; have BK277 := n0_; have HB := n1_; clear n0_ n1_; (try clear hb); (try clear hb2); (try clear hk); (try clear hi); have hcz65_0 : w64.cell? ⟨gb277, 0, none⟩ = some (.slice A0_0 l0_0.length c0_0) := (blk_cell BK277.out 0).trans rfl; have hcz65_1 : w64.cell? ⟨gb277, 1, none⟩ = some (.int .i64 a0_1) := (blk_cell BK277.out 1).trans rfl; have hcz65_2 : w64.cell? ⟨gb277, 2, none⟩ = some (.int .i64 a0_2) := (blk_cell BK277.out 2).trans rfl; have hcz65_3 : w64.cell? ⟨gb277, 3, none⟩ = some (.int .i64 a0_3) := (blk_cell BK277.out 3).trans rfl; have hcz65_4 : w64.cell? ⟨gb277, 4, none⟩ = some (.int .i64 a0_4) := (blk_cell BK277.out 4).trans rfl; have hcz65_5 : w64.cell? ⟨gb277, 5, none⟩ = some (.int .i64 a0_5) := (blk_cell BK277.out 5).trans rfl; have hcz65_6 : w64.cell? ⟨gb277, 6, none⟩ = some (.int .i64 a0_6) := (blk_cell BK277.out 6).trans rfl; have hfz65_0 := blk_frozen BK277.out 0; have hfz65_1 := blk_frozen BK277.out 1; have hfz65_2 := blk_frozen BK277.out 2; have hfz65_3 := blk_frozen BK277.out 3; have hfz65_4 := blk_frozen BK277.out 4; have hfz65_5 := blk_frozen BK277.out 5; have hfz65_6 := blk_frozen BK277.out 6))
            go_ret
            exact ⟨ez, bs⟩

end Go.Proofs.Ytnanfoahimccpaa.Ln
