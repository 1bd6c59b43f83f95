/- Functions of the translation as Lean functions, and their walks: lines written by a program, a turned copy of the kit's print. -/
import Derived.Test.YtnanfoahimccpaaWdx0
import Derived.Test.YtnanfoahimccpaaWdx1
namespace Go.Proofs.Ytnanfoahimccpaa.Wd
open Go.RowKit Go.Proofs.YtnanfoahimccpaaW.PrintWords Go.Proofs.YtnanfoahimccpaaW.PrintLast Go.Proofs.YtnanfoahimccpaaW.PrintMore
attribute [local go_sem] max2_int min2_int max_two min_two max_three min_three max_four min_four   -- for this text's walks alone
set_option linter.unusedVariables false
set_option linter.unusedSimpArgs false

/-! ### spec_WordOpen: function 13 -/
mutual
def spec_WordOpen.j0 : Nat → List (S32) → Int → Bool → Option (Bool)
  | 0, _, _, _ => none
  | k + 1, x0, x1, x32 => if x32 = true then (some false) else (spec_WordOpen.l0 k x0 (wrap64 (x1 - 1)))
def spec_WordOpen.l0 : Nat → List (S32) → Int → Option (Bool)
  | 0, _, _ => none
  | k + 1, x0, x6 => if x6 ≥ 0 then (if 0 ≤ x6 then (if x6 < (x0.length : Int) then ((spec_wbMute.f k ((rd_T32 x0 x6).f0)).bind fun t189 => (spec_WordOpen.j2 k x0 x6 t189)) else (none)) else (none)) else (spec_WordOpen.j2 k x0 x6 false)
def spec_WordOpen.j2 : Nat → List (S32) → Int → Bool → Option (Bool)
  | 0, _, _, _ => none
  | k + 1, x0, x6, x44 => if x44 = true then (if 0 ≤ x6 then (if x6 < (x0.length : Int) then (if ((rd_T32 x0 x6).f0) = 5 then (some true) else (spec_WordOpen.l0 k x0 (wrap64 (x6 - 1)))) else (none)) else (none)) else (some false)
end
def spec_WordOpen.f (k : Nat) (l0 : List (S32)) (a1 : Int) : Option (Bool) := if 0 ≤ a1 then (if a1 < (l0.length : Int) then (if ((rd_T32 l0 a1).f0) = 18 then (if ((rd_T32 l0 a1).f0) = 19 then (if 0 ≤ (wrap64 (a1 - 1)) then (if (wrap64 (a1 - 1)) < (l0.length : Int) then (spec_WordOpen.j0 k l0 a1 (((rd_T32 l0 (wrap64 (a1 - 1))).f0) == 5)) else (none)) else (none)) else (spec_WordOpen.j0 k l0 a1 false)) else (if ((rd_T32 l0 a1).f1 = true) then (if ((rd_T32 l0 a1).f0) = 19 then (if 0 ≤ (wrap64 (a1 - 1)) then (if (wrap64 (a1 - 1)) < (l0.length : Int) then (spec_WordOpen.j0 k l0 a1 (((rd_T32 l0 (wrap64 (a1 - 1))).f0) == 5)) else (none)) else (none)) else (spec_WordOpen.j0 k l0 a1 false)) else (spec_WordOpen.j0 k l0 a1 true))) else (none)) else (none)
theorem spec_WordOpen.mono_l : ∀ k, (∀ y0 y1 y2, LeO (spec_WordOpen.j0 k y0 y1 y2) (spec_WordOpen.j0 (k + 1) y0 y1 y2)) ∧ (∀ y0 y1, LeO (spec_WordOpen.l0 k y0 y1) (spec_WordOpen.l0 (k + 1) y0 y1)) ∧ (∀ y0 y1 y2, LeO (spec_WordOpen.j2 k y0 y1 y2) (spec_WordOpen.j2 (k + 1) y0 y1 y2))
  | 0 => ⟨fun _ _ _ r h => by simp [spec_WordOpen.j0] at h, fun _ _ r h => by simp [spec_WordOpen.l0] at h, fun _ _ _ r h => by simp [spec_WordOpen.j2] at h⟩
  | k + 1 => by
    obtain ⟨ih0, ih1, ih2⟩ := spec_WordOpen.mono_l k
    refine ⟨?_, ?_, ?_⟩
    · intro y0 y1 y2
      unfold spec_WordOpen.j0
      repeat' first
      | (with_reducible exact ih0 _ _ _)
      | (with_reducible exact ih1 _ _)
      | (with_reducible exact ih2 _ _ _)
      | (with_reducible exact spec_wbMute.mono _ _)
      | (with_reducible exact LeO.refl _)
      | (with_reducible exact LeO.none _)
      | (with_reducible refine LeO.ite ?_ ?_)
      | (with_reducible refine LeO.bind ?_ (fun _ => ?_))
      | exact ih0 _ _ _
      | exact ih1 _ _
      | exact ih2 _ _ _
      | exact spec_wbMute.mono _ _
      | exact LeO.none _
      | refine LeO.ite ?_ ?_
      | refine LeO.bind ?_ (fun _ => ?_)
    · intro y0 y1
      unfold spec_WordOpen.l0
      repeat' first
      | (with_reducible exact ih0 _ _ _)
      | (with_reducible exact ih1 _ _)
      | (with_reducible exact ih2 _ _ _)
      | (with_reducible exact spec_wbMute.mono _ _)
      | (with_reducible exact LeO.refl _)
      | (with_reducible exact LeO.none _)
      | (with_reducible refine LeO.ite ?_ ?_)
      | (with_reducible refine LeO.bind ?_ (fun _ => ?_))
      | exact ih0 _ _ _
      | exact ih1 _ _
      | exact ih2 _ _ _
      | exact spec_wbMute.mono _ _
      | exact LeO.none _
      | refine LeO.ite ?_ ?_
      | refine LeO.bind ?_ (fun _ => ?_)
    · intro y0 y1 y2
      unfold spec_WordOpen.j2
      repeat' first
      | (with_reducible exact ih0 _ _ _)
      | (with_reducible exact ih1 _ _)
      | (with_reducible exact ih2 _ _ _)
      | (with_reducible exact spec_wbMute.mono _ _)
      | (with_reducible exact LeO.refl _)
      | (with_reducible exact LeO.none _)
      | (with_reducible refine LeO.ite ?_ ?_)
      | (with_reducible refine LeO.bind ?_ (fun _ => ?_))
      | exact ih0 _ _ _
      | exact ih1 _ _
      | exact ih2 _ _ _
      | exact spec_wbMute.mono _ _
      | exact LeO.none _
      | refine LeO.ite ?_ ?_
      | refine LeO.bind ?_ (fun _ => ?_)
theorem spec_WordOpen.mono : ∀ a0 a1 k, LeO (spec_WordOpen.f k a0 a1) (spec_WordOpen.f (k + 1) a0 a1) := by
  intro a0 a1 k
  obtain ⟨ih0, ih1, ih2⟩ := spec_WordOpen.mono_l k
  unfold spec_WordOpen.f
  repeat' first
      | (with_reducible exact ih0 _ _ _)
      | (with_reducible exact ih1 _ _)
      | (with_reducible exact ih2 _ _ _)
      | (with_reducible exact spec_wbMute.mono _ _)
      | (with_reducible exact LeO.refl _)
      | (with_reducible exact LeO.none _)
      | (with_reducible refine LeO.ite ?_ ?_)
      | (with_reducible refine LeO.bind ?_ (fun _ => ?_))
      | exact ih0 _ _ _
      | exact ih1 _ _
      | exact ih2 _ _ _
      | exact spec_wbMute.mono _ _
      | exact LeO.none _
      | refine LeO.ite ?_ ?_
      | refine LeO.bind ?_ (fun _ => ?_)
set_option maxHeartbeats 8000000 in
set_option maxRecDepth 100000 in
theorem spec_WordOpen.calls (k : Nat) (A0 : Option Addr) (c0 : Nat) (l0 : List (S32)) (a1 : Int) (r : Bool) (w : World) (hr0 : Kd.C k32 w A0 l0.length l0) (hc0 : l0.length ≤ c0) (h : spec_WordOpen.f k l0 a1 = some r) :
    Calls Try.prog 13 #[.slice A0 l0.length c0, .int .i64 a1] w fun e w' => e = .returned (.bool r) ∧ Below w.heap.size w w' := by
  have hu32 := Try.underlying32
  have HR0 := Aside0.mk hr0
  have HC0 := Aside0.mk hc0
  clear hr0 hc0
  have HB := Aside0.mk (Below.refl w.heap.size w)
  have H : (if 0 ≤ a1 then (if a1 < (l0.length : Int) then (if ((rd_T32 l0 a1).f0) = 18 then (if ((rd_T32 l0 a1).f0) = 19 then (if 0 ≤ (wrap64 (a1 - 1)) then (if (wrap64 (a1 - 1)) < (l0.length : Int) then (spec_WordOpen.j0 k l0 a1 (((rd_T32 l0 (wrap64 (a1 - 1))).f0) == 5)) else (none)) else (none)) else (spec_WordOpen.j0 k l0 a1 false)) else (if ((rd_T32 l0 a1).f1 = true) then (if ((rd_T32 l0 a1).f0) = 19 then (if 0 ≤ (wrap64 (a1 - 1)) then (if (wrap64 (a1 - 1)) < (l0.length : Int) then (spec_WordOpen.j0 k l0 a1 (((rd_T32 l0 (wrap64 (a1 - 1))).f0) == 5)) else (none)) else (none)) else (spec_WordOpen.j0 k l0 a1 false)) else (spec_WordOpen.j0 k l0 a1 true))) else (none)) else (none)) = some r := h
  clear h
  by_cases c3 : 0 ≤ a1
  · rw [if_pos c3] at H
    have c3b0 : decide (0 ≤ a1) = true := decide_eq_true c3
    clear c3
    by_cases c4 : a1 < (l0.length : Int)
    · rw [if_pos c4] at H
      have c4b0 : decide (a1 < (l0.length : Int)) = true := decide_eq_true c4
      clear c4
      have HC5 := Aside0.mk H
      clear H
      have p184 : 0 ≤ (a1 : Int) := of_decide_eq_true (by first | (with_reducible assumption) | assumption)
      have q184 : a1 < (l0.length : Int) := of_decide_eq_true (by first | (with_reducible assumption) | assumption)
      obtain ⟨ad184, e184, hx184_0, hx184_1⟩ := at_T32 HR0.out a1 p184 q184
      cases e184
      replace p184 := eq_true p184
      replace q184 := eq_true q184
      go_enter Try.func13, Try.ntmps13
      go_upto_region 2 with (first | ((with_reducible refine gate_dst (N := 5) rfl ?_); refine box_event ?hg (N := 5) ?hd (cs := #[.int .i64 0, .bool false]) (t := 32) ?hr ?_; (case hd => rfl); (case hg => rfl); (case hr => first | (go_simp; done) | (go_simp; rfl)); intro gb185 hg w6 hbox hb; have n0_ := Aside0.mk (below_step (by repeat (first | (with_reducible first | exact HB.out | apply below_alloc | apply pw_below_drewN | apply below_drew1) | exact HB.out)) hb); have n1_ := Aside0.mk (hbox); have n2_ := Aside0.mk ((by rw [hg]; exact (below_size (by repeat (first | (with_reducible first | exact HB.out | apply below_alloc | apply pw_below_drewN | apply below_drew1) | exact HB.out))) : w.heap.size ≤ gb185)); have n3_ := Aside0.mk ((by rw [hg]; exact (below_size (by repeat (first | (with_reducible first | exact HB.out | apply below_alloc | apply pw_below_drewN | apply below_drew1) | exact HB.out))) : w.heap.size ≤ gb185)); clear HB; have HB := n0_; have BK185 := n1_; have GW185 := n2_; have GE185 := n3_; clear n0_ n1_ n2_ n3_; clear hb hbox hg; have hcz7_0 : w6.cell? ⟨gb185, 0, none⟩ = some (.int .i64 0) := (blk_cell BK185.out 0).trans rfl; have hcz7_1 : w6.cell? ⟨gb185, 1, none⟩ = some (.bool false) := (blk_cell BK185.out 1).trans rfl; have hfz7_0 := blk_frozen BK185.out 0; have hfz7_1 := blk_frozen BK185.out 1))
      (try simp only [Act.put, List.setIfInBounds_toArray, List.set_cons_zero, List.set_cons_succ])
      go_cut [32] (fun v32 wc => ∃ (kq : Nat) (x32_4 : Bool), v32 = .bool x32_4 ∧ Aside0 (spec_WordOpen.j0 kq l0 a1 x32_4 = some r) ∧ Aside0 (kq ≤ k) ∧ Aside0 (wc.heap[gb185]? = some (.cells #[.int .i64 ((rd_T32 l0 a1).f0), .bool ((rd_T32 l0 a1).f1)] 32 (0, 0))) ∧ Aside0 (Below w.heap.size w wc))
      case first =>
        have H := HC5.out
        clear HC5
        by_cases c8 : ((rd_T32 l0 a1).f0) = 18
        · rw [if_pos c8] at H
          have c8b0 : (((rd_T32 l0 a1).f0) == 18) = true := beq_iff_eq.mpr c8
          have c8b1 : (((rd_T32 l0 a1).f0) != 18) = false := bne_eq_false_iff_eq.mpr c8
          clear c8
          (first | rw [c8b0] | (simp only [i64_w, i32_w]; rw [c8b0]) | skip)
          by_cases c9 : ((rd_T32 l0 a1).f0) = 19
          · rw [if_pos c9] at H
            have c9b0 : (((rd_T32 l0 a1).f0) == 19) = true := beq_iff_eq.mpr c9
            have c9b1 : (((rd_T32 l0 a1).f0) != 19) = false := bne_eq_false_iff_eq.mpr c9
            clear c9
            obtain ⟨ji10, hji10⟩ : ∃ j_ : Int, (wrap64 (a1 - 1)) = j_ := ⟨_, rfl⟩
            replace H : (if 0 ≤ (ji10) then (if (ji10) < (l0.length : Int) then (spec_WordOpen.j0 k l0 a1 (((rd_T32 l0 (ji10)).f0) == 5)) else (none)) else (none)) = some r := by first | (rw [hji10] at H; exact H) | (simp only [hji10] at H ⊢; exact H)
            have hji10w : (IntKind.i64.wrap (a1 - 1)) = ji10 := (i64_w _).trans hji10
            by_cases c11 : 0 ≤ (ji10)
            · rw [if_pos c11] at H
              have c11b0 : decide (0 ≤ (ji10)) = true := decide_eq_true c11
              clear c11
              by_cases c12 : (ji10) < (l0.length : Int)
              · rw [if_pos c12] at H
                have c12b0 : decide ((ji10) < (l0.length : Int)) = true := decide_eq_true c12
                clear c12
                have H' := Aside0.mk H
                clear H
                have hcz13_0 : w6.cell? ⟨gb185, 0, none⟩ = some (.int .i64 0) := (blk_cell BK185.out 0).trans rfl
                have hcz13_1 : w6.cell? ⟨gb185, 1, none⟩ = some (.bool false) := (blk_cell BK185.out 1).trans rfl
                have hfz13_0 := blk_frozen BK185.out 0
                have hfz13_1 := blk_frozen BK185.out 1
                have p186 : 0 ≤ ((ji10) : Int) := of_decide_eq_true (by first | (with_reducible assumption) | assumption)
                have q186 : (ji10) < (l0.length : Int) := of_decide_eq_true (by first | (with_reducible assumption) | assumption)
                obtain ⟨ad186, e186, hx186_0, hx186_1⟩ := at_T32 HR0.out (ji10) p186 q186
                obtain rfl : ad184 = ad186 := (by injection e186)
                have hn186_0 : ad184.block ≠ gb185 := Nat.ne_of_lt (Nat.lt_of_lt_of_le (by have := World.block_lt_of_cell? _ _ hx186_0; first | rwa [add_block] at this | exact this) GW185.out)
                have hn186_1 : ad184.block ≠ gb185 := Nat.ne_of_lt (Nat.lt_of_lt_of_le (by have := World.block_lt_of_cell? _ _ hx186_0; first | rwa [add_block] at this | exact this) GW185.out)
                replace hx186_0 := (HB.out.cell (World.block_lt_of_cell? w _ hx186_0)).trans hx186_0
                replace hx186_1 := (HB.out.cell (World.block_lt_of_cell? w _ hx186_1)).trans hx186_1
                replace hx186_0 := (cell_far (p := ⟨gb185, 0, none⟩) (by first | (rw [add_block]; exact hn186_0) | (show (Addr.add _ _).block ≠ _; rw [add_block]; exact hn186_0) | exact hn186_0) (.int .i64 ((rd_T32 l0 a1).f0))).trans hx186_0
                replace hx186_1 := (cell_far (p := ⟨gb185, 0, none⟩) (by first | (rw [add_block]; exact hn186_0) | (show (Addr.add _ _).block ≠ _; rw [add_block]; exact hn186_0) | exact hn186_0) (.int .i64 ((rd_T32 l0 a1).f0))).trans hx186_1
                replace hx186_0 := (cell_far (p := ⟨gb185, 1, none⟩) (by first | (rw [add_block]; exact hn186_1) | (show (Addr.add _ _).block ≠ _; rw [add_block]; exact hn186_1) | exact hn186_1) (.bool ((rd_T32 l0 a1).f1))).trans hx186_0
                replace hx186_1 := (cell_far (p := ⟨gb185, 1, none⟩) (by first | (rw [add_block]; exact hn186_1) | (show (Addr.add _ _).block ≠ _; rw [add_block]; exact hn186_1) | exact hn186_1) (.bool ((rd_T32 l0 a1).f1))).trans hx186_1
                clear hn186_0
                clear hn186_1
                replace p186 := eq_true p186
                replace q186 := eq_true q186
                go_wp2
                go_meet
                case rel => exact ⟨_, ((((rd_T32 l0 (ji10)).f0) == 5)), (by first | rfl | (simp; done) | (simp only [← hji10] <;> (first | rfl | simp)) | (simp [*]; done)), H', ⟨by first | omega | exact Nat.le_refl _⟩, ⟨by (with_reducible repeat (first | refine blk_drewN ?_ _ | refine blk_drew ?_ | refine blk_alloc ?_ _)); refine blk_put (cs := #[.int .i64 ((rd_T32 l0 a1).f0), .bool false]) ?_ 1 _ (by first | rfl | (rw [← Nbq15.out]; rfl) | (simp [← Nbq15.out]; done)); (with_reducible repeat (first | refine blk_drewN ?_ _ | refine blk_drew ?_ | refine blk_alloc ?_ _)); refine blk_put (cs := #[.int .i64 0, .bool false]) ?_ 0 _ rfl; (with_reducible repeat (first | refine blk_drewN ?_ _ | refine blk_drew ?_ | refine blk_alloc ?_ _)); exact BK185.out⟩, ⟨by repeat (first | (with_reducible first | exact HB.out | apply below_alloc | apply pw_below_drewN | apply below_drew1 | refine below_set ?_ GE185.out) | exact HB.out)⟩⟩
              · rw [if_neg c12] at H
                exact absurd H (by simp)
            · rw [if_neg c11] at H
              exact absurd H (by simp)
          · rw [if_neg c9] at H
            have c9b0 : (((rd_T32 l0 a1).f0) == 19) = false := beq_eq_false_iff_ne.mpr c9
            have c9b1 : (((rd_T32 l0 a1).f0) != 19) = true := bne_iff_ne.mpr c9
            have H' := Aside0.mk H
            clear H
            have hcz14_0 : w6.cell? ⟨gb185, 0, none⟩ = some (.int .i64 0) := (blk_cell BK185.out 0).trans rfl
            have hcz14_1 : w6.cell? ⟨gb185, 1, none⟩ = some (.bool false) := (blk_cell BK185.out 1).trans rfl
            have hfz14_0 := blk_frozen BK185.out 0
            have hfz14_1 := blk_frozen BK185.out 1
            go_wp2
            go_meet
            case rel => exact ⟨_, (false), (by first | rfl | (simp; done) | (simp [*]; done)), H', ⟨by first | omega | exact Nat.le_refl _⟩, ⟨by (with_reducible repeat (first | refine blk_drewN ?_ _ | refine blk_drew ?_ | refine blk_alloc ?_ _)); refine blk_put (cs := #[.int .i64 ((rd_T32 l0 a1).f0), .bool false]) ?_ 1 _ (by first | rfl | (rw [← Nbq15.out]; rfl) | (simp [← Nbq15.out]; done)); (with_reducible repeat (first | refine blk_drewN ?_ _ | refine blk_drew ?_ | refine blk_alloc ?_ _)); refine blk_put (cs := #[.int .i64 0, .bool false]) ?_ 0 _ rfl; (with_reducible repeat (first | refine blk_drewN ?_ _ | refine blk_drew ?_ | refine blk_alloc ?_ _)); exact BK185.out⟩, ⟨by repeat (first | (with_reducible first | exact HB.out | apply below_alloc | apply pw_below_drewN | apply below_drew1 | refine below_set ?_ GE185.out) | exact HB.out)⟩⟩
        · rw [if_neg c8] at H
          have c8b0 : (((rd_T32 l0 a1).f0) == 18) = false := beq_eq_false_iff_ne.mpr c8
          have c8b1 : (((rd_T32 l0 a1).f0) != 18) = true := bne_iff_ne.mpr c8
          (first | rw [c8b0] | (simp only [i64_w, i32_w]; rw [c8b0]) | skip)
          obtain ⟨bq15, hbq15⟩ : ∃ b_ : Bool, b_ = ((rd_T32 l0 a1).f1) := ⟨_, rfl⟩
          replace H : (if (bq15 = true) then (if ((rd_T32 l0 a1).f0) = 19 then (if 0 ≤ (wrap64 (a1 - 1)) then (if (wrap64 (a1 - 1)) < (l0.length : Int) then (spec_WordOpen.j0 k l0 a1 (((rd_T32 l0 (wrap64 (a1 - 1))).f0) == 5)) else (none)) else (none)) else (spec_WordOpen.j0 k l0 a1 false)) else (spec_WordOpen.j0 k l0 a1 true)) = some r := by rw [← hbq15] at H; exact H
          have Nbq15 := Aside0.mk hbq15
          clear hbq15
          by_cases c16 : (bq15 = true)
          · subst c16
            have H1 : (if ((rd_T32 l0 a1).f0) = 19 then (if 0 ≤ (wrap64 (a1 - 1)) then (if (wrap64 (a1 - 1)) < (l0.length : Int) then (spec_WordOpen.j0 k l0 a1 (((rd_T32 l0 (wrap64 (a1 - 1))).f0) == 5)) else (none)) else (none)) else (spec_WordOpen.j0 k l0 a1 false)) = some r := by rw [if_pos rfl] at H; exact H
            clear H
            have H := H1
            clear H1
            by_cases c17 : ((rd_T32 l0 a1).f0) = 19
            · rw [if_pos c17] at H
              have c17b0 : (((rd_T32 l0 a1).f0) == 19) = true := beq_iff_eq.mpr c17
              have c17b1 : (((rd_T32 l0 a1).f0) != 19) = false := bne_eq_false_iff_eq.mpr c17
              clear c17
              obtain ⟨ji18, hji18⟩ : ∃ j_ : Int, (wrap64 (a1 - 1)) = j_ := ⟨_, rfl⟩
              replace H : (if 0 ≤ (ji18) then (if (ji18) < (l0.length : Int) then (spec_WordOpen.j0 k l0 a1 (((rd_T32 l0 (ji18)).f0) == 5)) else (none)) else (none)) = some r := by first | (rw [hji18] at H; exact H) | (simp only [hji18] at H ⊢; exact H)
              have hji18w : (IntKind.i64.wrap (a1 - 1)) = ji18 := (i64_w _).trans hji18
              by_cases c19 : 0 ≤ (ji18)
              · rw [if_pos c19] at H
                have c19b0 : decide (0 ≤ (ji18)) = true := decide_eq_true c19
                clear c19
                by_cases c20 : (ji18) < (l0.length : Int)
                · rw [if_pos c20] at H
                  have c20b0 : decide ((ji18) < (l0.length : Int)) = true := decide_eq_true c20
                  clear c20
                  have H' := Aside0.mk H
                  clear H
                  have hcz21_0 : w6.cell? ⟨gb185, 0, none⟩ = some (.int .i64 0) := (blk_cell BK185.out 0).trans rfl
                  have hcz21_1 : w6.cell? ⟨gb185, 1, none⟩ = some (.bool false) := (blk_cell BK185.out 1).trans rfl
                  have hfz21_0 := blk_frozen BK185.out 0
                  have hfz21_1 := blk_frozen BK185.out 1
                  have p187 : 0 ≤ ((ji18) : Int) := of_decide_eq_true (by first | (with_reducible assumption) | assumption)
                  have q187 : (ji18) < (l0.length : Int) := of_decide_eq_true (by first | (with_reducible assumption) | assumption)
                  obtain ⟨ad187, e187, hx187_0, hx187_1⟩ := at_T32 HR0.out (ji18) p187 q187
                  (try rw [← Nbq15.out] at hx187_1)
                  obtain rfl : ad184 = ad187 := (by injection e187)
                  have hn187_0 : ad184.block ≠ gb185 := Nat.ne_of_lt (Nat.lt_of_lt_of_le (by have := World.block_lt_of_cell? _ _ hx187_0; first | rwa [add_block] at this | exact this) GW185.out)
                  have hn187_1 : ad184.block ≠ gb185 := Nat.ne_of_lt (Nat.lt_of_lt_of_le (by have := World.block_lt_of_cell? _ _ hx187_0; first | rwa [add_block] at this | exact this) GW185.out)
                  replace hx187_0 := (HB.out.cell (World.block_lt_of_cell? w _ hx187_0)).trans hx187_0
                  replace hx187_1 := (HB.out.cell (World.block_lt_of_cell? w _ hx187_1)).trans hx187_1
                  replace hx187_0 := (cell_far (p := ⟨gb185, 0, none⟩) (by first | (rw [add_block]; exact hn187_0) | (show (Addr.add _ _).block ≠ _; rw [add_block]; exact hn187_0) | exact hn187_0) (.int .i64 ((rd_T32 l0 a1).f0))).trans hx187_0
                  replace hx187_1 := (cell_far (p := ⟨gb185, 0, none⟩) (by first | (rw [add_block]; exact hn187_0) | (show (Addr.add _ _).block ≠ _; rw [add_block]; exact hn187_0) | exact hn187_0) (.int .i64 ((rd_T32 l0 a1).f0))).trans hx187_1
                  replace hx187_0 := (cell_far (p := ⟨gb185, 1, none⟩) (by first | (rw [add_block]; exact hn187_1) | (show (Addr.add _ _).block ≠ _; rw [add_block]; exact hn187_1) | exact hn187_1) (.bool (true))).trans hx187_0
                  replace hx187_1 := (cell_far (p := ⟨gb185, 1, none⟩) (by first | (rw [add_block]; exact hn187_1) | (show (Addr.add _ _).block ≠ _; rw [add_block]; exact hn187_1) | exact hn187_1) (.bool (true))).trans hx187_1
                  clear hn187_0
                  clear hn187_1
                  replace p187 := eq_true p187
                  replace q187 := eq_true q187
                  go_wp2
                  all_goals first | (exact absurd Nbq15.out.symm (by assumption)) | (exact absurd (Nbq15.out.trans (by assumption)) (by decide)) | skip
                  go_meet
                  case rel => exact ⟨_, ((((rd_T32 l0 (ji18)).f0) == 5)), (by first | rfl | (simp; done) | (simp only [← hji18] <;> (first | rfl | simp)) | (simp [*]; done)), H', ⟨by first | omega | exact Nat.le_refl _⟩, ⟨by (with_reducible repeat (first | refine blk_drewN ?_ _ | refine blk_drew ?_ | refine blk_alloc ?_ _)); refine blk_put (cs := #[.int .i64 ((rd_T32 l0 a1).f0), .bool false]) ?_ 1 _ (by first | rfl | (rw [← Nbq15.out]; rfl) | (simp [← Nbq15.out]; done)); (with_reducible repeat (first | refine blk_drewN ?_ _ | refine blk_drew ?_ | refine blk_alloc ?_ _)); refine blk_put (cs := #[.int .i64 0, .bool false]) ?_ 0 _ rfl; (with_reducible repeat (first | refine blk_drewN ?_ _ | refine blk_drew ?_ | refine blk_alloc ?_ _)); exact BK185.out⟩, ⟨by repeat (first | (with_reducible first | exact HB.out | apply below_alloc | apply pw_below_drewN | apply below_drew1 | refine below_set ?_ GE185.out) | exact HB.out)⟩⟩
                · rw [if_neg c20] at H
                  exact absurd H (by simp)
              · rw [if_neg c19] at H
                exact absurd H (by simp)
            · rw [if_neg c17] at H
              have c17b0 : (((rd_T32 l0 a1).f0) == 19) = false := beq_eq_false_iff_ne.mpr c17
              have c17b1 : (((rd_T32 l0 a1).f0) != 19) = true := bne_iff_ne.mpr c17
              have H' := Aside0.mk H
              clear H
              have hcz22_0 : w6.cell? ⟨gb185, 0, none⟩ = some (.int .i64 0) := (blk_cell BK185.out 0).trans rfl
              have hcz22_1 : w6.cell? ⟨gb185, 1, none⟩ = some (.bool false) := (blk_cell BK185.out 1).trans rfl
              have hfz22_0 := blk_frozen BK185.out 0
              have hfz22_1 := blk_frozen BK185.out 1
              go_wp2
              all_goals first | (exact absurd Nbq15.out.symm (by assumption)) | (exact absurd (Nbq15.out.trans (by assumption)) (by decide)) | skip
              go_meet
              case rel => exact ⟨_, (false), (by first | rfl | (simp; done) | (simp [*]; done)), H', ⟨by first | omega | exact Nat.le_refl _⟩, ⟨by (with_reducible repeat (first | refine blk_drewN ?_ _ | refine blk_drew ?_ | refine blk_alloc ?_ _)); refine blk_put (cs := #[.int .i64 ((rd_T32 l0 a1).f0), .bool false]) ?_ 1 _ (by first | rfl | (rw [← Nbq15.out]; rfl) | (simp [← Nbq15.out]; done)); (with_reducible repeat (first | refine blk_drewN ?_ _ | refine blk_drew ?_ | refine blk_alloc ?_ _)); refine blk_put (cs := #[.int .i64 0, .bool false]) ?_ 0 _ rfl; (with_reducible repeat (first | refine blk_drewN ?_ _ | refine blk_drew ?_ | refine blk_alloc ?_ _)); exact BK185.out⟩, ⟨by repeat (first | (with_reducible first | exact HB.out | apply below_alloc | apply pw_below_drewN | apply below_drew1 | refine below_set ?_ GE185.out) | exact HB.out)⟩⟩
          · replace c16 := Bool.eq_false_iff.mpr c16
            subst c16
            skip
            have H1 : (spec_WordOpen.j0 k l0 a1 true) = some r := by rw [if_neg (show ¬ (false = true) by decide)] at H; exact H
            clear H
            have H := H1
            clear H1
            have H' := Aside0.mk H
            clear H
            have hcz23_0 : w6.cell? ⟨gb185, 0, none⟩ = some (.int .i64 0) := (blk_cell BK185.out 0).trans rfl
            have hcz23_1 : w6.cell? ⟨gb185, 1, none⟩ = some (.bool false) := (blk_cell BK185.out 1).trans rfl
            have hfz23_0 := blk_frozen BK185.out 0
            have hfz23_1 := blk_frozen BK185.out 1
            go_wp2
            all_goals first | (exact absurd Nbq15.out.symm (by assumption)) | (exact absurd (Nbq15.out.trans (by assumption)) (by decide)) | skip
            go_meet
            case rel => exact ⟨_, (true), (by first | rfl | (simp; done) | (simp [*]; done)), H', ⟨by first | omega | exact Nat.le_refl _⟩, ⟨by (with_reducible repeat (first | refine blk_drewN ?_ _ | refine blk_drew ?_ | refine blk_alloc ?_ _)); refine blk_put (cs := #[.int .i64 ((rd_T32 l0 a1).f0), .bool false]) ?_ 1 _ (by first | rfl | (rw [← Nbq15.out]; rfl) | (simp [← Nbq15.out]; done)); (with_reducible repeat (first | refine blk_drewN ?_ _ | refine blk_drew ?_ | refine blk_alloc ?_ _)); refine blk_put (cs := #[.int .i64 0, .bool false]) ?_ 0 _ rfl; (with_reducible repeat (first | refine blk_drewN ?_ _ | refine blk_drew ?_ | refine blk_alloc ?_ _)); exact BK185.out⟩, ⟨by repeat (first | (with_reducible first | exact HB.out | apply below_alloc | apply pw_below_drewN | apply below_drew1 | refine below_set ?_ GE185.out) | exact HB.out)⟩⟩
      case rest =>
        clear HC5
        try clear c1
        try clear p1
        try clear q1
        try clear hx1
        try clear c2
        try clear p2
        try clear c3
        try clear c3b0
        try clear c4
        try clear c4b0
        try clear p6
        try clear c8
        try clear c8b0
        try clear c8b1
        try clear c9
        try clear c9b0
        try clear c9b1
        try clear c11
        try clear c11b0
        try clear c12
        try clear c12b0
        try clear c13
        try clear q15
        try clear c16
        try clear c17
        try clear c17b0
        try clear c17b1
        try clear p18
        try clear q18
        try clear hx18
        try clear c19
        try clear c19b0
        try clear c20
        try clear c20b0
        try clear hcz13_0
        try clear hcz13_1
        try clear hcz14_0
        try clear hcz14_1
        try clear hcz21_0
        try clear hcz21_1
        try clear hcz22_0
        try clear hcz22_1
        try clear hcz23_0
        try clear hcz23_1
        try clear hcz7_0
        try clear hcz7_1
        try clear hfz13_0
        try clear hfz13_1
        try clear hfz14_0
        try clear hfz14_1
        try clear hfz21_0
        try clear hfz21_1
        try clear hfz22_0
        try clear hfz22_1
        try clear hfz23_0
        try clear hfz23_1
        try clear hfz7_0
        try clear hfz7_1
        try clear hx184_0
        try clear hx184_1
        try clear hx186_0
        try clear hx186_1
        try clear hx187_0
        try clear hx187_1
        try clear p184
        try clear p186
        try clear p187
        try clear q184
        try clear q186
        try clear q187
        obtain ⟨kq, x32_4, rfl, HA, HJ4, BK185, HB⟩ := hcut
        cases kq with
        | zero => exact absurd HA.out (by simp [spec_WordOpen.j0])
        | succ kj4 =>
          have H := HA.out
          clear HA
          simp only [spec_WordOpen.j0] at H
          by_cases c24 : x32_4 = true
          · subst c24
            have H1 : (some false) = some r := by rw [if_pos rfl] at H; exact H
            clear H
            have H := H1
            clear H1
            obtain rfl := Option.some.inj H
            go_wp2
            go_ret
            exact ⟨by first | rfl | (simp [errW_none, errW_some] <;> rfl) | (simp [*, errW_none, errW_some] <;> rfl), by repeat (first | (with_reducible first | exact HB.out | apply below_alloc | apply pw_below_drewN | apply below_drew1 | refine below_set ?_ GE185.out) | exact HB.out)⟩
          · replace c24 := Bool.eq_false_iff.mpr c24
            subst c24
            have H1 : (spec_WordOpen.l0 kj4 l0 (wrap64 (a1 - 1))) = some r := by rw [if_neg (show ¬ (false = true) by decide)] at H; exact H
            clear H
            have H := H1
            clear H1
            have H' := Aside0.mk H
            clear H
            go_wp2
            go_loopg [6] kj4 (fun kq v6 w' => ∃ (x6_2 : Int), v6 = .int .i64 x6_2 ∧ Aside0 (spec_WordOpen.l0 kq l0 x6_2 = some r) ∧ Aside0 (kq ≤ kj4) ∧ Aside0 (w'.heap[gb185]? = some (.cells #[.int .i64 ((rd_T32 l0 a1).f0), .bool ((rd_T32 l0 a1).f1)] 32 (0, 0))) ∧ Aside0 (Below w.heap.size w w'))
            case atStart => exact ⟨(wrap64 (a1 - 1)), (by first | rfl | (simp; done) | (simp [*]; done)), H', ⟨Nat.le_refl _⟩, ⟨by (with_reducible repeat (first | refine blk_drewN ?_ _ | refine blk_drew ?_ | refine blk_alloc ?_ _)); exact BK185.out⟩, ⟨by repeat (first | (with_reducible first | exact HB.out | apply below_alloc | apply pw_below_drewN | apply below_drew1 | refine below_set ?_ GE185.out) | exact HB.out)⟩⟩
            case round =>
              clear H'
              try clear c1
              try clear p1
              try clear q1
              try clear hx1
              try clear c2
              try clear p2
              try clear c3
              try clear c3b0
              try clear c4
              try clear c4b0
              try clear p6
              try clear c8
              try clear c8b0
              try clear c8b1
              try clear c9
              try clear c9b0
              try clear c9b1
              try clear c11
              try clear c11b0
              try clear c12
              try clear c12b0
              try clear c13
              try clear q15
              try clear c16
              try clear c17
              try clear c17b0
              try clear c17b1
              try clear p18
              try clear q18
              try clear hx18
              try clear c19
              try clear c19b0
              try clear c20
              try clear c20b0
              try clear c24
              try clear hcz13_0
              try clear hcz13_1
              try clear hcz14_0
              try clear hcz14_1
              try clear hcz21_0
              try clear hcz21_1
              try clear hcz22_0
              try clear hcz22_1
              try clear hcz23_0
              try clear hcz23_1
              try clear hcz7_0
              try clear hcz7_1
              try clear hfz13_0
              try clear hfz13_1
              try clear hfz14_0
              try clear hfz14_1
              try clear hfz21_0
              try clear hfz21_1
              try clear hfz22_0
              try clear hfz22_1
              try clear hfz23_0
              try clear hfz23_1
              try clear hfz7_0
              try clear hfz7_1
              try clear hx184_0
              try clear hx184_1
              try clear hx186_0
              try clear hx186_1
              try clear hx187_0
              try clear hx187_1
              try clear p1
              try clear p18
              try clear p184
              try clear p186
              try clear p187
              try clear p2
              try clear p6
              try clear q1
              try clear q15
              try clear q18
              try clear q184
              try clear q186
              try clear q187
              obtain ⟨x6_2, rfl, HA, HK2, BK185, HB⟩ := hrel
              cases gk with
              | zero => exact absurd HA.out (by simp [spec_WordOpen.l0])
              | succ k2 =>
                have H := HA.out
                clear HA
                simp only [spec_WordOpen.l0] at H
                have HC25 := Aside0.mk H
                clear H
                go_upto_region 5 with (fail)
                go_cut [44] (fun v44 wc => ∃ (kq : Nat) (x44_24 : Bool), v44 = .bool x44_24 ∧ Aside0 (spec_WordOpen.j2 kq l0 x6_2 x44_24 = some r) ∧ Aside0 (kq ≤ k2) ∧ Aside0 (wc.heap[gb185]? = some (.cells #[.int .i64 ((rd_T32 l0 a1).f0), .bool ((rd_T32 l0 a1).f1)] 32 (0, 0))) ∧ Aside0 (Below w.heap.size w wc))
                case first =>
                  have H := HC25.out
                  clear HC25
                  by_cases c26 : x6_2 ≥ 0
                  · rw [if_pos c26] at H
                    have c26b0 : decide (0 ≤ x6_2) = true := decide_eq_true c26
                    clear c26
                    (first | rw [c26b0] | (simp only [i64_w, i32_w]; rw [c26b0]) | skip)
                    by_cases c27 : 0 ≤ x6_2
                    · rw [if_pos c27] at H
                      have c27b0 : decide (0 ≤ x6_2) = true := decide_eq_true c27
                      clear c27
                      by_cases c28 : x6_2 < (l0.length : Int)
                      · rw [if_pos c28] at H
                        have c28b0 : decide (x6_2 < (l0.length : Int)) = true := decide_eq_true c28
                        clear c28
                        replace H := Option.bind_eq_some_iff.mp H
                        obtain ⟨t189, A290, H⟩ := H
                        replace H : (spec_WordOpen.j2 k2 l0 x6_2 t189) = some r := H
                        have A29 := Aside0.mk A290
                        clear A290
                        have H' := Aside0.mk H
                        clear H
                        have p188 : 0 ≤ (x6_2 : Int) := of_decide_eq_true (by first | (with_reducible assumption) | assumption)
                        have q188 : x6_2 < (l0.length : Int) := of_decide_eq_true (by first | (with_reducible assumption) | assumption)
                        obtain ⟨ad188, e188, hx188_0, hx188_1⟩ := at_T32 HR0.out x6_2 p188 q188
                        obtain rfl : ad184 = ad188 := (by injection e188)
                        replace hx188_0 := (HB.out.cell (World.block_lt_of_cell? w _ hx188_0)).trans hx188_0
                        replace hx188_1 := (HB.out.cell (World.block_lt_of_cell? w _ hx188_1)).trans hx188_1
                        replace p188 := eq_true p188
                        replace q188 := eq_true q188
                        go_wp2_with (first | (go_at_call 30; (with_reducible refine (spec_wbMute.calls k2 ((rd_T32 l0 x6_2).f0) t189 _ A29.out).mono ?_); rintro e w30 ⟨rfl, hb⟩; have n0_ := Aside0.mk (blk_below (g := gb185) (o := .cells #[.int .i64 ((rd_T32 l0 a1).f0), .bool ((rd_T32 l0 a1).f1)] 32 (0, 0)) (by (with_reducible repeat (first | refine blk_drewN ?_ _ | refine blk_drew ?_ | refine blk_alloc ?_ _)); exact BK185.out) hb); have n1_ := Aside0.mk (below_step (by repeat (first | (with_reducible first | exact HB.out | apply below_alloc | apply pw_below_drewN | apply below_drew1 | refine below_set ?_ GE185.out) | exact HB.out)) hb); clear BK185; clear HB; have BK185 := n0_; have HB := n1_; clear n0_ n1_; (try clear hb); (try clear hb2); (try clear hk); (try clear hi)))
                        go_meet
                        case rel => exact ⟨_, (t189), (by first | rfl | (simp; done) | (simp [*]; done)), H', ⟨by have := HJ4.out; have := HK2.out; first | omega | exact Nat.le_refl _⟩, ⟨by (with_reducible repeat (first | refine blk_drewN ?_ _ | refine blk_drew ?_ | refine blk_alloc ?_ _)); exact BK185.out⟩, ⟨by repeat (first | (with_reducible first | exact HB.out | apply below_alloc | apply pw_below_drewN | apply below_drew1 | refine below_set ?_ GE185.out) | exact HB.out)⟩⟩
                      · rw [if_neg c28] at H
                        exact absurd H (by simp)
                    · rw [if_neg c27] at H
                      exact absurd H (by simp)
                  · rw [if_neg c26] at H
                    have c26b0 : decide (0 ≤ x6_2) = false := decide_eq_false c26
                    clear c26
                    (first | rw [c26b0] | (simp only [i64_w, i32_w]; rw [c26b0]) | skip)
                    have H' := Aside0.mk H
                    clear H
                    go_wp2
                    all_goals first | (exact absurd Nbq15.out.symm (by assumption)) | (exact absurd (Nbq15.out.trans (by assumption)) (by decide)) | skip
                    go_meet
                    case rel => exact ⟨_, (false), (by first | rfl | (simp; done) | (simp [*]; done)), H', ⟨by have := HJ4.out; have := HK2.out; first | omega | exact Nat.le_refl _⟩, ⟨by (with_reducible repeat (first | refine blk_drewN ?_ _ | refine blk_drew ?_ | refine blk_alloc ?_ _)); exact BK185.out⟩, ⟨by repeat (first | (with_reducible first | exact HB.out | apply below_alloc | apply pw_below_drewN | apply below_drew1 | refine below_set ?_ GE185.out) | exact HB.out)⟩⟩
                case rest =>
                  clear HC25
                  try clear c1
                  try clear p1
                  try clear q1
                  try clear hx1
                  try clear c2
                  try clear p2
                  try clear c3
                  try clear c3b0
                  try clear c4
                  try clear c4b0
                  try clear p6
                  try clear c8
                  try clear c8b0
                  try clear c8b1
                  try clear c9
                  try clear c9b0
                  try clear c9b1
                  try clear c11
                  try clear c11b0
                  try clear c12
                  try clear c12b0
                  try clear c13
                  try clear q15
                  try clear c16
                  try clear c17
                  try clear c17b0
                  try clear c17b1
                  try clear p18
                  try clear q18
                  try clear hx18
                  try clear c19
                  try clear c19b0
                  try clear c20
                  try clear c20b0
                  try clear c24
                  try clear c26
                  try clear c26b0
                  try clear c27
                  try clear c27b0
                  try clear c28
                  try clear c28b0
                  try clear hcz13_0
                  try clear hcz13_1
                  try clear hcz14_0
                  try clear hcz14_1
                  try clear hcz21_0
                  try clear hcz21_1
                  try clear hcz22_0
                  try clear hcz22_1
                  try clear hcz23_0
                  try clear hcz23_1
                  try clear hcz7_0
                  try clear hcz7_1
                  try clear hfz13_0
                  try clear hfz13_1
                  try clear hfz14_0
                  try clear hfz14_1
                  try clear hfz21_0
                  try clear hfz21_1
                  try clear hfz22_0
                  try clear hfz22_1
                  try clear hfz23_0
                  try clear hfz23_1
                  try clear hfz7_0
                  try clear hfz7_1
                  try clear hx184_0
                  try clear hx184_1
                  try clear hx186_0
                  try clear hx186_1
                  try clear hx187_0
                  try clear hx187_1
                  try clear hx188_0
                  try clear hx188_1
                  try clear p1
                  try clear p18
                  try clear p184
                  try clear p186
                  try clear p187
                  try clear p188
                  try clear p2
                  try clear p6
                  try clear q1
                  try clear q15
                  try clear q18
                  try clear q184
                  try clear q186
                  try clear q187
                  try clear q188
                  obtain ⟨kq, x44_24, rfl, HA, HJ24, BK185, HB⟩ := hcut
                  cases kq with
                  | zero => exact absurd HA.out (by simp [spec_WordOpen.j2])
                  | succ kj24 =>
                    have H := HA.out
                    clear HA
                    simp only [spec_WordOpen.j2] at H
                    by_cases c31 : x44_24 = true
                    · subst c31
                      have H1 : (if 0 ≤ x6_2 then (if x6_2 < (l0.length : Int) then (if ((rd_T32 l0 x6_2).f0) = 5 then (some true) else (spec_WordOpen.l0 kj24 l0 (wrap64 (x6_2 - 1)))) else (none)) else (none)) = some r := by rw [if_pos rfl] at H; exact H
                      clear H
                      have H := H1
                      clear H1
                      by_cases c32 : 0 ≤ x6_2
                      · rw [if_pos c32] at H
                        have c32b0 : decide (0 ≤ x6_2) = true := decide_eq_true c32
                        clear c32
                        by_cases c33 : x6_2 < (l0.length : Int)
                        · rw [if_pos c33] at H
                          have c33b0 : decide (x6_2 < (l0.length : Int)) = true := decide_eq_true c33
                          clear c33
                          by_cases c34 : ((rd_T32 l0 x6_2).f0) = 5
                          · rw [if_pos c34] at H
                            have c34b0 : (((rd_T32 l0 x6_2).f0) == 5) = true := beq_iff_eq.mpr c34
                            have c34b1 : (((rd_T32 l0 x6_2).f0) != 5) = false := bne_eq_false_iff_eq.mpr c34
                            clear c34
                            obtain rfl := Option.some.inj H
                            have p190 : 0 ≤ (x6_2 : Int) := of_decide_eq_true (by first | (with_reducible assumption) | assumption)
                            have q190 : x6_2 < (l0.length : Int) := of_decide_eq_true (by first | (with_reducible assumption) | assumption)
                            obtain ⟨ad190, e190, hx190_0, hx190_1⟩ := at_T32 HR0.out x6_2 p190 q190
                            obtain rfl : ad184 = ad190 := (by injection e190)
                            replace hx190_0 := (HB.out.cell (World.block_lt_of_cell? w _ hx190_0)).trans hx190_0
                            replace hx190_1 := (HB.out.cell (World.block_lt_of_cell? w _ hx190_1)).trans hx190_1
                            replace p190 := eq_true p190
                            replace q190 := eq_true q190
                            go_wp2
                            go_ret
                            exact ⟨by first | rfl | (simp [errW_none, errW_some] <;> rfl) | (simp [*, errW_none, errW_some] <;> rfl), by repeat (first | (with_reducible first | exact HB.out | apply below_alloc | apply pw_below_drewN | apply below_drew1 | refine below_set ?_ GE185.out) | exact HB.out)⟩
                          · rw [if_neg c34] at H
                            have c34b0 : (((rd_T32 l0 x6_2).f0) == 5) = false := beq_eq_false_iff_ne.mpr c34
                            have c34b1 : (((rd_T32 l0 x6_2).f0) != 5) = true := bne_iff_ne.mpr c34
                            have H' := Aside0.mk H
                            clear H
                            have p190 : 0 ≤ (x6_2 : Int) := of_decide_eq_true (by first | (with_reducible assumption) | assumption)
                            have q190 : x6_2 < (l0.length : Int) := of_decide_eq_true (by first | (with_reducible assumption) | assumption)
                            obtain ⟨ad190, e190, hx190_0, hx190_1⟩ := at_T32 HR0.out x6_2 p190 q190
                            obtain rfl : ad184 = ad190 := (by injection e190)
                            replace hx190_0 := (HB.out.cell (World.block_lt_of_cell? w _ hx190_0)).trans hx190_0
                            replace hx190_1 := (HB.out.cell (World.block_lt_of_cell? w _ hx190_1)).trans hx190_1
                            replace p190 := eq_true p190
                            replace q190 := eq_true q190
                            go_wp2
                            go_roundg kj24
                            case measure => have := HJ4.out; have := HK2.out; have := HJ24.out; omega
                            case rel => exact ⟨(wrap64 (x6_2 - 1)), (by first | rfl | (simp; done) | (simp [*]; done)), H', ⟨by have := HJ4.out; have := HK2.out; have := HJ24.out; omega⟩, ⟨by (with_reducible repeat (first | refine blk_drewN ?_ _ | refine blk_drew ?_ | refine blk_alloc ?_ _)); exact BK185.out⟩, ⟨by repeat (first | (with_reducible first | exact HB.out | apply below_alloc | apply pw_below_drewN | apply below_drew1 | refine below_set ?_ GE185.out) | exact HB.out)⟩⟩
                        · rw [if_neg c33] at H
                          exact absurd H (by simp)
                      · rw [if_neg c32] at H
                        exact absurd H (by simp)
                    · replace c31 := Bool.eq_false_iff.mpr c31
                      subst c31
                      have H1 : (some false) = some r := by rw [if_neg (show ¬ (false = true) by decide)] at H; exact H
                      clear H
                      have H := H1
                      clear H1
                      obtain rfl := Option.some.inj H
                      go_wp2
                      go_ret
                      exact ⟨by first | rfl | (simp [errW_none, errW_some] <;> rfl) | (simp [*, errW_none, errW_some] <;> rfl), by repeat (first | (with_reducible first | exact HB.out | apply below_alloc | apply pw_below_drewN | apply below_drew1 | refine below_set ?_ GE185.out) | exact HB.out)⟩
    · rw [if_neg c4] at H
      exact absurd H (by simp)
  · rw [if_neg c3] at H
    exact absurd H (by simp)

end Go.Proofs.Ytnanfoahimccpaa.Wd
