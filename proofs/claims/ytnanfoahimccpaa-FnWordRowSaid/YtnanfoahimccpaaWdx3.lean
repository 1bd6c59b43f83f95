/- Functions of the translation as Lean functions, and their walks: lines written by a program, a turned copy of the kit's print. -/
import Derived.Test.YtnanfoahimccpaaWdx0
import Derived.Test.YtnanfoahimccpaaWdx1
import Derived.Test.YtnanfoahimccpaaWdx2
namespace Go.Proofs.Ytnanfoahimccpaa.Wd
open Go.RowKit Go.Proofs.YtnanfoahimccpaaW.PrintWords Go.Proofs.YtnanfoahimccpaaW.PrintLast Go.Proofs.YtnanfoahimccpaaW.PrintMore
attribute [local go_sem] max2_int min2_int max_two min_two max_three min_three max_four min_four   -- for this text's walks alone
set_option linter.unusedVariables false
set_option linter.unusedSimpArgs false

/-! ### spec_wbKindAhead: function 32 -/
def spec_wbKindAhead.f (k : Nat) (l0 : List (S32)) (a1 : Int) : Option (Int × Int) := (spec_wbAhead.f k l0 a1).bind fun t128 => (if t128 < 0 then (some ((-1), t128)) else (if 0 ≤ t128 then (if t128 < (l0.length : Int) then (some ((rd_T32 l0 t128).f0, t128)) else (none)) else (none)))
theorem spec_wbKindAhead.mono : ∀ a0 a1 k, LeO (spec_wbKindAhead.f k a0 a1) (spec_wbKindAhead.f (k + 1) a0 a1) := by
  intro a0 a1 k
  unfold spec_wbKindAhead.f
  repeat' first
      | (with_reducible exact spec_wbAhead.mono _ _ _)
      | (with_reducible exact LeO.refl _)
      | (with_reducible exact LeO.none _)
      | (with_reducible refine LeO.ite ?_ ?_)
      | (with_reducible refine LeO.bind ?_ (fun _ => ?_))
      | exact spec_wbAhead.mono _ _ _
      | exact LeO.none _
      | refine LeO.ite ?_ ?_
      | refine LeO.bind ?_ (fun _ => ?_)
set_option maxHeartbeats 8000000 in
set_option maxRecDepth 100000 in
theorem spec_wbKindAhead.calls (k : Nat) (A0 : Option Addr) (c0 : Nat) (l0 : List (S32)) (a1 : Int) (r1 : Int) (r2 : Int) (w : World) (hr0 : Kd.C k32 w A0 l0.length l0) (hc0 : l0.length ≤ c0) (h : spec_wbKindAhead.f k l0 a1 = some (r1, r2)) :
    Calls Try.prog 32 #[.slice A0 l0.length c0, .int .i64 a1] w fun e w' => e = .returned (.tuple #[.int .i64 r1, .int .i64 r2]) ∧ Below w.heap.size w w' := by
  have HR0 := Aside0.mk hr0
  have HC0 := Aside0.mk hc0
  clear hr0 hc0
  have HB := Aside0.mk (Below.refl w.heap.size w)
  have H : ((spec_wbAhead.f k l0 a1).bind fun t128 => (if t128 < 0 then (some ((-1), t128)) else (if 0 ≤ t128 then (if t128 < (l0.length : Int) then (some ((rd_T32 l0 t128).f0, t128)) else (none)) else (none)))) = some (r1, r2) := h
  clear h
  replace H := Option.bind_eq_some_iff.mp H
  obtain ⟨t128, A30, H⟩ := H
  replace H : (if t128 < 0 then (some ((-1), t128)) else (if 0 ≤ t128 then (if t128 < (l0.length : Int) then (some ((rd_T32 l0 t128).f0, t128)) else (none)) else (none))) = some (r1, r2) := H
  have A3 := Aside0.mk A30
  clear A30
  by_cases c4 : t128 < 0
  · rw [if_pos c4] at H
    have c4b0 : decide (t128 < 0) = true := decide_eq_true c4
    clear c4
    simp only [Option.some.injEq, Prod.mk.injEq] at H
    obtain ⟨rfl, rfl⟩ := H
    go_enter Try.func32, Try.ntmps32
    go_wp2_with (first | ((with_reducible refine gate_callee (f := 56) rfl ?_); refine goesL_ (some 8) rfl rfl Try.func56 (by kernel_rfl) rfl #[.slice A0 l0.length c0, .int .i64 a1] rfl (by (try simp only [List.map_toArray, List.map_cons, List.map_nil]); first | done | rfl | (simp only [List.length_drop, List.length_take]; rfl)) ?_; (with_reducible refine (spec_wbAhead.calls k _ _ l0 a1 t128 _ ?side1 ?side2 A3.out).mono ?_); (case side1 => repeat (first | exact HR0.out | (with_reducible refine Kd.C_alloc ?_ _) | (with_reducible refine Kd.C_drewN ?_ _) | (with_reducible refine Kd.C_drew ?_))); (case side2 => exact HC0.out); rintro e w5 ⟨rfl, hb⟩; refine ⟨_, rfl, ?_⟩; have n0_ := Aside0.mk (below_step (by repeat (first | (with_reducible first | exact HB.out | apply below_alloc | apply pw_below_drewN | apply below_drew1) | exact HB.out)) hb); clear HB; have HB := n0_; clear n0_; (try clear hb); (try clear hb2); (try clear hk); (try clear hi)))
    go_ret2
    exact ⟨by first | rfl | (simp [errW_none, errW_some] <;> rfl) | (simp [*, errW_none, errW_some] <;> rfl), by repeat (first | (with_reducible first | exact HB.out | apply below_alloc | apply pw_below_drewN | apply below_drew1) | exact HB.out)⟩
  · rw [if_neg c4] at H
    have c4b0 : decide (t128 < 0) = false := decide_eq_false c4
    clear c4
    by_cases c6 : 0 ≤ t128
    · rw [if_pos c6] at H
      have c6b0 : decide (0 ≤ t128) = true := decide_eq_true c6
      clear c6
      by_cases c7 : t128 < (l0.length : Int)
      · rw [if_pos c7] at H
        have c7b0 : decide (t128 < (l0.length : Int)) = true := decide_eq_true c7
        clear c7
        simp only [Option.some.injEq, Prod.mk.injEq] at H
        obtain ⟨rfl, rfl⟩ := H
        go_enter Try.func32, Try.ntmps32
        go_wp2_with (first | ((with_reducible refine gate_callee (f := 56) rfl ?_); refine goesL_ (some 8) rfl rfl Try.func56 (by kernel_rfl) rfl #[.slice A0 l0.length c0, .int .i64 a1] rfl (by (try simp only [List.map_toArray, List.map_cons, List.map_nil]); first | done | rfl | (simp only [List.length_drop, List.length_take]; rfl)) ?_; (with_reducible refine (spec_wbAhead.calls k _ _ l0 a1 t128 _ ?side1 ?side2 A3.out).mono ?_); (case side1 => repeat (first | exact HR0.out | (with_reducible refine Kd.C_alloc ?_ _) | (with_reducible refine Kd.C_drewN ?_ _) | (with_reducible refine Kd.C_drew ?_))); (case side2 => exact HC0.out); rintro e w8 ⟨rfl, hb⟩; refine ⟨_, rfl, ?_⟩; have n0_ := Aside0.mk (below_step (by repeat (first | (with_reducible first | exact HB.out | apply below_alloc | apply pw_below_drewN | apply below_drew1) | exact HB.out)) hb); clear HB; have HB := n0_; clear n0_; (try clear hb); (try clear hb2); (try clear hk); (try clear hi); have p129 : 0 ≤ (t128 : Int) := of_decide_eq_true (by first | (with_reducible assumption) | assumption); have q129 : t128 < (l0.length : Int) := of_decide_eq_true (by first | (with_reducible assumption) | assumption); obtain ⟨ad129, e129, hx129_0, hx129_1⟩ := at_T32 HR0.out t128 p129 q129; cases e129; replace hx129_0 := (HB.out.cell (World.block_lt_of_cell? w _ hx129_0)).trans hx129_0; replace hx129_1 := (HB.out.cell (World.block_lt_of_cell? w _ hx129_1)).trans hx129_1; replace p129 := eq_true p129; replace q129 := eq_true q129))
        go_ret2
        exact ⟨by first | rfl | (simp [errW_none, errW_some] <;> rfl) | (simp [*, errW_none, errW_some] <;> rfl), by repeat (first | (with_reducible first | exact HB.out | apply below_alloc | apply pw_below_drewN | apply below_drew1) | exact HB.out)⟩
      · rw [if_neg c7] at H
        exact absurd H (by simp)
    · rw [if_neg c6] at H
      exact absurd H (by simp)

/-! ### spec_wbBehind: function 33 -/
def spec_wbBehind.l0 : Nat → List (S32) → Int → Option (Int)
  | 0, _, _ => none
  | k + 1, x0, x1 => if x1 < (x0.length : Int) then (if 0 ≤ x1 then ((spec_wbMute.f k ((rd_T32 x0 x1).f0)).bind fun t131 => (if t131 = true then (if 0 ≤ (wrap64 (x1 - 1)) then (if (wrap64 (x1 - 1)) < (x0.length : Int) then ((spec_wbNewline.f k ((rd_T32 x0 (wrap64 (x1 - 1))).f0)).bind fun t133 => (if t133 = true then (some ((rd_T32 x0 x1).f0)) else (spec_wbBehind.l0 k x0 (wrap64 (x1 + 1))))) else (none)) else (none)) else (some ((rd_T32 x0 x1).f0)))) else (none)) else (some (-1))
def spec_wbBehind.f (k : Nat) (l0 : List (S32)) (a1 : Int) : Option (Int) := spec_wbBehind.l0 k l0 (wrap64 (a1 + 1))
theorem spec_wbBehind.mono_l : ∀ k, (∀ y0 y1, LeO (spec_wbBehind.l0 k y0 y1) (spec_wbBehind.l0 (k + 1) y0 y1))
  | 0 => fun _ _ r h => by simp [spec_wbBehind.l0] at h
  | k + 1 => by
    have ih0 := spec_wbBehind.mono_l k
    · intro y0 y1
      unfold spec_wbBehind.l0
      repeat' first
      | (with_reducible exact ih0 _ _)
      | (with_reducible exact spec_wbMute.mono _ _)
      | (with_reducible exact spec_wbNewline.mono _ _)
      | (with_reducible exact LeO.refl _)
      | (with_reducible exact LeO.none _)
      | (with_reducible refine LeO.ite ?_ ?_)
      | (with_reducible refine LeO.bind ?_ (fun _ => ?_))
      | exact ih0 _ _
      | exact spec_wbMute.mono _ _
      | exact spec_wbNewline.mono _ _
      | exact LeO.none _
      | refine LeO.ite ?_ ?_
      | refine LeO.bind ?_ (fun _ => ?_)
theorem spec_wbBehind.mono : ∀ a0 a1 k, LeO (spec_wbBehind.f k a0 a1) (spec_wbBehind.f (k + 1) a0 a1) := by
  intro a0 a1 k
  have ih0 := spec_wbBehind.mono_l k
  unfold spec_wbBehind.f
  repeat' first
      | (with_reducible exact ih0 _ _)
      | (with_reducible exact spec_wbMute.mono _ _)
      | (with_reducible exact spec_wbNewline.mono _ _)
      | (with_reducible exact LeO.refl _)
      | (with_reducible exact LeO.none _)
      | (with_reducible refine LeO.ite ?_ ?_)
      | (with_reducible refine LeO.bind ?_ (fun _ => ?_))
      | exact ih0 _ _
      | exact spec_wbMute.mono _ _
      | exact spec_wbNewline.mono _ _
      | exact LeO.none _
      | refine LeO.ite ?_ ?_
      | refine LeO.bind ?_ (fun _ => ?_)
set_option maxHeartbeats 8000000 in
set_option maxRecDepth 100000 in
theorem spec_wbBehind.calls (k : Nat) (A0 : Option Addr) (c0 : Nat) (l0 : List (S32)) (a1 : Int) (r : Int) (w : World) (hr0 : Kd.C k32 w A0 l0.length l0) (hc0 : l0.length ≤ c0) (h : spec_wbBehind.f k l0 a1 = some r) :
    Calls Try.prog 33 #[.slice A0 l0.length c0, .int .i64 a1] w fun e w' => e = .returned (.int .i64 r) ∧ Below w.heap.size w w' := by
  have HR0 := Aside0.mk hr0
  have HC0 := Aside0.mk hc0
  clear hr0 hc0
  have HB := Aside0.mk (Below.refl w.heap.size w)
  have H : (spec_wbBehind.l0 k l0 (wrap64 (a1 + 1))) = some r := h
  clear h
  have H' := Aside0.mk H
  clear H
  go_enter Try.func33, Try.ntmps33
  go_wp2
  go_loopg [1] k (fun kq v1 w' => ∃ (x1_1 : Int), v1 = .int .i64 x1_1 ∧ Aside0 (spec_wbBehind.l0 kq l0 x1_1 = some r) ∧ Aside0 (kq ≤ k) ∧ Aside0 (Below w.heap.size w w'))
  case atStart => exact ⟨(wrap64 (a1 + 1)), (by first | rfl | (simp; done) | (simp [*]; done)), H', ⟨Nat.le_refl _⟩, ⟨by repeat (first | (with_reducible first | exact HB.out | apply below_alloc | apply pw_below_drewN | apply below_drew1) | exact HB.out)⟩⟩
  case round =>
    clear H'
    try clear p2
    obtain ⟨x1_1, rfl, HA, HK1, HB⟩ := hrel
    cases gk with
    | zero => exact absurd HA.out (by simp [spec_wbBehind.l0])
    | succ k1 =>
      have H := HA.out
      clear HA
      simp only [spec_wbBehind.l0] at H
      by_cases c3 : x1_1 < (l0.length : Int)
      · rw [if_pos c3] at H
        have c3b0 : decide (x1_1 < (l0.length : Int)) = true := decide_eq_true c3
        clear c3
        by_cases c4 : 0 ≤ x1_1
        · rw [if_pos c4] at H
          have c4b0 : decide (0 ≤ x1_1) = true := decide_eq_true c4
          clear c4
          replace H := Option.bind_eq_some_iff.mp H
          obtain ⟨t131, A50, H⟩ := H
          replace H : (if t131 = true then (if 0 ≤ (wrap64 (x1_1 - 1)) then (if (wrap64 (x1_1 - 1)) < (l0.length : Int) then ((spec_wbNewline.f k1 ((rd_T32 l0 (wrap64 (x1_1 - 1))).f0)).bind fun t133 => (if t133 = true then (some ((rd_T32 l0 x1_1).f0)) else (spec_wbBehind.l0 k1 l0 (wrap64 (x1_1 + 1))))) else (none)) else (none)) else (some ((rd_T32 l0 x1_1).f0))) = some r := H
          have A5 := Aside0.mk A50
          clear A50
          by_cases c6 : t131 = true
          · subst c6
            have H1 : (if 0 ≤ (wrap64 (x1_1 - 1)) then (if (wrap64 (x1_1 - 1)) < (l0.length : Int) then ((spec_wbNewline.f k1 ((rd_T32 l0 (wrap64 (x1_1 - 1))).f0)).bind fun t133 => (if t133 = true then (some ((rd_T32 l0 x1_1).f0)) else (spec_wbBehind.l0 k1 l0 (wrap64 (x1_1 + 1))))) else (none)) else (none)) = some r := by rw [if_pos rfl] at H; exact H
            clear H
            have H := H1
            clear H1
            obtain ⟨ji7, hji7⟩ : ∃ j_ : Int, (wrap64 (x1_1 - 1)) = j_ := ⟨_, rfl⟩
            replace H : (if 0 ≤ (ji7) then (if (ji7) < (l0.length : Int) then ((spec_wbNewline.f k1 ((rd_T32 l0 (ji7)).f0)).bind fun t133 => (if t133 = true then (some ((rd_T32 l0 x1_1).f0)) else (spec_wbBehind.l0 k1 l0 (wrap64 (x1_1 + 1))))) else (none)) else (none)) = some r := by first | (rw [hji7] at H; exact H) | (simp only [hji7] at H ⊢; exact H)
            (try rw [hji7] at A5)
            have hji7w : (IntKind.i64.wrap (x1_1 - 1)) = ji7 := (i64_w _).trans hji7
            by_cases c8 : 0 ≤ (ji7)
            · rw [if_pos c8] at H
              have c8b0 : decide (0 ≤ (ji7)) = true := decide_eq_true c8
              clear c8
              by_cases c9 : (ji7) < (l0.length : Int)
              · rw [if_pos c9] at H
                have c9b0 : decide ((ji7) < (l0.length : Int)) = true := decide_eq_true c9
                clear c9
                replace H := Option.bind_eq_some_iff.mp H
                obtain ⟨t133, A100, H⟩ := H
                replace H : (if t133 = true then (some ((rd_T32 l0 x1_1).f0)) else (spec_wbBehind.l0 k1 l0 (wrap64 (x1_1 + 1)))) = some r := H
                have A10 := Aside0.mk A100
                clear A100
                by_cases c11 : t133 = true
                · subst c11
                  have H1 : (some ((rd_T32 l0 x1_1).f0)) = some r := by rw [if_pos rfl] at H; exact H
                  clear H
                  have H := H1
                  clear H1
                  obtain rfl := Option.some.inj H
                  have p130 : 0 ≤ (x1_1 : Int) := of_decide_eq_true (by first | (with_reducible assumption) | assumption)
                  have q130 : x1_1 < (l0.length : Int) := of_decide_eq_true (by first | (with_reducible assumption) | assumption)
                  obtain ⟨ad130, e130, hx130_0, hx130_1⟩ := at_T32 HR0.out x1_1 p130 q130
                  cases e130
                  replace hx130_0 := (HB.out.cell (World.block_lt_of_cell? w _ hx130_0)).trans hx130_0
                  replace hx130_1 := (HB.out.cell (World.block_lt_of_cell? w _ hx130_1)).trans hx130_1
                  replace p130 := eq_true p130
                  replace q130 := eq_true q130
                  go_wp2_with (first | ((with_reducible refine gate_callee (f := 30) rfl ?_); refine goesL_ (some 18) rfl rfl Try.func30 (by kernel_rfl) rfl #[.int .i64 ((rd_T32 l0 x1_1).f0)] rfl (by (try simp only [List.map_toArray, List.map_cons, List.map_nil]); first | done | rfl | (simp only [List.length_drop, List.length_take]; rfl)) ?_; (with_reducible refine (spec_wbMute.calls k1 ((rd_T32 l0 x1_1).f0) true _ A5.out).mono ?_); rintro e w12 ⟨rfl, hb⟩; refine ⟨_, rfl, ?_⟩; have n0_ := Aside0.mk (below_step (by repeat (first | (with_reducible first | exact HB.out | apply below_alloc | apply pw_below_drewN | apply below_drew1) | exact HB.out)) hb); clear HB; have HB := n0_; clear n0_; (try clear hb); (try clear hb2); (try clear hk); (try clear hi); have p132 : 0 ≤ ((ji7) : Int) := of_decide_eq_true (by first | (with_reducible assumption) | assumption); have q132 : (ji7) < (l0.length : Int) := of_decide_eq_true (by first | (with_reducible assumption) | assumption); obtain ⟨ad132, e132, hx132_0, hx132_1⟩ := at_T32 HR0.out (ji7) p132 q132; obtain rfl : ad130 = ad132 := (by injection e132); replace hx132_0 := (HB.out.cell (World.block_lt_of_cell? w _ hx132_0)).trans hx132_0; replace hx132_1 := (HB.out.cell (World.block_lt_of_cell? w _ hx132_1)).trans hx132_1; replace p132 := eq_true p132; replace q132 := eq_true q132) | (go_at_call 55; (with_reducible refine (spec_wbNewline.calls k1 ((rd_T32 l0 (ji7)).f0) true _ A10.out).mono ?_); rintro e w13 ⟨rfl, hb⟩; have n0_ := Aside0.mk (below_step (by repeat (first | (with_reducible first | exact HB.out | apply below_alloc | apply pw_below_drewN | apply below_drew1) | exact HB.out)) hb); clear HB; have HB := n0_; clear n0_; (try clear hb); (try clear hb2); (try clear hk); (try clear hi); have p134 : 0 ≤ (x1_1 : Int) := of_decide_eq_true (by first | (with_reducible assumption) | assumption); have q134 : x1_1 < (l0.length : Int) := of_decide_eq_true (by first | (with_reducible assumption) | assumption); obtain ⟨ad134, e134, hx134_0, hx134_1⟩ := at_T32 HR0.out x1_1 p134 q134; obtain rfl : ad130 = ad134 := (by injection e134); replace hx134_0 := (HB.out.cell (World.block_lt_of_cell? w _ hx134_0)).trans hx134_0; replace hx134_1 := (HB.out.cell (World.block_lt_of_cell? w _ hx134_1)).trans hx134_1; replace p134 := eq_true p134; replace q134 := eq_true q134))
                  go_ret
                  exact ⟨by first | rfl | (simp [errW_none, errW_some] <;> rfl) | (simp only [← hji7]; first | rfl | (simp [errW_none, errW_some] <;> rfl)) | (simp [*, errW_none, errW_some] <;> rfl), by repeat (first | (with_reducible first | exact HB.out | apply below_alloc | apply pw_below_drewN | apply below_drew1) | exact HB.out)⟩
                · replace c11 := Bool.eq_false_iff.mpr c11
                  subst c11
                  have H1 : (spec_wbBehind.l0 k1 l0 (wrap64 (x1_1 + 1))) = some r := by rw [if_neg (show ¬ (false = true) by decide)] at H; exact H
                  clear H
                  have H := H1
                  clear H1
                  have H' := Aside0.mk H
                  clear H
                  have p130 : 0 ≤ (x1_1 : Int) := of_decide_eq_true (by first | (with_reducible assumption) | assumption)
                  have q130 : x1_1 < (l0.length : Int) := of_decide_eq_true (by first | (with_reducible assumption) | assumption)
                  obtain ⟨ad130, e130, hx130_0, hx130_1⟩ := at_T32 HR0.out x1_1 p130 q130
                  cases e130
                  replace hx130_0 := (HB.out.cell (World.block_lt_of_cell? w _ hx130_0)).trans hx130_0
                  replace hx130_1 := (HB.out.cell (World.block_lt_of_cell? w _ hx130_1)).trans hx130_1
                  replace p130 := eq_true p130
                  replace q130 := eq_true q130
                  go_wp2_with (first | ((with_reducible refine gate_callee (f := 30) rfl ?_); refine goesL_ (some 18) rfl rfl Try.func30 (by kernel_rfl) rfl #[.int .i64 ((rd_T32 l0 x1_1).f0)] rfl (by (try simp only [List.map_toArray, List.map_cons, List.map_nil]); first | done | rfl | (simp only [List.length_drop, List.length_take]; rfl)) ?_; (with_reducible refine (spec_wbMute.calls k1 ((rd_T32 l0 x1_1).f0) true _ A5.out).mono ?_); rintro e w14 ⟨rfl, hb⟩; refine ⟨_, rfl, ?_⟩; have n0_ := Aside0.mk (below_step (by repeat (first | (with_reducible first | exact HB.out | apply below_alloc | apply pw_below_drewN | apply below_drew1) | exact HB.out)) hb); clear HB; have HB := n0_; clear n0_; (try clear hb); (try clear hb2); (try clear hk); (try clear hi); have p132 : 0 ≤ ((ji7) : Int) := of_decide_eq_true (by first | (with_reducible assumption) | assumption); have q132 : (ji7) < (l0.length : Int) := of_decide_eq_true (by first | (with_reducible assumption) | assumption); obtain ⟨ad132, e132, hx132_0, hx132_1⟩ := at_T32 HR0.out (ji7) p132 q132; obtain rfl : ad130 = ad132 := (by injection e132); replace hx132_0 := (HB.out.cell (World.block_lt_of_cell? w _ hx132_0)).trans hx132_0; replace hx132_1 := (HB.out.cell (World.block_lt_of_cell? w _ hx132_1)).trans hx132_1; replace p132 := eq_true p132; replace q132 := eq_true q132) | (go_at_call 55; (with_reducible refine (spec_wbNewline.calls k1 ((rd_T32 l0 (ji7)).f0) false _ A10.out).mono ?_); rintro e w15 ⟨rfl, hb⟩; have n0_ := Aside0.mk (below_step (by repeat (first | (with_reducible first | exact HB.out | apply below_alloc | apply pw_below_drewN | apply below_drew1) | exact HB.out)) hb); clear HB; have HB := n0_; clear n0_; (try clear hb); (try clear hb2); (try clear hk); (try clear hi)))
                  go_roundg k1
                  case measure => have := HK1.out; omega
                  case rel => exact ⟨(wrap64 (x1_1 + 1)), (by first | rfl | (simp; done) | (simp [*]; done)), H', ⟨by have := HK1.out; omega⟩, ⟨by repeat (first | (with_reducible first | exact HB.out | apply below_alloc | apply pw_below_drewN | apply below_drew1) | exact HB.out)⟩⟩
              · rw [if_neg c9] at H
                exact absurd H (by simp)
            · rw [if_neg c8] at H
              exact absurd H (by simp)
          · replace c6 := Bool.eq_false_iff.mpr c6
            subst c6
            have H1 : (some ((rd_T32 l0 x1_1).f0)) = some r := by rw [if_neg (show ¬ (false = true) by decide)] at H; exact H
            clear H
            have H := H1
            clear H1
            obtain rfl := Option.some.inj H
            have p130 : 0 ≤ (x1_1 : Int) := of_decide_eq_true (by first | (with_reducible assumption) | assumption)
            have q130 : x1_1 < (l0.length : Int) := of_decide_eq_true (by first | (with_reducible assumption) | assumption)
            obtain ⟨ad130, e130, hx130_0, hx130_1⟩ := at_T32 HR0.out x1_1 p130 q130
            cases e130
            replace hx130_0 := (HB.out.cell (World.block_lt_of_cell? w _ hx130_0)).trans hx130_0
            replace hx130_1 := (HB.out.cell (World.block_lt_of_cell? w _ hx130_1)).trans hx130_1
            replace p130 := eq_true p130
            replace q130 := eq_true q130
            go_wp2_with (first | ((with_reducible refine gate_callee (f := 30) rfl ?_); refine goesL_ (some 18) rfl rfl Try.func30 (by kernel_rfl) rfl #[.int .i64 ((rd_T32 l0 x1_1).f0)] rfl (by (try simp only [List.map_toArray, List.map_cons, List.map_nil]); first | done | rfl | (simp only [List.length_drop, List.length_take]; rfl)) ?_; (with_reducible refine (spec_wbMute.calls k1 ((rd_T32 l0 x1_1).f0) false _ A5.out).mono ?_); rintro e w16 ⟨rfl, hb⟩; refine ⟨_, rfl, ?_⟩; have n0_ := Aside0.mk (below_step (by repeat (first | (with_reducible first | exact HB.out | apply below_alloc | apply pw_below_drewN | apply below_drew1) | exact HB.out)) hb); clear HB; have HB := n0_; clear n0_; (try clear hb); (try clear hb2); (try clear hk); (try clear hi); have p135 : 0 ≤ (x1_1 : Int) := of_decide_eq_true (by first | (with_reducible assumption) | assumption); have q135 : x1_1 < (l0.length : Int) := of_decide_eq_true (by first | (with_reducible assumption) | assumption); obtain ⟨ad135, e135, hx135_0, hx135_1⟩ := at_T32 HR0.out x1_1 p135 q135; obtain rfl : ad130 = ad135 := (by injection e135); replace hx135_0 := (HB.out.cell (World.block_lt_of_cell? w _ hx135_0)).trans hx135_0; replace hx135_1 := (HB.out.cell (World.block_lt_of_cell? w _ hx135_1)).trans hx135_1; replace p135 := eq_true p135; replace q135 := eq_true q135))
            go_ret
            exact ⟨by first | rfl | (simp [errW_none, errW_some] <;> rfl) | (simp [*, errW_none, errW_some] <;> rfl), by repeat (first | (with_reducible first | exact HB.out | apply below_alloc | apply pw_below_drewN | apply below_drew1) | exact HB.out)⟩
        · rw [if_neg c4] at H
          exact absurd H (by simp)
      · rw [if_neg c3] at H
        have c3b0 : decide (x1_1 < (l0.length : Int)) = false := decide_eq_false c3
        clear c3
        obtain rfl := Option.some.inj H
        go_wp2
        go_ret
        exact ⟨by first | rfl | (simp [errW_none, errW_some] <;> rfl) | (simp [*, errW_none, errW_some] <;> rfl), by repeat (first | (with_reducible first | exact HB.out | apply below_alloc | apply pw_below_drewN | apply below_drew1) | exact HB.out)⟩

/-! ### spec_wbQuote: function 58 -/
def spec_wbQuote.f (k : Nat) (a0 : Int) : Option (Bool) := (spec_among.f k a0 (([13, 11] : List Int))).bind fun t139 => (some t139)
theorem spec_wbQuote.mono : ∀ a0 k, LeO (spec_wbQuote.f k a0) (spec_wbQuote.f (k + 1) a0) := by
  intro a0 k
  unfold spec_wbQuote.f
  repeat' first
      | (with_reducible exact spec_among.mono _ _ _)
      | (with_reducible exact LeO.refl _)
      | (with_reducible exact LeO.none _)
      | (with_reducible refine LeO.ite ?_ ?_)
      | (with_reducible refine LeO.bind ?_ (fun _ => ?_))
      | exact spec_among.mono _ _ _
      | exact LeO.none _
      | refine LeO.ite ?_ ?_
      | refine LeO.bind ?_ (fun _ => ?_)
set_option maxHeartbeats 8000000 in
set_option maxRecDepth 100000 in
theorem spec_wbQuote.calls (k : Nat) (a0 : Int) (r : Bool) (w : World) (h : spec_wbQuote.f k a0 = some r) :
    Calls Try.prog 58 #[.int .i64 a0] w fun e w' => e = .returned (.bool r) ∧ Below w.heap.size w w' := by
  have HB := Aside0.mk (Below.refl w.heap.size w)
  have H : ((spec_among.f k a0 (([13, 11] : List Int))).bind fun t139 => (some t139)) = some r := h
  clear h
  obtain ⟨y136, hy136⟩ : ∃ y_ : List Int, y_ = (([13, 11] : List Int)) := ⟨_, rfl⟩
  replace H : ((spec_among.f k a0 y136).bind fun t139 => (some t139)) = some r := by first | (rw [hy136]; with_reducible exact H) | (have H2_ := (Option.bind_some _ _).symm.trans H; rw [hy136]; with_reducible exact H2_) | (have H2_ := (Option.bind_some _ _).symm.trans H; with_reducible exact H2_) | with_reducible exact H | (rw [hy136]; exact H) | exact H
  have Ny136 := Aside0.mk hy136
  clear hy136
  replace H := Option.bind_eq_some_iff.mp H
  obtain ⟨t139, A20, H⟩ := H
  replace H : (some t139) = some r := H
  have A2 := Aside0.mk A20
  clear A20
  obtain rfl := Option.some.inj H
  go_enter Try.func58, Try.ntmps58
  go_wp2_with (first | ((with_reducible refine gate_dst (N := 4) rfl ?_); refine Kd.R_lit (Kd.int .i64) _ 3 ?hg (N := 4) ?hd (xs := ([13, 11] : List Int)) (inner := [.int .i64 13, .int .i64 11]) (ok := fun _ => True) (okp := fun _ => True) ?hr ?hp (fun _ hk => hk) trivial (Below.refl _ _) (Nat.le_refl _) (by simp) ?_; (case hd => rfl); (case hg => rfl); (case hr => first | (go_simp; done) | (go_simp; rfl)); (case hp => exact (Reps.one (show Kd.M (Kd.int .i64) _ _ _ 13 [.int .i64 13] from rfl) (Reps.one (show Kd.M (Kd.int .i64) _ _ _ 11 [.int .i64 11] from rfl) (Reps.none _ _)))); intro v137 w3 ho4 hb hg_ hnew_; clear hg_ hnew_; (first | rw [← Ny136.out] at ho4 | (simp only [Int.reduceToNat] at ho4; rw [← Ny136.out] at ho4)); have n0_ := Aside0.mk (Kd.R_lower ho4 (below_size (by repeat (first | (with_reducible first | exact HB.out | apply below_alloc | apply pw_below_drewN | apply below_drew1) | exact HB.out)))); have n1_ := Aside0.mk (below_step (by repeat (first | (with_reducible first | exact HB.out | apply below_alloc | apply pw_below_drewN | apply below_drew1) | exact HB.out)) hb); clear HB; have HO138 := n0_; have HB := n1_; clear n0_ n1_; clear hb ho4; obtain ⟨Ao5, co5, eo5⟩ := Kd.R_slice HO138.out; subst eo5) | ((with_reducible refine gate_callee (f := 42) rfl ?_); refine goesL_ (some 5) rfl rfl Try.func42 (by kernel_rfl) rfl #[.int .i64 a0, .slice Ao5 y136.length co5] rfl (by (try simp only [List.map_toArray, List.map_cons, List.map_nil]); first | done | rfl | (simp only [List.length_drop, List.length_take]; rfl)) ?_; (with_reducible refine (spec_among.calls k a0 _ _ y136 t139 _ ?side1 ?side2 A2.out).mono ?_); (case side1 => repeat (first | exact (Kd.R_reads' HO138.out).2.2 | (with_reducible refine Kd.C_alloc ?_ _) | (with_reducible refine Kd.C_drewN ?_ _) | (with_reducible refine Kd.C_drew ?_))); (case side2 => exact (Kd.R_reads' HO138.out).2.1); rintro e w' ⟨rfl, ⟨nd, rfl⟩⟩; refine ⟨_, rfl, ?_⟩))
  go_ret
  exact ⟨by first | rfl | (simp [errW_none, errW_some] <;> rfl) | (simp [*, errW_none, errW_some] <;> rfl), by repeat (first | (with_reducible first | exact HB.out | apply below_alloc | apply pw_below_drewN | apply below_drew1) | exact HB.out)⟩

end Go.Proofs.Ytnanfoahimccpaa.Wd
