-- PRINTED BY print.sh 35421559b90ae4d0a3588c463048766b98c2df88dd9212a6774a882060cdf62d: not written by this session
import Derived.Test.YtnanfoahimccpaaPFnGraphemeRowx0
import Derived.Test.YtnanfoahimccpaaPFnGraphemeRowx1
namespace Go.Proofs.Ytnanfoahimccpaa.PFnGraphemeRow
open Go.RowKit Go.Proofs.YtnanfoahimccpaaW.PrintWords Go.Proofs.YtnanfoahimccpaaW.PrintLast Go.Proofs.YtnanfoahimccpaaW.PrintMore
attribute [local go_sem] max2_int min2_int max_two min_two max_three min_three max_four min_four   -- for this text's walks alone
set_option linter.unusedVariables false
set_option linter.unusedSimpArgs false

/-! ### impl_GraphemeBreaks: function 9 -/
def impl_GraphemeBreaks.l0 : Nat → List Bool → Int → List Int → List Int → Int → Int → Option (List Bool)
  | 0, _, _, _, _, _, _ => none
  | k + 1, x2, x3, x4, x10, x11, x12 => if x12 < x11 then (if 0 ≤ x12 then (if x12 < (x10.length : Int) then ((impl_numberOf.f x4 (rd x10 x12)).bind fun t127 => ((uniseg_ZzGraphemeNext.f k x3 t127).bind fun bt128 => (if x12 > 0 then (if x2.length < 140737488355328 then (impl_GraphemeBreaks.l0 k (x2 ++ [bt128.2]) bt128.1 x4 x10 x11 (wrap64 (x12 + 1))) else (none)) else (impl_GraphemeBreaks.l0 k x2 bt128.1 x4 x10 x11 (wrap64 (x12 + 1)))))) else (none)) else (none)) else (some x2)
def impl_GraphemeBreaks.f (k : Nat) (l0 : List Int) : Option (List Bool) := (impl_graphemes.f).bind fun t123 => (impl_GraphemeBreaks.l0 k ([] : List Bool) (-1) t123 l0 (l0.length : Int) 0)
theorem impl_GraphemeBreaks.mono_l : ∀ k, (∀ y0 y1 y2 y3 y4 y5, LeO (impl_GraphemeBreaks.l0 k y0 y1 y2 y3 y4 y5) (impl_GraphemeBreaks.l0 (k + 1) y0 y1 y2 y3 y4 y5))
  | 0 => fun _ _ _ _ _ _ r h => by simp [impl_GraphemeBreaks.l0] at h
  | k + 1 => by
    have ih0 := impl_GraphemeBreaks.mono_l k
    · intro y0 y1 y2 y3 y4 y5
      unfold impl_GraphemeBreaks.l0
      repeat' first
      | (with_reducible exact ih0 _ _ _ _ _ _)
      | (with_reducible exact uniseg_ZzGraphemeNext.mono _ _ _)
      | (with_reducible exact LeO.refl _)
      | (with_reducible exact LeO.none _)
      | (with_reducible refine LeO.ite ?_ ?_)
      | (with_reducible refine LeO.bind ?_ (fun _ => ?_))
      | exact ih0 _ _ _ _ _ _
      | exact uniseg_ZzGraphemeNext.mono _ _ _
      | exact LeO.none _
      | refine LeO.ite ?_ ?_
      | refine LeO.bind ?_ (fun _ => ?_)
theorem impl_GraphemeBreaks.mono : ∀ a0 k, LeO (impl_GraphemeBreaks.f k a0) (impl_GraphemeBreaks.f (k + 1) a0) := by
  intro a0 k
  have ih0 := impl_GraphemeBreaks.mono_l k
  unfold impl_GraphemeBreaks.f
  repeat' first
      | (with_reducible exact ih0 _ _ _ _ _ _)
      | (with_reducible exact uniseg_ZzGraphemeNext.mono _ _ _)
      | (with_reducible exact LeO.refl _)
      | (with_reducible exact LeO.none _)
      | (with_reducible refine LeO.ite ?_ ?_)
      | (with_reducible refine LeO.bind ?_ (fun _ => ?_))
      | exact ih0 _ _ _ _ _ _
      | exact uniseg_ZzGraphemeNext.mono _ _ _
      | exact LeO.none _
      | refine LeO.ite ?_ ?_
      | refine LeO.bind ?_ (fun _ => ?_)
set_option maxHeartbeats 8000000 in
set_option maxRecDepth 100000 in
theorem impl_GraphemeBreaks.calls (k : Nat) (A0 : Option Addr) (c0 : Nat) (l0 : List Int) (r : List Bool) (w : World) (hr0 : Kd.C (Kd.int .i64) w A0 l0.length l0) (hc0 : l0.length ≤ c0) (h : impl_GraphemeBreaks.f k l0 = some r) :
    Calls Try.prog 9 #[.slice A0 l0.length c0] w fun e w' => ∃ v0_ : Value, e = .returned (v0_) ∧ Kd.R Kd.bool 4 w' w.heap.size (fun _ => True) v0_ r ∧ Below w.heap.size w w' := by
  have HR0 := Aside0.mk hr0
  have HC0 := Aside0.mk hc0
  clear hr0 hc0
  have HB := Aside0.mk (Below.refl w.heap.size w)
  have H : ((impl_graphemes.f).bind fun t123 => (impl_GraphemeBreaks.l0 k ([] : List Bool) (-1) t123 l0 (l0.length : Int) 0)) = some r := h
  clear h
  replace H := Option.bind_eq_some_iff.mp H
  obtain ⟨t123, A20, H⟩ := H
  replace H : (impl_GraphemeBreaks.l0 k ([] : List Bool) (-1) t123 l0 (l0.length : Int) 0) = some r := H
  have A2 := Aside0.mk A20
  clear A20
  have H' := Aside0.mk H
  clear H
  go_enter Try.func9, Try.ntmps9
  go_wp2_with (first | ((with_reducible refine gate_callee (f := 21) rfl ?_); refine goesL_ (some 9) rfl rfl Try.func21 (by kernel_rfl) rfl #[] rfl (by (try simp only [List.map_toArray, List.map_cons, List.map_nil]); first | done | rfl | (simp only [List.length_drop, List.length_take]; rfl)) ?_; (with_reducible refine (impl_graphemes.calls  t123 _ A2.out).mono ?_); rintro e w3 ⟨v124, rfl, ho0, hb⟩; refine ⟨_, rfl, ?_⟩; have n0_ := Aside0.mk (Kd.R_lower ho0 (below_size (by repeat (first | (with_reducible first | exact HB.out | apply below_alloc | apply pw_below_drewN | apply below_drew1) | exact HB.out)))); have n1_ := Aside0.mk (below_step (by repeat (first | (with_reducible first | exact HB.out | apply below_alloc | apply pw_below_drewN | apply below_drew1) | exact HB.out)) hb); clear HB; have HO125 := n0_; have HB := n1_; clear n0_ n1_; (try clear hb); (try clear hb2); (try clear hk); (try clear hi); (try clear ho0)))
  go_loopg [2, 3, 12] k (fun kq v2 v3 v12 w' => ∃ (x2_1 : List Bool) (x3_1 : Int) (x12_1 : Int), v3 = .int .i64 x3_1 ∧ v12 = .int .i64 x12_1 ∧ Aside0 (impl_GraphemeBreaks.l0 kq x2_1 x3_1 t123 l0 (l0.length : Int) x12_1 = some r) ∧ Aside0 (kq ≤ k) ∧ Aside0 (Kd.R Kd.bool 4 w' w.heap.size (fun _ => True) v2 x2_1) ∧ Aside0 (Kd.R (Kd.int .i64) 3 w' w.heap.size (fun _ => True) v124 t123) ∧ Aside0 (Below w.heap.size w w'))
  case atStart => exact ⟨(([] : List Bool)), ((-1)), (0), (by first | rfl | (simp; done) | (simp [*]; done)), (by first | rfl | (simp; done) | (simp [*]; done)), H', ⟨Nat.le_refl _⟩, ⟨by first | exact Kd.R_nil _ _ _ _ _ | exact Kd.N_nil _ _ _ _ _ | exact Kd.V_nil _ _ _ _ _ | exact Kd.Q_nil _ _ _ _ _ | exact Kd.S_nil _ _ _ _ _⟩, ⟨by (with_reducible repeat (first | apply Kd.R_alloc | apply Kd.R_drewN | apply Kd.R_drew)); exact HO125.out⟩, ⟨by repeat (first | (with_reducible first | exact HB.out | apply below_alloc | apply pw_below_drewN | apply below_drew1) | exact HB.out)⟩⟩
  case round =>
    clear H'
    try clear c2
    try clear p2
    obtain ⟨x2_1, x3_1, x12_1, rfl, rfl, HA, HK1, HO_2, HO_4, HB⟩ := hrel
    cases gk with
    | zero => exact absurd HA.out (by simp [impl_GraphemeBreaks.l0])
    | succ k1 =>
      have H := HA.out
      clear HA
      simp only [impl_GraphemeBreaks.l0] at H
      by_cases c4 : x12_1 < (l0.length : Int)
      · rw [if_pos c4] at H
        have c4b0 : decide (x12_1 < (l0.length : Int)) = true := decide_eq_true c4
        clear c4
        by_cases c5 : 0 ≤ x12_1
        · rw [if_pos c5] at H
          have c5b0 : decide (0 ≤ x12_1) = true := decide_eq_true c5
          clear c5
          by_cases c6 : x12_1 < (l0.length : Int)
          · rw [if_pos c6] at H
            have c6b0 : decide (x12_1 < (l0.length : Int)) = true := decide_eq_true c6
            clear c6
            replace H := Option.bind_eq_some_iff.mp H
            obtain ⟨t127, A70, H⟩ := H
            replace H : ((uniseg_ZzGraphemeNext.f k1 x3_1 t127).bind fun bt128 => (if x12_1 > 0 then (if x2_1.length < 140737488355328 then (impl_GraphemeBreaks.l0 k1 (x2_1 ++ [bt128.2]) bt128.1 t123 l0 (l0.length : Int) (wrap64 (x12_1 + 1))) else (none)) else (impl_GraphemeBreaks.l0 k1 x2_1 bt128.1 t123 l0 (l0.length : Int) (wrap64 (x12_1 + 1))))) = some r := H
            have A7 := Aside0.mk A70
            clear A70
            replace H := Option.bind_eq_some_iff.mp H
            obtain ⟨⟨t128, t129⟩, A80, H⟩ := H
            replace H : (if x12_1 > 0 then (if x2_1.length < 140737488355328 then (impl_GraphemeBreaks.l0 k1 (x2_1 ++ [t129]) t128 t123 l0 (l0.length : Int) (wrap64 (x12_1 + 1))) else (none)) else (impl_GraphemeBreaks.l0 k1 x2_1 t128 t123 l0 (l0.length : Int) (wrap64 (x12_1 + 1)))) = some r := H
            have A8 := Aside0.mk A80
            clear A80
            by_cases c9 : x12_1 > 0
            · rw [if_pos c9] at H
              have c9b0 : decide (0 < x12_1) = true := decide_eq_true c9
              clear c9
              by_cases c10 : x2_1.length < 140737488355328
              · rw [if_pos c10] at H
                have LMc10 := Aside0.mk c10
                clear c10
                obtain ⟨y130, hy130⟩ : ∃ y_ : List Bool, y_ = (x2_1 ++ [t129]) := ⟨_, rfl⟩
                replace H : (impl_GraphemeBreaks.l0 k1 y130 t128 t123 l0 (l0.length : Int) (wrap64 (x12_1 + 1))) = some r := by first | (rw [hy130]; with_reducible exact H) | (have H2_ := (Option.bind_some _ _).symm.trans H; rw [hy130]; with_reducible exact H2_) | (have H2_ := (Option.bind_some _ _).symm.trans H; with_reducible exact H2_) | with_reducible exact H | (rw [hy130]; exact H) | exact H
                have Ny130 := Aside0.mk hy130
                clear hy130
                have H' := Aside0.mk H
                clear H
                have p126 : 0 ≤ (x12_1 : Int) := of_decide_eq_true (by first | (with_reducible assumption) | assumption)
                have q126 : x12_1 < (l0.length : Int) := of_decide_eq_true (by first | (with_reducible assumption) | assumption)
                obtain ⟨ad126, e126, hx126_0⟩ := Kd.at_int HR0.out x12_1 p126 q126
                cases e126
                replace hx126_0 := (HB.out.cell (World.block_lt_of_cell? w _ hx126_0)).trans hx126_0
                replace p126 := eq_true p126
                replace q126 := eq_true q126
                obtain ⟨Ao11, co11, eo11⟩ := Kd.R_slice HO_4.out
                subst eo11
                go_wp2_with (first | ((with_reducible refine gate_callee (f := 23) rfl ?_); refine goesL_ (some 21) rfl rfl Try.func23 (by kernel_rfl) rfl #[.slice Ao11 t123.length co11, .int .i64 (rd l0 x12_1)] rfl (by (try simp only [List.map_toArray, List.map_cons, List.map_nil]); first | done | rfl | (simp only [List.length_drop, List.length_take]; rfl)) ?_; (with_reducible refine (impl_numberOf.calls _ _ t123 (rd l0 x12_1) t127 _ ?side1 ?side2 A7.out).mono ?_); (case side1 => repeat (first | exact (Kd.R_reads' HO_4.out).2.2 | (with_reducible refine Kd.C_alloc ?_ _) | (with_reducible refine Kd.C_drewN ?_ _) | (with_reducible refine Kd.C_drew ?_))); (case side2 => exact (Kd.R_reads' HO_4.out).2.1); rintro e w' ⟨rfl, ⟨nd, rfl⟩⟩; refine ⟨_, rfl, ?_⟩) | ((with_reducible refine gate_callee (f := 22) rfl ?_); refine goesL_ (some 22) rfl rfl Try.func22 (by kernel_rfl) rfl #[.int .i64 x3_1, .int .i64 t127] rfl (by (try simp only [List.map_toArray, List.map_cons, List.map_nil]); first | done | rfl | (simp only [List.length_drop, List.length_take]; rfl)) ?_; (with_reducible refine (uniseg_ZzGraphemeNext.calls k1 x3_1 t127 t128 t129 _ A8.out).mono ?_); rintro e w' ⟨rfl, ⟨nd, rfl⟩⟩; refine ⟨_, rfl, ?_⟩) | ((with_reducible refine gate_builtin (b := .append) (xs := #[.tmp 28, .tmp 30]) rfl ?_); at_builtin; refine Kd.R_append Kd.bool (w0 := w) w.heap.size rfl (.tmp 28) (.tmp 30) 26 4 (.bool false) 1 rfl Try.underlying26 info4 rfl (by decide) (by omega) u2 x2_1 t129 [.bool t129] (fun _ => True) (fun _ => False) rfl rfl ?aP (fun _ hk => hk.elim) ?aF ?aO ?aB ?aS ?aL ?_; (case aP => exact rfl); (case aB => exact (by repeat (first | (with_reducible first | exact HB.out | apply below_alloc | apply pw_below_drewN | apply below_drew1) | exact HB.out))); (case aF => exact (fun _ _ => trivial)); (case aO => exact (by (with_reducible repeat (first | apply Kd.R_alloc | apply Kd.R_drewN | apply Kd.R_drew)); exact HO_2.out)); (case aS => exact (below_size (by repeat (first | (with_reducible first | exact HB.out | apply below_alloc | apply pw_below_drewN | apply below_drew1) | exact HB.out)))); (case aL => have := LMc10.out; omega); intro v131 w12 ho hb hg hat; rw [← Ny130.out] at ho; have n0_ := Aside0.mk (Kd.R_over' (by (with_reducible repeat (first | apply Kd.R_alloc | apply Kd.R_drewN | apply Kd.R_drew)); exact HO_4.out) (Kd.R_typed (by (with_reducible repeat (first | apply Kd.R_alloc | apply Kd.R_drewN | apply Kd.R_drew)); exact HO_2.out)) (by decide) hg); have n1_ := Aside0.mk (hb); have n2_ := Aside0.mk (ho); clear HO_4; clear HB; clear HO_2; have HO_4 := n0_; have HB := n1_; have HO132 := n2_; clear n0_ n1_ n2_; clear ho hb hg hat))
                go_roundg k1
                case measure => have := HK1.out; omega
                case rel => exact ⟨(y130), (t128), (wrap64 (x12_1 + 1)), (by first | rfl | (simp; done) | (simp [*]; done)), (by first | rfl | (simp; done) | (simp [*]; done)), H', ⟨by have := HK1.out; omega⟩, ⟨by (with_reducible repeat (first | apply Kd.R_alloc | apply Kd.R_drewN | apply Kd.R_drew)); exact HO132.out⟩, ⟨by (with_reducible repeat (first | apply Kd.R_alloc | apply Kd.R_drewN | apply Kd.R_drew)); exact HO_4.out⟩, ⟨by repeat (first | (with_reducible first | exact HB.out | apply below_alloc | apply pw_below_drewN | apply below_drew1) | exact HB.out)⟩⟩
              · rw [if_neg c10] at H
                exact absurd H (by simp)
            · rw [if_neg c9] at H
              have c9b0 : decide (0 < x12_1) = false := decide_eq_false c9
              clear c9
              have H' := Aside0.mk H
              clear H
              have p126 : 0 ≤ (x12_1 : Int) := of_decide_eq_true (by first | (with_reducible assumption) | assumption)
              have q126 : x12_1 < (l0.length : Int) := of_decide_eq_true (by first | (with_reducible assumption) | assumption)
              obtain ⟨ad126, e126, hx126_0⟩ := Kd.at_int HR0.out x12_1 p126 q126
              cases e126
              replace hx126_0 := (HB.out.cell (World.block_lt_of_cell? w _ hx126_0)).trans hx126_0
              replace p126 := eq_true p126
              replace q126 := eq_true q126
              obtain ⟨Ao13, co13, eo13⟩ := Kd.R_slice HO_4.out
              subst eo13
              go_wp2_with (first | ((with_reducible refine gate_callee (f := 23) rfl ?_); refine goesL_ (some 21) rfl rfl Try.func23 (by kernel_rfl) rfl #[.slice Ao13 t123.length co13, .int .i64 (rd l0 x12_1)] rfl (by (try simp only [List.map_toArray, List.map_cons, List.map_nil]); first | done | rfl | (simp only [List.length_drop, List.length_take]; rfl)) ?_; (with_reducible refine (impl_numberOf.calls _ _ t123 (rd l0 x12_1) t127 _ ?side1 ?side2 A7.out).mono ?_); (case side1 => repeat (first | exact (Kd.R_reads' HO_4.out).2.2 | (with_reducible refine Kd.C_alloc ?_ _) | (with_reducible refine Kd.C_drewN ?_ _) | (with_reducible refine Kd.C_drew ?_))); (case side2 => exact (Kd.R_reads' HO_4.out).2.1); rintro e w' ⟨rfl, ⟨nd, rfl⟩⟩; refine ⟨_, rfl, ?_⟩) | ((with_reducible refine gate_callee (f := 22) rfl ?_); refine goesL_ (some 22) rfl rfl Try.func22 (by kernel_rfl) rfl #[.int .i64 x3_1, .int .i64 t127] rfl (by (try simp only [List.map_toArray, List.map_cons, List.map_nil]); first | done | rfl | (simp only [List.length_drop, List.length_take]; rfl)) ?_; (with_reducible refine (uniseg_ZzGraphemeNext.calls k1 x3_1 t127 t128 t129 _ A8.out).mono ?_); rintro e w' ⟨rfl, ⟨nd, rfl⟩⟩; refine ⟨_, rfl, ?_⟩))
              go_roundg k1
              case measure => have := HK1.out; omega
              case rel => exact ⟨(x2_1), (t128), (wrap64 (x12_1 + 1)), (by first | rfl | (simp; done) | (simp [*]; done)), (by first | rfl | (simp; done) | (simp [*]; done)), H', ⟨by have := HK1.out; omega⟩, ⟨by (with_reducible repeat (first | apply Kd.R_alloc | apply Kd.R_drewN | apply Kd.R_drew)); exact HO_2.out⟩, ⟨by (with_reducible repeat (first | apply Kd.R_alloc | apply Kd.R_drewN | apply Kd.R_drew)); exact HO_4.out⟩, ⟨by repeat (first | (with_reducible first | exact HB.out | apply below_alloc | apply pw_below_drewN | apply below_drew1) | exact HB.out)⟩⟩
          · rw [if_neg c6] at H
            exact absurd H (by simp)
        · rw [if_neg c5] at H
          exact absurd H (by simp)
      · rw [if_neg c4] at H
        have c4b0 : decide (x12_1 < (l0.length : Int)) = false := decide_eq_false c4
        clear c4
        obtain rfl := Option.some.inj H
        go_wp2
        go_ret
        exact ⟨_, by first | rfl | (simp [errW_none, errW_some] <;> rfl) | (simp [*, errW_none, errW_some] <;> rfl), by (with_reducible repeat (first | apply Kd.R_alloc | apply Kd.R_drewN | apply Kd.R_drew)); exact HO_2.out, by repeat (first | (with_reducible first | exact HB.out | apply below_alloc | apply pw_below_drewN | apply below_drew1) | exact HB.out)⟩

/-! ### spec_among: function 42 -/
def spec_among.l0 : Nat → Int → List Int → Int → Int → Option (Bool)
  | 0, _, _, _, _ => none
  | k + 1, x0, x7, x8, x9 => if x9 < x8 then (if 0 ≤ x9 then (if x9 < (x7.length : Int) then (if x0 = (rd x7 x9) then (some true) else (spec_among.l0 k x0 x7 x8 (wrap64 (x9 + 1)))) else (none)) else (none)) else (some false)
def spec_among.f (k : Nat) (a0 : Int) (l1 : List Int) : Option (Bool) := spec_among.l0 k a0 l1 (l1.length : Int) 0
theorem spec_among.mono_l : ∀ k, (∀ y0 y1 y2 y3, LeO (spec_among.l0 k y0 y1 y2 y3) (spec_among.l0 (k + 1) y0 y1 y2 y3))
  | 0 => fun _ _ _ _ r h => by simp [spec_among.l0] at h
  | k + 1 => by
    have ih0 := spec_among.mono_l k
    · intro y0 y1 y2 y3
      unfold spec_among.l0
      repeat' first
      | (with_reducible exact ih0 _ _ _ _)
      | (with_reducible exact LeO.refl _)
      | (with_reducible exact LeO.none _)
      | (with_reducible refine LeO.ite ?_ ?_)
      | (with_reducible refine LeO.bind ?_ (fun _ => ?_))
      | exact ih0 _ _ _ _
      | exact LeO.none _
      | refine LeO.ite ?_ ?_
      | refine LeO.bind ?_ (fun _ => ?_)
theorem spec_among.mono : ∀ a0 a1 k, LeO (spec_among.f k a0 a1) (spec_among.f (k + 1) a0 a1) := by
  intro a0 a1 k
  have ih0 := spec_among.mono_l k
  unfold spec_among.f
  repeat' first
      | (with_reducible exact ih0 _ _ _ _)
      | (with_reducible exact LeO.refl _)
      | (with_reducible exact LeO.none _)
      | (with_reducible refine LeO.ite ?_ ?_)
      | (with_reducible refine LeO.bind ?_ (fun _ => ?_))
      | exact ih0 _ _ _ _
      | exact LeO.none _
      | refine LeO.ite ?_ ?_
      | refine LeO.bind ?_ (fun _ => ?_)
set_option maxHeartbeats 8000000 in
set_option maxRecDepth 100000 in
theorem spec_among.calls (k : Nat) (a0 : Int) (A1 : Option Addr) (c1 : Nat) (l1 : List Int) (r : Bool) (w : World) (hr1 : Kd.C (Kd.int .i64) w A1 l1.length l1) (hc1 : l1.length ≤ c1) (h : spec_among.f k a0 l1 = some r) :
    Calls Try.prog 42 #[.int .i64 a0, .slice A1 l1.length c1] w fun e w' => e = .returned (.bool r) ∧ Drawn0 w w' := by
  have HR1 := Aside0.mk hr1
  have HC1 := Aside0.mk hc1
  clear hr1 hc1
  have H : (spec_among.l0 k a0 l1 (l1.length : Int) 0) = some r := h
  clear h
  have H' := Aside0.mk H
  clear H
  go_enter Try.func42, Try.ntmps42
  go_wp2
  go_loopg [9] k (fun kq v9 w' => ∃ (x9_1 : Int), v9 = .int .i64 x9_1 ∧ Aside0 (spec_among.l0 kq a0 l1 (l1.length : Int) x9_1 = some r) ∧ Aside0 (kq ≤ k) ∧ Drawn0 w w')
  case atStart => exact ⟨(0), (by first | rfl | (simp; done) | (simp [*]; done)), H', ⟨Nat.le_refl _⟩, by repeat (first | exact Drawn0.refl _ | apply Drawn0.step)⟩
  case round =>
    clear H'
    try clear c1
    try clear p2
    obtain ⟨x9_1, rfl, HA, HK1, ⟨m1, rfl⟩⟩ := hrel
    cases gk with
    | zero => exact absurd HA.out (by simp [spec_among.l0])
    | succ k1 =>
      have H := HA.out
      clear HA
      simp only [spec_among.l0] at H
      by_cases c3 : x9_1 < (l1.length : Int)
      · rw [if_pos c3] at H
        have c3b0 : decide (x9_1 < (l1.length : Int)) = true := decide_eq_true c3
        clear c3
        by_cases c4 : 0 ≤ x9_1
        · rw [if_pos c4] at H
          have c4b0 : decide (0 ≤ x9_1) = true := decide_eq_true c4
          clear c4
          by_cases c5 : x9_1 < (l1.length : Int)
          · rw [if_pos c5] at H
            have c5b0 : decide (x9_1 < (l1.length : Int)) = true := decide_eq_true c5
            clear c5
            by_cases c6 : a0 = (rd l1 x9_1)
            · rw [if_pos c6] at H
              have c6b0 : (a0 == (rd l1 x9_1)) = true := beq_iff_eq.mpr c6
              have c6b1 : (a0 != (rd l1 x9_1)) = false := bne_eq_false_iff_eq.mpr c6
              clear c6
              obtain rfl := Option.some.inj H
              have p133 : 0 ≤ (x9_1 : Int) := of_decide_eq_true (by first | (with_reducible assumption) | assumption)
              have q133 : x9_1 < (l1.length : Int) := of_decide_eq_true (by first | (with_reducible assumption) | assumption)
              obtain ⟨ad133, e133, hx133_0⟩ := Kd.at_int HR1.out x9_1 p133 q133
              cases e133
              replace p133 := eq_true p133
              replace q133 := eq_true q133
              go_wp2
              go_ret
              exact ⟨by first | rfl | (simp; done) | (simp [*]; done), by repeat (first | exact Drawn0.refl _ | apply Drawn0.step)⟩
            · rw [if_neg c6] at H
              have c6b0 : (a0 == (rd l1 x9_1)) = false := beq_eq_false_iff_ne.mpr c6
              have c6b1 : (a0 != (rd l1 x9_1)) = true := bne_iff_ne.mpr c6
              have H' := Aside0.mk H
              clear H
              have p133 : 0 ≤ (x9_1 : Int) := of_decide_eq_true (by first | (with_reducible assumption) | assumption)
              have q133 : x9_1 < (l1.length : Int) := of_decide_eq_true (by first | (with_reducible assumption) | assumption)
              obtain ⟨ad133, e133, hx133_0⟩ := Kd.at_int HR1.out x9_1 p133 q133
              cases e133
              replace p133 := eq_true p133
              replace q133 := eq_true q133
              go_wp2
              go_roundg k1
              case measure => have := HK1.out; omega
              case rel => exact ⟨(wrap64 (x9_1 + 1)), (by first | rfl | (simp; done) | (simp [*]; done)), H', ⟨by have := HK1.out; omega⟩, by repeat (first | exact Drawn0.refl _ | apply Drawn0.step)⟩
          · rw [if_neg c5] at H
            exact absurd H (by simp)
        · rw [if_neg c4] at H
          exact absurd H (by simp)
      · rw [if_neg c3] at H
        have c3b0 : decide (x9_1 < (l1.length : Int)) = false := decide_eq_false c3
        clear c3
        obtain rfl := Option.some.inj H
        go_wp2
        go_ret
        exact ⟨by first | rfl | (simp; done) | (simp [*]; done), by repeat (first | exact Drawn0.refl _ | apply Drawn0.step)⟩

/-! ### spec_gbJoins: function 24 -/
mutual
def spec_gbJoins.j0 : Nat → Int → Int → Bool → Option (Bool)
  | 0, _, _, _ => none
  | k + 1, x0, x1, x5 => if x5 = true then (some true) else ((spec_among.f k x0 (([4, 2, 3] : List Int))).bind fun t137 => (if t137 = true then (some false) else ((spec_among.f k x1 (([4, 2, 3] : List Int))).bind fun t141 => (if t141 = true then (some false) else (if x0 = 8 then ((spec_among.f k x1 (([8, 9, 11, 12] : List Int))).bind fun t145 => (spec_gbJoins.j1 k x0 x1 t145)) else (spec_gbJoins.j1 k x0 x1 false))))))
def spec_gbJoins.j1 : Nat → Int → Int → Bool → Option (Bool)
  | 0, _, _, _ => none
  | k + 1, x0, x1, x20 => if x20 = true then (some true) else ((spec_among.f k x0 (([11, 9] : List Int))).bind fun t149 => (if t149 = true then ((spec_among.f k x1 (([9, 10] : List Int))).bind fun t153 => (spec_gbJoins.j2 k x0 x1 t153)) else (spec_gbJoins.j2 k x0 x1 false)))
def spec_gbJoins.j2 : Nat → Int → Int → Bool → Option (Bool)
  | 0, _, _, _ => none
  | k + 1, x0, x1, x28 => if x28 = true then (some true) else ((spec_among.f k x0 (([12, 10] : List Int))).bind fun t157 => (if t157 = true then (if x1 = 10 then (some true) else ((spec_among.f k x1 (([5, 13, 7] : List Int))).bind fun t161 => (if t161 = true then (some true) else (some (x0 == 1))))) else ((spec_among.f k x1 (([5, 13, 7] : List Int))).bind fun t165 => (if t165 = true then (some true) else (some (x0 == 1))))))
end
def spec_gbJoins.f (k : Nat) (a0 : Int) (a1 : Int) : Option (Bool) := if a0 = 2 then (spec_gbJoins.j0 k a0 a1 (a1 == 3)) else (spec_gbJoins.j0 k a0 a1 false)
theorem spec_gbJoins.mono_l : ∀ k, (∀ y0 y1 y2, LeO (spec_gbJoins.j0 k y0 y1 y2) (spec_gbJoins.j0 (k + 1) y0 y1 y2)) ∧ (∀ y0 y1 y2, LeO (spec_gbJoins.j1 k y0 y1 y2) (spec_gbJoins.j1 (k + 1) y0 y1 y2)) ∧ (∀ y0 y1 y2, LeO (spec_gbJoins.j2 k y0 y1 y2) (spec_gbJoins.j2 (k + 1) y0 y1 y2))
  | 0 => ⟨fun _ _ _ r h => by simp [spec_gbJoins.j0] at h, fun _ _ _ r h => by simp [spec_gbJoins.j1] at h, fun _ _ _ r h => by simp [spec_gbJoins.j2] at h⟩
  | k + 1 => by
    obtain ⟨ih0, ih1, ih2⟩ := spec_gbJoins.mono_l k
    refine ⟨?_, ?_, ?_⟩
    · intro y0 y1 y2
      unfold spec_gbJoins.j0
      repeat' first
      | (with_reducible exact ih0 _ _ _)
      | (with_reducible exact ih1 _ _ _)
      | (with_reducible exact ih2 _ _ _)
      | (with_reducible exact spec_among.mono _ _ _)
      | (with_reducible exact LeO.refl _)
      | (with_reducible exact LeO.none _)
      | (with_reducible refine LeO.ite ?_ ?_)
      | (with_reducible refine LeO.bind ?_ (fun _ => ?_))
      | exact ih0 _ _ _
      | exact ih1 _ _ _
      | exact ih2 _ _ _
      | exact spec_among.mono _ _ _
      | exact LeO.none _
      | refine LeO.ite ?_ ?_
      | refine LeO.bind ?_ (fun _ => ?_)
    · intro y0 y1 y2
      unfold spec_gbJoins.j1
      repeat' first
      | (with_reducible exact ih0 _ _ _)
      | (with_reducible exact ih1 _ _ _)
      | (with_reducible exact ih2 _ _ _)
      | (with_reducible exact spec_among.mono _ _ _)
      | (with_reducible exact LeO.refl _)
      | (with_reducible exact LeO.none _)
      | (with_reducible refine LeO.ite ?_ ?_)
      | (with_reducible refine LeO.bind ?_ (fun _ => ?_))
      | exact ih0 _ _ _
      | exact ih1 _ _ _
      | exact ih2 _ _ _
      | exact spec_among.mono _ _ _
      | exact LeO.none _
      | refine LeO.ite ?_ ?_
      | refine LeO.bind ?_ (fun _ => ?_)
    · intro y0 y1 y2
      unfold spec_gbJoins.j2
      repeat' first
      | (with_reducible exact ih0 _ _ _)
      | (with_reducible exact ih1 _ _ _)
      | (with_reducible exact ih2 _ _ _)
      | (with_reducible exact spec_among.mono _ _ _)
      | (with_reducible exact LeO.refl _)
      | (with_reducible exact LeO.none _)
      | (with_reducible refine LeO.ite ?_ ?_)
      | (with_reducible refine LeO.bind ?_ (fun _ => ?_))
      | exact ih0 _ _ _
      | exact ih1 _ _ _
      | exact ih2 _ _ _
      | exact spec_among.mono _ _ _
      | exact LeO.none _
      | refine LeO.ite ?_ ?_
      | refine LeO.bind ?_ (fun _ => ?_)
theorem spec_gbJoins.mono : ∀ a0 a1 k, LeO (spec_gbJoins.f k a0 a1) (spec_gbJoins.f (k + 1) a0 a1) := by
  intro a0 a1 k
  obtain ⟨ih0, ih1, ih2⟩ := spec_gbJoins.mono_l k
  unfold spec_gbJoins.f
  repeat' first
      | (with_reducible exact ih0 _ _ _)
      | (with_reducible exact ih1 _ _ _)
      | (with_reducible exact ih2 _ _ _)
      | (with_reducible exact spec_among.mono _ _ _)
      | (with_reducible exact LeO.refl _)
      | (with_reducible exact LeO.none _)
      | (with_reducible refine LeO.ite ?_ ?_)
      | (with_reducible refine LeO.bind ?_ (fun _ => ?_))
      | exact ih0 _ _ _
      | exact ih1 _ _ _
      | exact ih2 _ _ _
      | exact spec_among.mono _ _ _
      | exact LeO.none _
      | refine LeO.ite ?_ ?_
      | refine LeO.bind ?_ (fun _ => ?_)
set_option maxHeartbeats 8000000 in
set_option maxRecDepth 100000 in
theorem spec_gbJoins.calls (k : Nat) (a0 : Int) (a1 : Int) (r : Bool) (w : World) (h : spec_gbJoins.f k a0 a1 = some r) :
    Calls Try.prog 24 #[.int .i64 a0, .int .i64 a1] w fun e w' => e = .returned (.bool r) ∧ Below w.heap.size w w' := by
  have HB := Aside0.mk (Below.refl w.heap.size w)
  have H : (if a0 = 2 then (spec_gbJoins.j0 k a0 a1 (a1 == 3)) else (spec_gbJoins.j0 k a0 a1 false)) = some r := h
  clear h
  have HC3 := Aside0.mk H
  clear H
  go_enter Try.func24, Try.ntmps24
  go_upto_region 1 with (fail)
  go_cut [5] (fun v5 wc => ∃ (kq : Nat) (x5_2 : Bool), v5 = .bool x5_2 ∧ Aside0 (spec_gbJoins.j0 kq a0 a1 x5_2 = some r) ∧ Aside0 (kq ≤ k) ∧ Aside0 (Below w.heap.size w wc))
  case first =>
    have H := HC3.out
    clear HC3
    by_cases c4 : a0 = 2
    · rw [if_pos c4] at H
      have c4b0 : (a0 == 2) = true := beq_iff_eq.mpr c4
      have c4b1 : (a0 != 2) = false := bne_eq_false_iff_eq.mpr c4
      clear c4
      (first | rw [c4b0] | (simp only [i64_w, i32_w]; rw [c4b0]) | skip)
      have H' := Aside0.mk H
      clear H
      go_wp2
      go_meet
      case rel => exact ⟨_, ((a1 == 3)), (by first | rfl | (simp; done) | (simp [*]; done)), H', ⟨by first | omega | exact Nat.le_refl _⟩, ⟨by repeat (first | (with_reducible first | exact HB.out | apply below_alloc | apply pw_below_drewN | apply below_drew1) | exact HB.out)⟩⟩
    · rw [if_neg c4] at H
      have c4b0 : (a0 == 2) = false := beq_eq_false_iff_ne.mpr c4
      have c4b1 : (a0 != 2) = true := bne_iff_ne.mpr c4
      (first | rw [c4b0] | (simp only [i64_w, i32_w]; rw [c4b0]) | skip)
      have H' := Aside0.mk H
      clear H
      go_wp2
      go_meet
      case rel => exact ⟨_, (false), (by first | rfl | (simp; done) | (simp [*]; done)), H', ⟨by first | omega | exact Nat.le_refl _⟩, ⟨by repeat (first | (with_reducible first | exact HB.out | apply below_alloc | apply pw_below_drewN | apply below_drew1) | exact HB.out)⟩⟩
  case rest =>
    clear HC3
    try clear c2
    try clear p2
    try clear c4
    try clear c4b0
    try clear c4b1
    obtain ⟨kq, x5_2, rfl, HA, HJ2, HB⟩ := hcut
    cases kq with
    | zero => exact absurd HA.out (by simp [spec_gbJoins.j0])
    | succ kj2 =>
      have H := HA.out
      clear HA
      simp only [spec_gbJoins.j0] at H
      by_cases c5 : x5_2 = true
      · subst c5
        have H1 : (some true) = some r := by rw [if_pos rfl] at H; exact H
        clear H
        have H := H1
        clear H1
        obtain rfl := Option.some.inj H
        go_wp2
        go_ret
        exact ⟨by first | rfl | (simp [errW_none, errW_some] <;> rfl) | (simp [*, errW_none, errW_some] <;> rfl), by repeat (first | (with_reducible first | exact HB.out | apply below_alloc | apply pw_below_drewN | apply below_drew1) | exact HB.out)⟩
      · replace c5 := Bool.eq_false_iff.mpr c5
        subst c5
        have H1 : ((spec_among.f kj2 a0 (([4, 2, 3] : List Int))).bind fun t137 => (if t137 = true then (some false) else ((spec_among.f kj2 a1 (([4, 2, 3] : List Int))).bind fun t141 => (if t141 = true then (some false) else (if a0 = 8 then ((spec_among.f kj2 a1 (([8, 9, 11, 12] : List Int))).bind fun t145 => (spec_gbJoins.j1 kj2 a0 a1 t145)) else (spec_gbJoins.j1 kj2 a0 a1 false)))))) = some r := by rw [if_neg (show ¬ (false = true) by decide)] at H; exact H
        clear H
        have H := H1
        clear H1
        obtain ⟨y134, hy134⟩ : ∃ y_ : List Int, y_ = (([4, 2, 3] : List Int)) := ⟨_, rfl⟩
        replace H : ((spec_among.f kj2 a0 y134).bind fun t137 => (if t137 = true then (some false) else ((spec_among.f kj2 a1 (([4, 2, 3] : List Int))).bind fun t141 => (if t141 = true then (some false) else (if a0 = 8 then ((spec_among.f kj2 a1 (([8, 9, 11, 12] : List Int))).bind fun t145 => (spec_gbJoins.j1 kj2 a0 a1 t145)) else (spec_gbJoins.j1 kj2 a0 a1 false)))))) = some r := by first | (rw [hy134]; with_reducible exact H) | (have H2_ := (Option.bind_some _ _).symm.trans H; rw [hy134]; with_reducible exact H2_) | (have H2_ := (Option.bind_some _ _).symm.trans H; with_reducible exact H2_) | with_reducible exact H | (rw [hy134]; exact H) | exact H
        have Ny134 := Aside0.mk hy134
        clear hy134
        replace H := Option.bind_eq_some_iff.mp H
        obtain ⟨t137, A60, H⟩ := H
        replace H : (if t137 = true then (some false) else ((spec_among.f kj2 a1 (([4, 2, 3] : List Int))).bind fun t141 => (if t141 = true then (some false) else (if a0 = 8 then ((spec_among.f kj2 a1 (([8, 9, 11, 12] : List Int))).bind fun t145 => (spec_gbJoins.j1 kj2 a0 a1 t145)) else (spec_gbJoins.j1 kj2 a0 a1 false))))) = some r := H
        have A6 := Aside0.mk A60
        clear A60
        by_cases c7 : t137 = true
        · subst c7
          have H1 : (some false) = some r := by rw [if_pos rfl] at H; exact H
          clear H
          have H := H1
          clear H1
          obtain rfl := Option.some.inj H
          go_wp2_with (first | ((with_reducible refine gate_dst (N := 14) rfl ?_); (try (refine gate_guard (by rfl) ?_; dsimp only)); refine Kd.R_lit (Kd.int .i64) _ 3 ?hg (N := 14) ?hd (xs := ([4, 2, 3] : List Int)) (inner := [.int .i64 4, .int .i64 2, .int .i64 3]) (ok := fun _ => True) (okp := fun _ => True) ?hr ?hp (fun _ hk => hk) trivial (Below.refl _ _) (Nat.le_refl _) (by simp) ?_; (case hd => rfl); (case hg => rfl); (case hr => first | (go_simp; done) | (go_simp; rfl)); (case hp => exact (Reps.one (show Kd.M (Kd.int .i64) _ _ _ 4 [.int .i64 4] from rfl) (Reps.one (show Kd.M (Kd.int .i64) _ _ _ 2 [.int .i64 2] from rfl) (Reps.one (show Kd.M (Kd.int .i64) _ _ _ 3 [.int .i64 3] from rfl) (Reps.none _ _))))); intro v135 w8 ho9 hb hg_ hnew_; clear hg_ hnew_; (first | rw [← Ny134.out] at ho9 | (simp only [Int.reduceToNat] at ho9; rw [← Ny134.out] at ho9)); have n0_ := Aside0.mk (Kd.R_lower ho9 (below_size (by repeat (first | (with_reducible first | exact HB.out | apply below_alloc | apply pw_below_drewN | apply below_drew1) | exact HB.out)))); have n1_ := Aside0.mk (below_step (by repeat (first | (with_reducible first | exact HB.out | apply below_alloc | apply pw_below_drewN | apply below_drew1) | exact HB.out)) hb); clear HB; have HO136 := n0_; have HB := n1_; clear n0_ n1_; clear hb ho9; obtain ⟨Ao10, co10, eo10⟩ := Kd.R_slice HO136.out; subst eo10) | ((with_reducible refine gate_callee (f := 42) rfl ?_); refine goesL_ (some 15) rfl rfl Try.func42 (by kernel_rfl) rfl #[.int .i64 a0, .slice Ao10 y134.length co10] rfl (by (try simp only [List.map_toArray, List.map_cons, List.map_nil]); first | done | rfl | (simp only [List.length_drop, List.length_take]; rfl)) ?_; (with_reducible refine (spec_among.calls kj2 a0 _ _ y134 true _ ?side1 ?side2 A6.out).mono ?_); (case side1 => repeat (first | exact (Kd.R_reads' HO136.out).2.2 | (with_reducible refine Kd.C_alloc ?_ _) | (with_reducible refine Kd.C_drewN ?_ _) | (with_reducible refine Kd.C_drew ?_))); (case side2 => exact (Kd.R_reads' HO136.out).2.1); rintro e w' ⟨rfl, ⟨nd, rfl⟩⟩; refine ⟨_, rfl, ?_⟩))
          go_ret
          exact ⟨by first | rfl | (simp [errW_none, errW_some] <;> rfl) | (simp [*, errW_none, errW_some] <;> rfl), by repeat (first | (with_reducible first | exact HB.out | apply below_alloc | apply pw_below_drewN | apply below_drew1) | exact HB.out)⟩
        · replace c7 := Bool.eq_false_iff.mpr c7
          subst c7
          have H1 : ((spec_among.f kj2 a1 (([4, 2, 3] : List Int))).bind fun t141 => (if t141 = true then (some false) else (if a0 = 8 then ((spec_among.f kj2 a1 (([8, 9, 11, 12] : List Int))).bind fun t145 => (spec_gbJoins.j1 kj2 a0 a1 t145)) else (spec_gbJoins.j1 kj2 a0 a1 false)))) = some r := by rw [if_neg (show ¬ (false = true) by decide)] at H; exact H
          clear H
          have H := H1
          clear H1
          obtain ⟨y138, hy138⟩ : ∃ y_ : List Int, y_ = (([4, 2, 3] : List Int)) := ⟨_, rfl⟩
          replace H : ((spec_among.f kj2 a1 y138).bind fun t141 => (if t141 = true then (some false) else (if a0 = 8 then ((spec_among.f kj2 a1 (([8, 9, 11, 12] : List Int))).bind fun t145 => (spec_gbJoins.j1 kj2 a0 a1 t145)) else (spec_gbJoins.j1 kj2 a0 a1 false)))) = some r := by first | (rw [hy138]; with_reducible exact H) | (have H2_ := (Option.bind_some _ _).symm.trans H; rw [hy138]; with_reducible exact H2_) | (have H2_ := (Option.bind_some _ _).symm.trans H; with_reducible exact H2_) | with_reducible exact H | (rw [hy138]; exact H) | exact H
          have Ny138 := Aside0.mk hy138
          clear hy138
          replace H := Option.bind_eq_some_iff.mp H
          obtain ⟨t141, A110, H⟩ := H
          replace H : (if t141 = true then (some false) else (if a0 = 8 then ((spec_among.f kj2 a1 (([8, 9, 11, 12] : List Int))).bind fun t145 => (spec_gbJoins.j1 kj2 a0 a1 t145)) else (spec_gbJoins.j1 kj2 a0 a1 false))) = some r := H
          have A11 := Aside0.mk A110
          clear A110
          by_cases c12 : t141 = true
          · subst c12
            have H1 : (some false) = some r := by rw [if_pos rfl] at H; exact H
            clear H
            have H := H1
            clear H1
            obtain rfl := Option.some.inj H
            go_wp2_with (first | ((with_reducible refine gate_dst (N := 14) rfl ?_); (try (refine gate_guard (by rfl) ?_; dsimp only)); refine Kd.R_lit (Kd.int .i64) _ 3 ?hg (N := 14) ?hd (xs := ([4, 2, 3] : List Int)) (inner := [.int .i64 4, .int .i64 2, .int .i64 3]) (ok := fun _ => True) (okp := fun _ => True) ?hr ?hp (fun _ hk => hk) trivial (Below.refl _ _) (Nat.le_refl _) (by simp) ?_; (case hd => rfl); (case hg => rfl); (case hr => first | (go_simp; done) | (go_simp; rfl)); (case hp => exact (Reps.one (show Kd.M (Kd.int .i64) _ _ _ 4 [.int .i64 4] from rfl) (Reps.one (show Kd.M (Kd.int .i64) _ _ _ 2 [.int .i64 2] from rfl) (Reps.one (show Kd.M (Kd.int .i64) _ _ _ 3 [.int .i64 3] from rfl) (Reps.none _ _))))); intro v135 w13 ho14 hb hg_ hnew_; clear hg_ hnew_; (first | rw [← Ny134.out] at ho14 | (simp only [Int.reduceToNat] at ho14; rw [← Ny134.out] at ho14)); have n0_ := Aside0.mk (Kd.R_lower ho14 (below_size (by repeat (first | (with_reducible first | exact HB.out | apply below_alloc | apply pw_below_drewN | apply below_drew1) | exact HB.out)))); have n1_ := Aside0.mk (below_step (by repeat (first | (with_reducible first | exact HB.out | apply below_alloc | apply pw_below_drewN | apply below_drew1) | exact HB.out)) hb); clear HB; have HO136 := n0_; have HB := n1_; clear n0_ n1_; clear hb ho14; obtain ⟨Ao15, co15, eo15⟩ := Kd.R_slice HO136.out; subst eo15) | ((with_reducible refine gate_callee (f := 42) rfl ?_); refine goesL_ (some 15) rfl rfl Try.func42 (by kernel_rfl) rfl #[.int .i64 a0, .slice Ao15 y134.length co15] rfl (by (try simp only [List.map_toArray, List.map_cons, List.map_nil]); first | done | rfl | (simp only [List.length_drop, List.length_take]; rfl)) ?_; (with_reducible refine (spec_among.calls kj2 a0 _ _ y134 false _ ?side1 ?side2 A6.out).mono ?_); (case side1 => repeat (first | exact (Kd.R_reads' HO136.out).2.2 | (with_reducible refine Kd.C_alloc ?_ _) | (with_reducible refine Kd.C_drewN ?_ _) | (with_reducible refine Kd.C_drew ?_))); (case side2 => exact (Kd.R_reads' HO136.out).2.1); rintro e w' ⟨rfl, ⟨nd, rfl⟩⟩; refine ⟨_, rfl, ?_⟩) | ((with_reducible refine gate_dst (N := 18) rfl ?_); (try (refine gate_guard (by rfl) ?_; dsimp only)); refine Kd.R_lit (Kd.int .i64) _ 3 ?hg (N := 18) ?hd (xs := ([4, 2, 3] : List Int)) (inner := [.int .i64 4, .int .i64 2, .int .i64 3]) (ok := fun _ => True) (okp := fun _ => True) ?hr ?hp (fun _ hk => hk) trivial (Below.refl _ _) (Nat.le_refl _) (by simp) ?_; (case hd => rfl); (case hg => rfl); (case hr => first | (go_simp; done) | (go_simp; rfl)); (case hp => exact (Reps.one (show Kd.M (Kd.int .i64) _ _ _ 4 [.int .i64 4] from rfl) (Reps.one (show Kd.M (Kd.int .i64) _ _ _ 2 [.int .i64 2] from rfl) (Reps.one (show Kd.M (Kd.int .i64) _ _ _ 3 [.int .i64 3] from rfl) (Reps.none _ _))))); intro v139 w16 ho17 hb hg_ hnew_; clear hg_ hnew_; (first | rw [← Ny138.out] at ho17 | (simp only [Int.reduceToNat] at ho17; rw [← Ny138.out] at ho17)); have n0_ := Aside0.mk (Kd.R_elder' (by (with_reducible repeat (first | apply Kd.R_alloc | apply Kd.R_drewN | apply Kd.R_drew)); exact HO136.out) (Kd.R_base ho17) hb); have n1_ := Aside0.mk (Kd.R_lower (Kd.R_new' ho17 (Kd.R_lt (by (with_reducible repeat (first | apply Kd.R_alloc | apply Kd.R_drewN | apply Kd.R_drew)); exact HO136.out))) (below_size (by repeat (first | (with_reducible first | exact HB.out | apply below_alloc | apply pw_below_drewN | apply below_drew1) | exact HB.out)))); have n2_ := Aside0.mk (below_step (by repeat (first | (with_reducible first | exact HB.out | apply below_alloc | apply pw_below_drewN | apply below_drew1) | exact HB.out)) hb); clear HO136; clear HB; have HO136 := n0_; have HO140 := n1_; have HB := n2_; clear n0_ n1_ n2_; clear hb ho17; obtain ⟨Ao18, co18, eo18⟩ := Kd.R_slice HO140.out; subst eo18) | ((with_reducible refine gate_callee (f := 42) rfl ?_); refine goesL_ (some 19) rfl rfl Try.func42 (by kernel_rfl) rfl #[.int .i64 a1, .slice Ao18 y138.length co18] rfl (by (try simp only [List.map_toArray, List.map_cons, List.map_nil]); first | done | rfl | (simp only [List.length_drop, List.length_take]; rfl)) ?_; (with_reducible refine (spec_among.calls kj2 a1 _ _ y138 true _ ?side1 ?side2 A11.out).mono ?_); (case side1 => repeat (first | exact (Kd.R_reads' HO140.out).2.2 | (with_reducible refine Kd.C_alloc ?_ _) | (with_reducible refine Kd.C_drewN ?_ _) | (with_reducible refine Kd.C_drew ?_))); (case side2 => exact (Kd.R_reads' HO140.out).2.1); rintro e w' ⟨rfl, ⟨nd, rfl⟩⟩; refine ⟨_, rfl, ?_⟩))
            go_ret
            exact ⟨by first | rfl | (simp [errW_none, errW_some] <;> rfl) | (simp [*, errW_none, errW_some] <;> rfl), by repeat (first | (with_reducible first | exact HB.out | apply below_alloc | apply pw_below_drewN | apply below_drew1) | exact HB.out)⟩
          · replace c12 := Bool.eq_false_iff.mpr c12
            subst c12
            have H1 : (if a0 = 8 then ((spec_among.f kj2 a1 (([8, 9, 11, 12] : List Int))).bind fun t145 => (spec_gbJoins.j1 kj2 a0 a1 t145)) else (spec_gbJoins.j1 kj2 a0 a1 false)) = some r := by rw [if_neg (show ¬ (false = true) by decide)] at H; exact H
            clear H
            have H := H1
            clear H1
            have HC19 := Aside0.mk H
            clear H
            go_upto_region 7 with (first | ((with_reducible refine gate_dst (N := 14) rfl ?_); (try (refine gate_guard (by rfl) ?_; dsimp only)); refine Kd.R_lit (Kd.int .i64) _ 3 ?hg (N := 14) ?hd (xs := ([4, 2, 3] : List Int)) (inner := [.int .i64 4, .int .i64 2, .int .i64 3]) (ok := fun _ => True) (okp := fun _ => True) ?hr ?hp (fun _ hk => hk) trivial (Below.refl _ _) (Nat.le_refl _) (by simp) ?_; (case hd => rfl); (case hg => rfl); (case hr => first | (go_simp; done) | (go_simp; rfl)); (case hp => exact (Reps.one (show Kd.M (Kd.int .i64) _ _ _ 4 [.int .i64 4] from rfl) (Reps.one (show Kd.M (Kd.int .i64) _ _ _ 2 [.int .i64 2] from rfl) (Reps.one (show Kd.M (Kd.int .i64) _ _ _ 3 [.int .i64 3] from rfl) (Reps.none _ _))))); intro v135 w20 ho21 hb hg_ hnew_; clear hg_ hnew_; (first | rw [← Ny134.out] at ho21 | (simp only [Int.reduceToNat] at ho21; rw [← Ny134.out] at ho21)); have n0_ := Aside0.mk (Kd.R_lower ho21 (below_size (by repeat (first | (with_reducible first | exact HB.out | apply below_alloc | apply pw_below_drewN | apply below_drew1) | exact HB.out)))); have n1_ := Aside0.mk (below_step (by repeat (first | (with_reducible first | exact HB.out | apply below_alloc | apply pw_below_drewN | apply below_drew1) | exact HB.out)) hb); clear HB; have HO136 := n0_; have HB := n1_; clear n0_ n1_; clear hb ho21; obtain ⟨Ao22, co22, eo22⟩ := Kd.R_slice HO136.out; subst eo22) | ((with_reducible refine gate_callee (f := 42) rfl ?_); refine goesL_ (some 15) rfl rfl Try.func42 (by kernel_rfl) rfl #[.int .i64 a0, .slice Ao22 y134.length co22] rfl (by (try simp only [List.map_toArray, List.map_cons, List.map_nil]); first | done | rfl | (simp only [List.length_drop, List.length_take]; rfl)) ?_; (with_reducible refine (spec_among.calls kj2 a0 _ _ y134 false _ ?side1 ?side2 A6.out).mono ?_); (case side1 => repeat (first | exact (Kd.R_reads' HO136.out).2.2 | (with_reducible refine Kd.C_alloc ?_ _) | (with_reducible refine Kd.C_drewN ?_ _) | (with_reducible refine Kd.C_drew ?_))); (case side2 => exact (Kd.R_reads' HO136.out).2.1); rintro e w' ⟨rfl, ⟨nd, rfl⟩⟩; refine ⟨_, rfl, ?_⟩) | ((with_reducible refine gate_dst (N := 18) rfl ?_); (try (refine gate_guard (by rfl) ?_; dsimp only)); refine Kd.R_lit (Kd.int .i64) _ 3 ?hg (N := 18) ?hd (xs := ([4, 2, 3] : List Int)) (inner := [.int .i64 4, .int .i64 2, .int .i64 3]) (ok := fun _ => True) (okp := fun _ => True) ?hr ?hp (fun _ hk => hk) trivial (Below.refl _ _) (Nat.le_refl _) (by simp) ?_; (case hd => rfl); (case hg => rfl); (case hr => first | (go_simp; done) | (go_simp; rfl)); (case hp => exact (Reps.one (show Kd.M (Kd.int .i64) _ _ _ 4 [.int .i64 4] from rfl) (Reps.one (show Kd.M (Kd.int .i64) _ _ _ 2 [.int .i64 2] from rfl) (Reps.one (show Kd.M (Kd.int .i64) _ _ _ 3 [.int .i64 3] from rfl) (Reps.none _ _))))); intro v139 w23 ho24 hb hg_ hnew_; clear hg_ hnew_; (first | rw [← Ny138.out] at ho24 | (simp only [Int.reduceToNat] at ho24; rw [← Ny138.out] at ho24)); have n0_ := Aside0.mk (Kd.R_elder' (by (with_reducible repeat (first | apply Kd.R_alloc | apply Kd.R_drewN | apply Kd.R_drew)); exact HO136.out) (Kd.R_base ho24) hb); have n1_ := Aside0.mk (Kd.R_lower (Kd.R_new' ho24 (Kd.R_lt (by (with_reducible repeat (first | apply Kd.R_alloc | apply Kd.R_drewN | apply Kd.R_drew)); exact HO136.out))) (below_size (by repeat (first | (with_reducible first | exact HB.out | apply below_alloc | apply pw_below_drewN | apply below_drew1) | exact HB.out)))); have n2_ := Aside0.mk (below_step (by repeat (first | (with_reducible first | exact HB.out | apply below_alloc | apply pw_below_drewN | apply below_drew1) | exact HB.out)) hb); clear HO136; clear HB; have HO136 := n0_; have HO140 := n1_; have HB := n2_; clear n0_ n1_ n2_; clear hb ho24; obtain ⟨Ao25, co25, eo25⟩ := Kd.R_slice HO140.out; subst eo25) | ((with_reducible refine gate_callee (f := 42) rfl ?_); refine goesL_ (some 19) rfl rfl Try.func42 (by kernel_rfl) rfl #[.int .i64 a1, .slice Ao25 y138.length co25] rfl (by (try simp only [List.map_toArray, List.map_cons, List.map_nil]); first | done | rfl | (simp only [List.length_drop, List.length_take]; rfl)) ?_; (with_reducible refine (spec_among.calls kj2 a1 _ _ y138 false _ ?side1 ?side2 A11.out).mono ?_); (case side1 => repeat (first | exact (Kd.R_reads' HO140.out).2.2 | (with_reducible refine Kd.C_alloc ?_ _) | (with_reducible refine Kd.C_drewN ?_ _) | (with_reducible refine Kd.C_drew ?_))); (case side2 => exact (Kd.R_reads' HO140.out).2.1); rintro e w' ⟨rfl, ⟨nd, rfl⟩⟩; refine ⟨_, rfl, ?_⟩))
            (try simp only [Act.put, List.setIfInBounds_toArray, List.set_cons_zero, List.set_cons_succ])
            go_cut [20] (fun v20 wc => ∃ (kq : Nat) (x20_18 : Bool), v20 = .bool x20_18 ∧ Aside0 (spec_gbJoins.j1 kq a0 a1 x20_18 = some r) ∧ Aside0 (kq ≤ kj2) ∧ Aside0 (Below w.heap.size w wc))
            case first =>
              have H := HC19.out
              clear HC19
              by_cases c26 : a0 = 8
              · rw [if_pos c26] at H
                have c26b0 : (a0 == 8) = true := beq_iff_eq.mpr c26
                have c26b1 : (a0 != 8) = false := bne_eq_false_iff_eq.mpr c26
                clear c26
                (first | rw [c26b0] | (simp only [i64_w, i32_w]; rw [c26b0]) | skip)
                obtain ⟨y142, hy142⟩ : ∃ y_ : List Int, y_ = (([8, 9, 11, 12] : List Int)) := ⟨_, rfl⟩
                replace H : ((spec_among.f kj2 a1 y142).bind fun t145 => (spec_gbJoins.j1 kj2 a0 a1 t145)) = some r := by first | (rw [hy142]; with_reducible exact H) | (have H2_ := (Option.bind_some _ _).symm.trans H; rw [hy142]; with_reducible exact H2_) | (have H2_ := (Option.bind_some _ _).symm.trans H; with_reducible exact H2_) | with_reducible exact H | (rw [hy142]; exact H) | exact H
                have Ny142 := Aside0.mk hy142
                clear hy142
                replace H := Option.bind_eq_some_iff.mp H
                obtain ⟨t145, A270, H⟩ := H
                replace H : (spec_gbJoins.j1 kj2 a0 a1 t145) = some r := H
                have A27 := Aside0.mk A270
                clear A270
                have H' := Aside0.mk H
                clear H
                go_wp2_with (first | ((with_reducible refine gate_dst (N := 25) rfl ?_); (try (refine gate_guard (by rfl) ?_; dsimp only)); refine Kd.R_lit (Kd.int .i64) _ 3 ?hg (N := 25) ?hd (xs := ([8, 9, 11, 12] : List Int)) (inner := [.int .i64 8, .int .i64 9, .int .i64 11, .int .i64 12]) (ok := fun _ => True) (okp := fun _ => True) ?hr ?hp (fun _ hk => hk) trivial (Below.refl _ _) (Nat.le_refl _) (by simp) ?_; (case hd => rfl); (case hg => rfl); (case hr => first | (go_simp; done) | (go_simp; rfl)); (case hp => exact (Reps.one (show Kd.M (Kd.int .i64) _ _ _ 8 [.int .i64 8] from rfl) (Reps.one (show Kd.M (Kd.int .i64) _ _ _ 9 [.int .i64 9] from rfl) (Reps.one (show Kd.M (Kd.int .i64) _ _ _ 11 [.int .i64 11] from rfl) (Reps.one (show Kd.M (Kd.int .i64) _ _ _ 12 [.int .i64 12] from rfl) (Reps.none _ _)))))); intro v143 w28 ho29 hb hg_ hnew_; clear hg_ hnew_; (first | rw [← Ny142.out] at ho29 | (simp only [Int.reduceToNat] at ho29; rw [← Ny142.out] at ho29)); have n0_ := Aside0.mk (Kd.R_elder' (by (with_reducible repeat (first | apply Kd.R_alloc | apply Kd.R_drewN | apply Kd.R_drew)); exact HO136.out) (Kd.R_base ho29) hb); have n1_ := Aside0.mk (Kd.R_elder' (by (with_reducible repeat (first | apply Kd.R_alloc | apply Kd.R_drewN | apply Kd.R_drew)); exact HO140.out) (Kd.R_base ho29) hb); have n2_ := Aside0.mk (Kd.R_lower (Kd.R_new' (Kd.R_new' ho29 (Kd.R_lt (by (with_reducible repeat (first | apply Kd.R_alloc | apply Kd.R_drewN | apply Kd.R_drew)); exact HO136.out))) (Kd.R_lt (by (with_reducible repeat (first | apply Kd.R_alloc | apply Kd.R_drewN | apply Kd.R_drew)); exact HO140.out))) (below_size (by repeat (first | (with_reducible first | exact HB.out | apply below_alloc | apply pw_below_drewN | apply below_drew1) | exact HB.out)))); have n3_ := Aside0.mk (below_step (by repeat (first | (with_reducible first | exact HB.out | apply below_alloc | apply pw_below_drewN | apply below_drew1) | exact HB.out)) hb); clear HO136; clear HO140; clear HB; have HO136 := n0_; have HO140 := n1_; have HO144 := n2_; have HB := n3_; clear n0_ n1_ n2_ n3_; clear hb ho29; obtain ⟨Ao30, co30, eo30⟩ := Kd.R_slice HO144.out; subst eo30) | (go_at_call 42; (with_reducible refine (spec_among.calls kj2 a1 _ _ y142 t145 _ ?side1 ?side2 A27.out).mono ?_); (case side1 => repeat (first | exact (Kd.R_reads' HO144.out).2.2 | (with_reducible refine Kd.C_alloc ?_ _) | (with_reducible refine Kd.C_drewN ?_ _) | (with_reducible refine Kd.C_drew ?_))); (case side2 => exact (Kd.R_reads' HO144.out).2.1); rintro e w' ⟨rfl, ⟨nd, rfl⟩⟩))
                go_meet
                case rel => exact ⟨_, (t145), (by first | rfl | (simp; done) | (simp [*]; done)), H', ⟨by have := HJ2.out; first | omega | exact Nat.le_refl _⟩, ⟨by repeat (first | (with_reducible first | exact HB.out | apply below_alloc | apply pw_below_drewN | apply below_drew1) | exact HB.out)⟩⟩
              · rw [if_neg c26] at H
                have c26b0 : (a0 == 8) = false := beq_eq_false_iff_ne.mpr c26
                have c26b1 : (a0 != 8) = true := bne_iff_ne.mpr c26
                (first | rw [c26b0] | (simp only [i64_w, i32_w]; rw [c26b0]) | skip)
                have H' := Aside0.mk H
                clear H
                go_wp2
                go_meet
                case rel => exact ⟨_, (false), (by first | rfl | (simp; done) | (simp [*]; done)), H', ⟨by have := HJ2.out; first | omega | exact Nat.le_refl _⟩, ⟨by repeat (first | (with_reducible first | exact HB.out | apply below_alloc | apply pw_below_drewN | apply below_drew1) | exact HB.out)⟩⟩
            case rest =>
              clear HC19
              try clear c1
              try clear c2
              try clear p2
              try clear c4
              try clear c4b0
              try clear c4b1
              try clear c5
              try clear c7
              try clear c12
              try clear c24
              try clear c26
              try clear c26b0
              try clear c26b1
              try clear p2
              obtain ⟨kq, x20_18, rfl, HA, HJ18, HB⟩ := hcut
              cases kq with
              | zero => exact absurd HA.out (by simp [spec_gbJoins.j1])
              | succ kj18 =>
                have H := HA.out
                clear HA
                simp only [spec_gbJoins.j1] at H
                by_cases c31 : x20_18 = true
                · subst c31
                  have H1 : (some true) = some r := by rw [if_pos rfl] at H; exact H
                  clear H
                  have H := H1
                  clear H1
                  obtain rfl := Option.some.inj H
                  go_wp2
                  go_ret
                  exact ⟨by first | rfl | (simp [errW_none, errW_some] <;> rfl) | (simp [*, errW_none, errW_some] <;> rfl), by repeat (first | (with_reducible first | exact HB.out | apply below_alloc | apply pw_below_drewN | apply below_drew1) | exact HB.out)⟩
                · replace c31 := Bool.eq_false_iff.mpr c31
                  subst c31
                  have H1 : ((spec_among.f kj18 a0 (([11, 9] : List Int))).bind fun t149 => (if t149 = true then ((spec_among.f kj18 a1 (([9, 10] : List Int))).bind fun t153 => (spec_gbJoins.j2 kj18 a0 a1 t153)) else (spec_gbJoins.j2 kj18 a0 a1 false))) = some r := by rw [if_neg (show ¬ (false = true) by decide)] at H; exact H
                  clear H
                  have H := H1
                  clear H1
                  have HC32 := Aside0.mk H
                  clear H
                  go_upto_region 9 with (fail)
                  go_cut [28] (fun v28 wc => ∃ (kq : Nat) (x28_31 : Bool), v28 = .bool x28_31 ∧ Aside0 (spec_gbJoins.j2 kq a0 a1 x28_31 = some r) ∧ Aside0 (kq ≤ kj18) ∧ Aside0 (Below w.heap.size w wc))
                  case first =>
                    have H := HC32.out
                    clear HC32
                    obtain ⟨y146, hy146⟩ : ∃ y_ : List Int, y_ = (([11, 9] : List Int)) := ⟨_, rfl⟩
                    replace H : ((spec_among.f kj18 a0 y146).bind fun t149 => (if t149 = true then ((spec_among.f kj18 a1 (([9, 10] : List Int))).bind fun t153 => (spec_gbJoins.j2 kj18 a0 a1 t153)) else (spec_gbJoins.j2 kj18 a0 a1 false))) = some r := by first | (rw [hy146]; with_reducible exact H) | (have H2_ := (Option.bind_some _ _).symm.trans H; rw [hy146]; with_reducible exact H2_) | (have H2_ := (Option.bind_some _ _).symm.trans H; with_reducible exact H2_) | with_reducible exact H | (rw [hy146]; exact H) | exact H
                    have Ny146 := Aside0.mk hy146
                    clear hy146
                    replace H := Option.bind_eq_some_iff.mp H
                    obtain ⟨t149, A330, H⟩ := H
                    replace H : (if t149 = true then ((spec_among.f kj18 a1 (([9, 10] : List Int))).bind fun t153 => (spec_gbJoins.j2 kj18 a0 a1 t153)) else (spec_gbJoins.j2 kj18 a0 a1 false)) = some r := H
                    have A33 := Aside0.mk A330
                    clear A330
                    by_cases c34 : t149 = true
                    · subst c34
                      have H1 : ((spec_among.f kj18 a1 (([9, 10] : List Int))).bind fun t153 => (spec_gbJoins.j2 kj18 a0 a1 t153)) = some r := by rw [if_pos rfl] at H; exact H
                      clear H
                      have H := H1
                      clear H1
                      obtain ⟨y150, hy150⟩ : ∃ y_ : List Int, y_ = (([9, 10] : List Int)) := ⟨_, rfl⟩
                      replace H : ((spec_among.f kj18 a1 y150).bind fun t153 => (spec_gbJoins.j2 kj18 a0 a1 t153)) = some r := by first | (rw [hy150]; with_reducible exact H) | (have H2_ := (Option.bind_some _ _).symm.trans H; rw [hy150]; with_reducible exact H2_) | (have H2_ := (Option.bind_some _ _).symm.trans H; with_reducible exact H2_) | with_reducible exact H | (rw [hy150]; exact H) | exact H
                      have Ny150 := Aside0.mk hy150
                      clear hy150
                      replace H := Option.bind_eq_some_iff.mp H
                      obtain ⟨t153, A350, H⟩ := H
                      replace H : (spec_gbJoins.j2 kj18 a0 a1 t153) = some r := H
                      have A35 := Aside0.mk A350
                      clear A350
                      have H' := Aside0.mk H
                      clear H
                      go_wp2_with (first | ((with_reducible refine gate_dst (N := 30) rfl ?_); (try (refine gate_guard (by rfl) ?_; dsimp only)); refine Kd.R_lit (Kd.int .i64) _ 3 ?hg (N := 30) ?hd (xs := ([11, 9] : List Int)) (inner := [.int .i64 11, .int .i64 9]) (ok := fun _ => True) (okp := fun _ => True) ?hr ?hp (fun _ hk => hk) trivial (Below.refl _ _) (Nat.le_refl _) (by simp) ?_; (case hd => rfl); (case hg => rfl); (case hr => first | (go_simp; done) | (go_simp; rfl)); (case hp => exact (Reps.one (show Kd.M (Kd.int .i64) _ _ _ 11 [.int .i64 11] from rfl) (Reps.one (show Kd.M (Kd.int .i64) _ _ _ 9 [.int .i64 9] from rfl) (Reps.none _ _)))); intro v147 w36 ho37 hb hg_ hnew_; clear hg_ hnew_; (first | rw [← Ny146.out] at ho37 | (simp only [Int.reduceToNat] at ho37; rw [← Ny146.out] at ho37)); have n0_ := Aside0.mk (Kd.R_lower ho37 (below_size (by repeat (first | (with_reducible first | exact HB.out | apply below_alloc | apply pw_below_drewN | apply below_drew1) | exact HB.out)))); have n1_ := Aside0.mk (below_step (by repeat (first | (with_reducible first | exact HB.out | apply below_alloc | apply pw_below_drewN | apply below_drew1) | exact HB.out)) hb); clear HB; have HO148 := n0_; have HB := n1_; clear n0_ n1_; clear hb ho37; obtain ⟨Ao38, co38, eo38⟩ := Kd.R_slice HO148.out; subst eo38) | ((with_reducible refine gate_callee (f := 42) rfl ?_); refine goesL_ (some 31) rfl rfl Try.func42 (by kernel_rfl) rfl #[.int .i64 a0, .slice Ao38 y146.length co38] rfl (by (try simp only [List.map_toArray, List.map_cons, List.map_nil]); first | done | rfl | (simp only [List.length_drop, List.length_take]; rfl)) ?_; (with_reducible refine (spec_among.calls kj18 a0 _ _ y146 true _ ?side1 ?side2 A33.out).mono ?_); (case side1 => repeat (first | exact (Kd.R_reads' HO148.out).2.2 | (with_reducible refine Kd.C_alloc ?_ _) | (with_reducible refine Kd.C_drewN ?_ _) | (with_reducible refine Kd.C_drew ?_))); (case side2 => exact (Kd.R_reads' HO148.out).2.1); rintro e w' ⟨rfl, ⟨nd, rfl⟩⟩; refine ⟨_, rfl, ?_⟩) | ((with_reducible refine gate_dst (N := 34) rfl ?_); (try (refine gate_guard (by rfl) ?_; dsimp only)); refine Kd.R_lit (Kd.int .i64) _ 3 ?hg (N := 34) ?hd (xs := ([9, 10] : List Int)) (inner := [.int .i64 9, .int .i64 10]) (ok := fun _ => True) (okp := fun _ => True) ?hr ?hp (fun _ hk => hk) trivial (Below.refl _ _) (Nat.le_refl _) (by simp) ?_; (case hd => rfl); (case hg => rfl); (case hr => first | (go_simp; done) | (go_simp; rfl)); (case hp => exact (Reps.one (show Kd.M (Kd.int .i64) _ _ _ 9 [.int .i64 9] from rfl) (Reps.one (show Kd.M (Kd.int .i64) _ _ _ 10 [.int .i64 10] from rfl) (Reps.none _ _)))); intro v151 w39 ho40 hb hg_ hnew_; clear hg_ hnew_; (first | rw [← Ny150.out] at ho40 | (simp only [Int.reduceToNat] at ho40; rw [← Ny150.out] at ho40)); have n0_ := Aside0.mk (Kd.R_elder' (by (with_reducible repeat (first | apply Kd.R_alloc | apply Kd.R_drewN | apply Kd.R_drew)); exact HO148.out) (Kd.R_base ho40) hb); have n1_ := Aside0.mk (Kd.R_lower (Kd.R_new' ho40 (Kd.R_lt (by (with_reducible repeat (first | apply Kd.R_alloc | apply Kd.R_drewN | apply Kd.R_drew)); exact HO148.out))) (below_size (by repeat (first | (with_reducible first | exact HB.out | apply below_alloc | apply pw_below_drewN | apply below_drew1) | exact HB.out)))); have n2_ := Aside0.mk (below_step (by repeat (first | (with_reducible first | exact HB.out | apply below_alloc | apply pw_below_drewN | apply below_drew1) | exact HB.out)) hb); clear HO148; clear HB; have HO148 := n0_; have HO152 := n1_; have HB := n2_; clear n0_ n1_ n2_; clear hb ho40; obtain ⟨Ao41, co41, eo41⟩ := Kd.R_slice HO152.out; subst eo41) | (go_at_call 42; (with_reducible refine (spec_among.calls kj18 a1 _ _ y150 t153 _ ?side1 ?side2 A35.out).mono ?_); (case side1 => repeat (first | exact (Kd.R_reads' HO152.out).2.2 | (with_reducible refine Kd.C_alloc ?_ _) | (with_reducible refine Kd.C_drewN ?_ _) | (with_reducible refine Kd.C_drew ?_))); (case side2 => exact (Kd.R_reads' HO152.out).2.1); rintro e w' ⟨rfl, ⟨nd, rfl⟩⟩))
                      go_meet
                      case rel => exact ⟨_, (t153), (by first | rfl | (simp; done) | (simp [*]; done)), H', ⟨by have := HJ2.out; have := HJ18.out; first | omega | exact Nat.le_refl _⟩, ⟨by repeat (first | (with_reducible first | exact HB.out | apply below_alloc | apply pw_below_drewN | apply below_drew1) | exact HB.out)⟩⟩
                    · replace c34 := Bool.eq_false_iff.mpr c34
                      subst c34
                      have H1 : (spec_gbJoins.j2 kj18 a0 a1 false) = some r := by rw [if_neg (show ¬ (false = true) by decide)] at H; exact H
                      clear H
                      have H := H1
                      clear H1
                      have H' := Aside0.mk H
                      clear H
                      go_wp2_with (first | ((with_reducible refine gate_dst (N := 30) rfl ?_); (try (refine gate_guard (by rfl) ?_; dsimp only)); refine Kd.R_lit (Kd.int .i64) _ 3 ?hg (N := 30) ?hd (xs := ([11, 9] : List Int)) (inner := [.int .i64 11, .int .i64 9]) (ok := fun _ => True) (okp := fun _ => True) ?hr ?hp (fun _ hk => hk) trivial (Below.refl _ _) (Nat.le_refl _) (by simp) ?_; (case hd => rfl); (case hg => rfl); (case hr => first | (go_simp; done) | (go_simp; rfl)); (case hp => exact (Reps.one (show Kd.M (Kd.int .i64) _ _ _ 11 [.int .i64 11] from rfl) (Reps.one (show Kd.M (Kd.int .i64) _ _ _ 9 [.int .i64 9] from rfl) (Reps.none _ _)))); intro v147 w42 ho43 hb hg_ hnew_; clear hg_ hnew_; (first | rw [← Ny146.out] at ho43 | (simp only [Int.reduceToNat] at ho43; rw [← Ny146.out] at ho43)); have n0_ := Aside0.mk (Kd.R_lower ho43 (below_size (by repeat (first | (with_reducible first | exact HB.out | apply below_alloc | apply pw_below_drewN | apply below_drew1) | exact HB.out)))); have n1_ := Aside0.mk (below_step (by repeat (first | (with_reducible first | exact HB.out | apply below_alloc | apply pw_below_drewN | apply below_drew1) | exact HB.out)) hb); clear HB; have HO148 := n0_; have HB := n1_; clear n0_ n1_; clear hb ho43; obtain ⟨Ao44, co44, eo44⟩ := Kd.R_slice HO148.out; subst eo44) | ((with_reducible refine gate_callee (f := 42) rfl ?_); refine goesL_ (some 31) rfl rfl Try.func42 (by kernel_rfl) rfl #[.int .i64 a0, .slice Ao44 y146.length co44] rfl (by (try simp only [List.map_toArray, List.map_cons, List.map_nil]); first | done | rfl | (simp only [List.length_drop, List.length_take]; rfl)) ?_; (with_reducible refine (spec_among.calls kj18 a0 _ _ y146 false _ ?side1 ?side2 A33.out).mono ?_); (case side1 => repeat (first | exact (Kd.R_reads' HO148.out).2.2 | (with_reducible refine Kd.C_alloc ?_ _) | (with_reducible refine Kd.C_drewN ?_ _) | (with_reducible refine Kd.C_drew ?_))); (case side2 => exact (Kd.R_reads' HO148.out).2.1); rintro e w' ⟨rfl, ⟨nd, rfl⟩⟩; refine ⟨_, rfl, ?_⟩))
                      go_meet
                      case rel => exact ⟨_, (false), (by first | rfl | (simp; done) | (simp [*]; done)), H', ⟨by have := HJ2.out; have := HJ18.out; first | omega | exact Nat.le_refl _⟩, ⟨by repeat (first | (with_reducible first | exact HB.out | apply below_alloc | apply pw_below_drewN | apply below_drew1) | exact HB.out)⟩⟩
                  case rest =>
                    clear HC32
                    try clear c1
                    try clear c2
                    try clear p2
                    try clear c3
                    try clear c4
                    try clear c4b0
                    try clear c4b1
                    try clear c5
                    try clear c7
                    try clear c12
                    try clear c24
                    try clear c26
                    try clear c26b0
                    try clear c26b1
                    try clear c31
                    try clear c34
                    try clear c42
                    try clear p2
                    obtain ⟨kq, x28_31, rfl, HA, HJ31, HB⟩ := hcut
                    cases kq with
                    | zero => exact absurd HA.out (by simp [spec_gbJoins.j2])
                    | succ kj31 =>
                      have H := HA.out
                      clear HA
                      simp only [spec_gbJoins.j2] at H
                      by_cases c45 : x28_31 = true
                      · subst c45
                        have H1 : (some true) = some r := by rw [if_pos rfl] at H; exact H
                        clear H
                        have H := H1
                        clear H1
                        obtain rfl := Option.some.inj H
                        go_wp2
                        go_ret
                        exact ⟨by first | rfl | (simp [errW_none, errW_some] <;> rfl) | (simp [*, errW_none, errW_some] <;> rfl), by repeat (first | (with_reducible first | exact HB.out | apply below_alloc | apply pw_below_drewN | apply below_drew1) | exact HB.out)⟩
                      · replace c45 := Bool.eq_false_iff.mpr c45
                        subst c45
                        have H1 : ((spec_among.f kj31 a0 (([12, 10] : List Int))).bind fun t157 => (if t157 = true then (if a1 = 10 then (some true) else ((spec_among.f kj31 a1 (([5, 13, 7] : List Int))).bind fun t161 => (if t161 = true then (some true) else (some (a0 == 1))))) else ((spec_among.f kj31 a1 (([5, 13, 7] : List Int))).bind fun t165 => (if t165 = true then (some true) else (some (a0 == 1)))))) = some r := by rw [if_neg (show ¬ (false = true) by decide)] at H; exact H
                        clear H
                        have H := H1
                        clear H1
                        obtain ⟨y154, hy154⟩ : ∃ y_ : List Int, y_ = (([12, 10] : List Int)) := ⟨_, rfl⟩
                        replace H : ((spec_among.f kj31 a0 y154).bind fun t157 => (if t157 = true then (if a1 = 10 then (some true) else ((spec_among.f kj31 a1 (([5, 13, 7] : List Int))).bind fun t161 => (if t161 = true then (some true) else (some (a0 == 1))))) else ((spec_among.f kj31 a1 (([5, 13, 7] : List Int))).bind fun t165 => (if t165 = true then (some true) else (some (a0 == 1)))))) = some r := by first | (rw [hy154]; with_reducible exact H) | (have H2_ := (Option.bind_some _ _).symm.trans H; rw [hy154]; with_reducible exact H2_) | (have H2_ := (Option.bind_some _ _).symm.trans H; with_reducible exact H2_) | with_reducible exact H | (rw [hy154]; exact H) | exact H
                        have Ny154 := Aside0.mk hy154
                        clear hy154
                        replace H := Option.bind_eq_some_iff.mp H
                        obtain ⟨t157, A460, H⟩ := H
                        replace H : (if t157 = true then (if a1 = 10 then (some true) else ((spec_among.f kj31 a1 (([5, 13, 7] : List Int))).bind fun t161 => (if t161 = true then (some true) else (some (a0 == 1))))) else ((spec_among.f kj31 a1 (([5, 13, 7] : List Int))).bind fun t165 => (if t165 = true then (some true) else (some (a0 == 1))))) = some r := H
                        have A46 := Aside0.mk A460
                        clear A460
                        by_cases c47 : t157 = true
                        · subst c47
                          have H1 : (if a1 = 10 then (some true) else ((spec_among.f kj31 a1 (([5, 13, 7] : List Int))).bind fun t161 => (if t161 = true then (some true) else (some (a0 == 1))))) = some r := by rw [if_pos rfl] at H; exact H
                          clear H
                          have H := H1
                          clear H1
                          by_cases c48 : a1 = 10
                          · rw [if_pos c48] at H
                            have c48b0 : (a1 == 10) = true := beq_iff_eq.mpr c48
                            have c48b1 : (a1 != 10) = false := bne_eq_false_iff_eq.mpr c48
                            clear c48
                            obtain rfl := Option.some.inj H
                            go_wp2_with (first | ((with_reducible refine gate_dst (N := 39) rfl ?_); (try (refine gate_guard (by rfl) ?_; dsimp only)); refine Kd.R_lit (Kd.int .i64) _ 3 ?hg (N := 39) ?hd (xs := ([12, 10] : List Int)) (inner := [.int .i64 12, .int .i64 10]) (ok := fun _ => True) (okp := fun _ => True) ?hr ?hp (fun _ hk => hk) trivial (Below.refl _ _) (Nat.le_refl _) (by simp) ?_; (case hd => rfl); (case hg => rfl); (case hr => first | (go_simp; done) | (go_simp; rfl)); (case hp => exact (Reps.one (show Kd.M (Kd.int .i64) _ _ _ 12 [.int .i64 12] from rfl) (Reps.one (show Kd.M (Kd.int .i64) _ _ _ 10 [.int .i64 10] from rfl) (Reps.none _ _)))); intro v155 w49 ho50 hb hg_ hnew_; clear hg_ hnew_; (first | rw [← Ny154.out] at ho50 | (simp only [Int.reduceToNat] at ho50; rw [← Ny154.out] at ho50)); have n0_ := Aside0.mk (Kd.R_lower ho50 (below_size (by repeat (first | (with_reducible first | exact HB.out | apply below_alloc | apply pw_below_drewN | apply below_drew1) | exact HB.out)))); have n1_ := Aside0.mk (below_step (by repeat (first | (with_reducible first | exact HB.out | apply below_alloc | apply pw_below_drewN | apply below_drew1) | exact HB.out)) hb); clear HB; have HO156 := n0_; have HB := n1_; clear n0_ n1_; clear hb ho50; obtain ⟨Ao51, co51, eo51⟩ := Kd.R_slice HO156.out; subst eo51) | ((with_reducible refine gate_callee (f := 42) rfl ?_); refine goesL_ (some 40) rfl rfl Try.func42 (by kernel_rfl) rfl #[.int .i64 a0, .slice Ao51 y154.length co51] rfl (by (try simp only [List.map_toArray, List.map_cons, List.map_nil]); first | done | rfl | (simp only [List.length_drop, List.length_take]; rfl)) ?_; (with_reducible refine (spec_among.calls kj31 a0 _ _ y154 true _ ?side1 ?side2 A46.out).mono ?_); (case side1 => repeat (first | exact (Kd.R_reads' HO156.out).2.2 | (with_reducible refine Kd.C_alloc ?_ _) | (with_reducible refine Kd.C_drewN ?_ _) | (with_reducible refine Kd.C_drew ?_))); (case side2 => exact (Kd.R_reads' HO156.out).2.1); rintro e w' ⟨rfl, ⟨nd, rfl⟩⟩; refine ⟨_, rfl, ?_⟩))
                            go_ret
                            exact ⟨by first | rfl | (simp [errW_none, errW_some] <;> rfl) | (simp [*, errW_none, errW_some] <;> rfl), by repeat (first | (with_reducible first | exact HB.out | apply below_alloc | apply pw_below_drewN | apply below_drew1) | exact HB.out)⟩
                          · rw [if_neg c48] at H
                            have c48b0 : (a1 == 10) = false := beq_eq_false_iff_ne.mpr c48
                            have c48b1 : (a1 != 10) = true := bne_iff_ne.mpr c48
                            obtain ⟨y158, hy158⟩ : ∃ y_ : List Int, y_ = (([5, 13, 7] : List Int)) := ⟨_, rfl⟩
                            replace H : ((spec_among.f kj31 a1 y158).bind fun t161 => (if t161 = true then (some true) else (some (a0 == 1)))) = some r := by first | (rw [hy158]; with_reducible exact H) | (have H2_ := (Option.bind_some _ _).symm.trans H; rw [hy158]; with_reducible exact H2_) | (have H2_ := (Option.bind_some _ _).symm.trans H; with_reducible exact H2_) | with_reducible exact H | (rw [hy158]; exact H) | exact H
                            have Ny158 := Aside0.mk hy158
                            clear hy158
                            replace H := Option.bind_eq_some_iff.mp H
                            obtain ⟨t161, A520, H⟩ := H
                            replace H : (if t161 = true then (some true) else (some (a0 == 1))) = some r := H
                            have A52 := Aside0.mk A520
                            clear A520
                            by_cases c53 : t161 = true
                            · subst c53
                              have H1 : (some true) = some r := by rw [if_pos rfl] at H; exact H
                              clear H
                              have H := H1
                              clear H1
                              obtain rfl := Option.some.inj H
                              go_wp2_with (first | ((with_reducible refine gate_dst (N := 39) rfl ?_); (try (refine gate_guard (by rfl) ?_; dsimp only)); refine Kd.R_lit (Kd.int .i64) _ 3 ?hg (N := 39) ?hd (xs := ([12, 10] : List Int)) (inner := [.int .i64 12, .int .i64 10]) (ok := fun _ => True) (okp := fun _ => True) ?hr ?hp (fun _ hk => hk) trivial (Below.refl _ _) (Nat.le_refl _) (by simp) ?_; (case hd => rfl); (case hg => rfl); (case hr => first | (go_simp; done) | (go_simp; rfl)); (case hp => exact (Reps.one (show Kd.M (Kd.int .i64) _ _ _ 12 [.int .i64 12] from rfl) (Reps.one (show Kd.M (Kd.int .i64) _ _ _ 10 [.int .i64 10] from rfl) (Reps.none _ _)))); intro v155 w54 ho55 hb hg_ hnew_; clear hg_ hnew_; (first | rw [← Ny154.out] at ho55 | (simp only [Int.reduceToNat] at ho55; rw [← Ny154.out] at ho55)); have n0_ := Aside0.mk (Kd.R_lower ho55 (below_size (by repeat (first | (with_reducible first | exact HB.out | apply below_alloc | apply pw_below_drewN | apply below_drew1) | exact HB.out)))); have n1_ := Aside0.mk (below_step (by repeat (first | (with_reducible first | exact HB.out | apply below_alloc | apply pw_below_drewN | apply below_drew1) | exact HB.out)) hb); clear HB; have HO156 := n0_; have HB := n1_; clear n0_ n1_; clear hb ho55; obtain ⟨Ao56, co56, eo56⟩ := Kd.R_slice HO156.out; subst eo56) | ((with_reducible refine gate_callee (f := 42) rfl ?_); refine goesL_ (some 40) rfl rfl Try.func42 (by kernel_rfl) rfl #[.int .i64 a0, .slice Ao56 y154.length co56] rfl (by (try simp only [List.map_toArray, List.map_cons, List.map_nil]); first | done | rfl | (simp only [List.length_drop, List.length_take]; rfl)) ?_; (with_reducible refine (spec_among.calls kj31 a0 _ _ y154 true _ ?side1 ?side2 A46.out).mono ?_); (case side1 => repeat (first | exact (Kd.R_reads' HO156.out).2.2 | (with_reducible refine Kd.C_alloc ?_ _) | (with_reducible refine Kd.C_drewN ?_ _) | (with_reducible refine Kd.C_drew ?_))); (case side2 => exact (Kd.R_reads' HO156.out).2.1); rintro e w' ⟨rfl, ⟨nd, rfl⟩⟩; refine ⟨_, rfl, ?_⟩) | ((with_reducible refine gate_dst (N := 46) rfl ?_); (try (refine gate_guard (by rfl) ?_; dsimp only)); refine Kd.R_lit (Kd.int .i64) _ 3 ?hg (N := 46) ?hd (xs := ([5, 13, 7] : List Int)) (inner := [.int .i64 5, .int .i64 13, .int .i64 7]) (ok := fun _ => True) (okp := fun _ => True) ?hr ?hp (fun _ hk => hk) trivial (Below.refl _ _) (Nat.le_refl _) (by simp) ?_; (case hd => rfl); (case hg => rfl); (case hr => first | (go_simp; done) | (go_simp; rfl)); (case hp => exact (Reps.one (show Kd.M (Kd.int .i64) _ _ _ 5 [.int .i64 5] from rfl) (Reps.one (show Kd.M (Kd.int .i64) _ _ _ 13 [.int .i64 13] from rfl) (Reps.one (show Kd.M (Kd.int .i64) _ _ _ 7 [.int .i64 7] from rfl) (Reps.none _ _))))); intro v159 w57 ho58 hb hg_ hnew_; clear hg_ hnew_; (first | rw [← Ny158.out] at ho58 | (simp only [Int.reduceToNat] at ho58; rw [← Ny158.out] at ho58)); have n0_ := Aside0.mk (Kd.R_elder' (by (with_reducible repeat (first | apply Kd.R_alloc | apply Kd.R_drewN | apply Kd.R_drew)); exact HO156.out) (Kd.R_base ho58) hb); have n1_ := Aside0.mk (Kd.R_lower (Kd.R_new' ho58 (Kd.R_lt (by (with_reducible repeat (first | apply Kd.R_alloc | apply Kd.R_drewN | apply Kd.R_drew)); exact HO156.out))) (below_size (by repeat (first | (with_reducible first | exact HB.out | apply below_alloc | apply pw_below_drewN | apply below_drew1) | exact HB.out)))); have n2_ := Aside0.mk (below_step (by repeat (first | (with_reducible first | exact HB.out | apply below_alloc | apply pw_below_drewN | apply below_drew1) | exact HB.out)) hb); clear HO156; clear HB; have HO156 := n0_; have HO160 := n1_; have HB := n2_; clear n0_ n1_ n2_; clear hb ho58; obtain ⟨Ao59, co59, eo59⟩ := Kd.R_slice HO160.out; subst eo59) | ((with_reducible refine gate_callee (f := 42) rfl ?_); refine goesL_ (some 47) rfl rfl Try.func42 (by kernel_rfl) rfl #[.int .i64 a1, .slice Ao59 y158.length co59] rfl (by (try simp only [List.map_toArray, List.map_cons, List.map_nil]); first | done | rfl | (simp only [List.length_drop, List.length_take]; rfl)) ?_; (with_reducible refine (spec_among.calls kj31 a1 _ _ y158 true _ ?side1 ?side2 A52.out).mono ?_); (case side1 => repeat (first | exact (Kd.R_reads' HO160.out).2.2 | (with_reducible refine Kd.C_alloc ?_ _) | (with_reducible refine Kd.C_drewN ?_ _) | (with_reducible refine Kd.C_drew ?_))); (case side2 => exact (Kd.R_reads' HO160.out).2.1); rintro e w' ⟨rfl, ⟨nd, rfl⟩⟩; refine ⟨_, rfl, ?_⟩))
                              go_ret
                              exact ⟨by first | rfl | (simp [errW_none, errW_some] <;> rfl) | (simp [*, errW_none, errW_some] <;> rfl), by repeat (first | (with_reducible first | exact HB.out | apply below_alloc | apply pw_below_drewN | apply below_drew1) | exact HB.out)⟩
                            · replace c53 := Bool.eq_false_iff.mpr c53
                              subst c53
                              have H1 : (some (a0 == 1)) = some r := by rw [if_neg (show ¬ (false = true) by decide)] at H; exact H
                              clear H
                              have H := H1
                              clear H1
                              obtain rfl := Option.some.inj H
                              go_wp2_with (first | ((with_reducible refine gate_dst (N := 39) rfl ?_); (try (refine gate_guard (by rfl) ?_; dsimp only)); refine Kd.R_lit (Kd.int .i64) _ 3 ?hg (N := 39) ?hd (xs := ([12, 10] : List Int)) (inner := [.int .i64 12, .int .i64 10]) (ok := fun _ => True) (okp := fun _ => True) ?hr ?hp (fun _ hk => hk) trivial (Below.refl _ _) (Nat.le_refl _) (by simp) ?_; (case hd => rfl); (case hg => rfl); (case hr => first | (go_simp; done) | (go_simp; rfl)); (case hp => exact (Reps.one (show Kd.M (Kd.int .i64) _ _ _ 12 [.int .i64 12] from rfl) (Reps.one (show Kd.M (Kd.int .i64) _ _ _ 10 [.int .i64 10] from rfl) (Reps.none _ _)))); intro v155 w60 ho61 hb hg_ hnew_; clear hg_ hnew_; (first | rw [← Ny154.out] at ho61 | (simp only [Int.reduceToNat] at ho61; rw [← Ny154.out] at ho61)); have n0_ := Aside0.mk (Kd.R_lower ho61 (below_size (by repeat (first | (with_reducible first | exact HB.out | apply below_alloc | apply pw_below_drewN | apply below_drew1) | exact HB.out)))); have n1_ := Aside0.mk (below_step (by repeat (first | (with_reducible first | exact HB.out | apply below_alloc | apply pw_below_drewN | apply below_drew1) | exact HB.out)) hb); clear HB; have HO156 := n0_; have HB := n1_; clear n0_ n1_; clear hb ho61; obtain ⟨Ao62, co62, eo62⟩ := Kd.R_slice HO156.out; subst eo62) | ((with_reducible refine gate_callee (f := 42) rfl ?_); refine goesL_ (some 40) rfl rfl Try.func42 (by kernel_rfl) rfl #[.int .i64 a0, .slice Ao62 y154.length co62] rfl (by (try simp only [List.map_toArray, List.map_cons, List.map_nil]); first | done | rfl | (simp only [List.length_drop, List.length_take]; rfl)) ?_; (with_reducible refine (spec_among.calls kj31 a0 _ _ y154 true _ ?side1 ?side2 A46.out).mono ?_); (case side1 => repeat (first | exact (Kd.R_reads' HO156.out).2.2 | (with_reducible refine Kd.C_alloc ?_ _) | (with_reducible refine Kd.C_drewN ?_ _) | (with_reducible refine Kd.C_drew ?_))); (case side2 => exact (Kd.R_reads' HO156.out).2.1); rintro e w' ⟨rfl, ⟨nd, rfl⟩⟩; refine ⟨_, rfl, ?_⟩) | ((with_reducible refine gate_dst (N := 46) rfl ?_); (try (refine gate_guard (by rfl) ?_; dsimp only)); refine Kd.R_lit (Kd.int .i64) _ 3 ?hg (N := 46) ?hd (xs := ([5, 13, 7] : List Int)) (inner := [.int .i64 5, .int .i64 13, .int .i64 7]) (ok := fun _ => True) (okp := fun _ => True) ?hr ?hp (fun _ hk => hk) trivial (Below.refl _ _) (Nat.le_refl _) (by simp) ?_; (case hd => rfl); (case hg => rfl); (case hr => first | (go_simp; done) | (go_simp; rfl)); (case hp => exact (Reps.one (show Kd.M (Kd.int .i64) _ _ _ 5 [.int .i64 5] from rfl) (Reps.one (show Kd.M (Kd.int .i64) _ _ _ 13 [.int .i64 13] from rfl) (Reps.one (show Kd.M (Kd.int .i64) _ _ _ 7 [.int .i64 7] from rfl) (Reps.none _ _))))); intro v159 w63 ho64 hb hg_ hnew_; clear hg_ hnew_; (first | rw [← Ny158.out] at ho64 | (simp only [Int.reduceToNat] at ho64; rw [← Ny158.out] at ho64)); have n0_ := Aside0.mk (Kd.R_elder' (by (with_reducible repeat (first | apply Kd.R_alloc | apply Kd.R_drewN | apply Kd.R_drew)); exact HO156.out) (Kd.R_base ho64) hb); have n1_ := Aside0.mk (Kd.R_lower (Kd.R_new' ho64 (Kd.R_lt (by (with_reducible repeat (first | apply Kd.R_alloc | apply Kd.R_drewN | apply Kd.R_drew)); exact HO156.out))) (below_size (by repeat (first | (with_reducible first | exact HB.out | apply below_alloc | apply pw_below_drewN | apply below_drew1) | exact HB.out)))); have n2_ := Aside0.mk (below_step (by repeat (first | (with_reducible first | exact HB.out | apply below_alloc | apply pw_below_drewN | apply below_drew1) | exact HB.out)) hb); clear HO156; clear HB; have HO156 := n0_; have HO160 := n1_; have HB := n2_; clear n0_ n1_ n2_; clear hb ho64; obtain ⟨Ao65, co65, eo65⟩ := Kd.R_slice HO160.out; subst eo65) | ((with_reducible refine gate_callee (f := 42) rfl ?_); refine goesL_ (some 47) rfl rfl Try.func42 (by kernel_rfl) rfl #[.int .i64 a1, .slice Ao65 y158.length co65] rfl (by (try simp only [List.map_toArray, List.map_cons, List.map_nil]); first | done | rfl | (simp only [List.length_drop, List.length_take]; rfl)) ?_; (with_reducible refine (spec_among.calls kj31 a1 _ _ y158 false _ ?side1 ?side2 A52.out).mono ?_); (case side1 => repeat (first | exact (Kd.R_reads' HO160.out).2.2 | (with_reducible refine Kd.C_alloc ?_ _) | (with_reducible refine Kd.C_drewN ?_ _) | (with_reducible refine Kd.C_drew ?_))); (case side2 => exact (Kd.R_reads' HO160.out).2.1); rintro e w' ⟨rfl, ⟨nd, rfl⟩⟩; refine ⟨_, rfl, ?_⟩))
                              go_ret
                              exact ⟨by first | rfl | (simp [errW_none, errW_some] <;> rfl) | (simp [*, errW_none, errW_some] <;> rfl), by repeat (first | (with_reducible first | exact HB.out | apply below_alloc | apply pw_below_drewN | apply below_drew1) | exact HB.out)⟩
                        · replace c47 := Bool.eq_false_iff.mpr c47
                          subst c47
                          have H1 : ((spec_among.f kj31 a1 (([5, 13, 7] : List Int))).bind fun t165 => (if t165 = true then (some true) else (some (a0 == 1)))) = some r := by rw [if_neg (show ¬ (false = true) by decide)] at H; exact H
                          clear H
                          have H := H1
                          clear H1
                          obtain ⟨y162, hy162⟩ : ∃ y_ : List Int, y_ = (([5, 13, 7] : List Int)) := ⟨_, rfl⟩
                          replace H : ((spec_among.f kj31 a1 y162).bind fun t165 => (if t165 = true then (some true) else (some (a0 == 1)))) = some r := by first | (rw [hy162]; with_reducible exact H) | (have H2_ := (Option.bind_some _ _).symm.trans H; rw [hy162]; with_reducible exact H2_) | (have H2_ := (Option.bind_some _ _).symm.trans H; with_reducible exact H2_) | with_reducible exact H | (rw [hy162]; exact H) | exact H
                          have Ny162 := Aside0.mk hy162
                          clear hy162
                          replace H := Option.bind_eq_some_iff.mp H
                          obtain ⟨t165, A660, H⟩ := H
                          replace H : (if t165 = true then (some true) else (some (a0 == 1))) = some r := H
                          have A66 := Aside0.mk A660
                          clear A660
                          by_cases c67 : t165 = true
                          · subst c67
                            have H1 : (some true) = some r := by rw [if_pos rfl] at H; exact H
                            clear H
                            have H := H1
                            clear H1
                            obtain rfl := Option.some.inj H
                            go_wp2_with (first | ((with_reducible refine gate_dst (N := 39) rfl ?_); (try (refine gate_guard (by rfl) ?_; dsimp only)); refine Kd.R_lit (Kd.int .i64) _ 3 ?hg (N := 39) ?hd (xs := ([12, 10] : List Int)) (inner := [.int .i64 12, .int .i64 10]) (ok := fun _ => True) (okp := fun _ => True) ?hr ?hp (fun _ hk => hk) trivial (Below.refl _ _) (Nat.le_refl _) (by simp) ?_; (case hd => rfl); (case hg => rfl); (case hr => first | (go_simp; done) | (go_simp; rfl)); (case hp => exact (Reps.one (show Kd.M (Kd.int .i64) _ _ _ 12 [.int .i64 12] from rfl) (Reps.one (show Kd.M (Kd.int .i64) _ _ _ 10 [.int .i64 10] from rfl) (Reps.none _ _)))); intro v155 w68 ho69 hb hg_ hnew_; clear hg_ hnew_; (first | rw [← Ny154.out] at ho69 | (simp only [Int.reduceToNat] at ho69; rw [← Ny154.out] at ho69)); have n0_ := Aside0.mk (Kd.R_lower ho69 (below_size (by repeat (first | (with_reducible first | exact HB.out | apply below_alloc | apply pw_below_drewN | apply below_drew1) | exact HB.out)))); have n1_ := Aside0.mk (below_step (by repeat (first | (with_reducible first | exact HB.out | apply below_alloc | apply pw_below_drewN | apply below_drew1) | exact HB.out)) hb); clear HB; have HO156 := n0_; have HB := n1_; clear n0_ n1_; clear hb ho69; obtain ⟨Ao70, co70, eo70⟩ := Kd.R_slice HO156.out; subst eo70) | ((with_reducible refine gate_callee (f := 42) rfl ?_); refine goesL_ (some 40) rfl rfl Try.func42 (by kernel_rfl) rfl #[.int .i64 a0, .slice Ao70 y154.length co70] rfl (by (try simp only [List.map_toArray, List.map_cons, List.map_nil]); first | done | rfl | (simp only [List.length_drop, List.length_take]; rfl)) ?_; (with_reducible refine (spec_among.calls kj31 a0 _ _ y154 false _ ?side1 ?side2 A46.out).mono ?_); (case side1 => repeat (first | exact (Kd.R_reads' HO156.out).2.2 | (with_reducible refine Kd.C_alloc ?_ _) | (with_reducible refine Kd.C_drewN ?_ _) | (with_reducible refine Kd.C_drew ?_))); (case side2 => exact (Kd.R_reads' HO156.out).2.1); rintro e w' ⟨rfl, ⟨nd, rfl⟩⟩; refine ⟨_, rfl, ?_⟩) | ((with_reducible refine gate_dst (N := 46) rfl ?_); (try (refine gate_guard (by rfl) ?_; dsimp only)); refine Kd.R_lit (Kd.int .i64) _ 3 ?hg (N := 46) ?hd (xs := ([5, 13, 7] : List Int)) (inner := [.int .i64 5, .int .i64 13, .int .i64 7]) (ok := fun _ => True) (okp := fun _ => True) ?hr ?hp (fun _ hk => hk) trivial (Below.refl _ _) (Nat.le_refl _) (by simp) ?_; (case hd => rfl); (case hg => rfl); (case hr => first | (go_simp; done) | (go_simp; rfl)); (case hp => exact (Reps.one (show Kd.M (Kd.int .i64) _ _ _ 5 [.int .i64 5] from rfl) (Reps.one (show Kd.M (Kd.int .i64) _ _ _ 13 [.int .i64 13] from rfl) (Reps.one (show Kd.M (Kd.int .i64) _ _ _ 7 [.int .i64 7] from rfl) (Reps.none _ _))))); intro v163 w71 ho72 hb hg_ hnew_; clear hg_ hnew_; (first | rw [← Ny162.out] at ho72 | (simp only [Int.reduceToNat] at ho72; rw [← Ny162.out] at ho72)); have n0_ := Aside0.mk (Kd.R_elder' (by (with_reducible repeat (first | apply Kd.R_alloc | apply Kd.R_drewN | apply Kd.R_drew)); exact HO156.out) (Kd.R_base ho72) hb); have n1_ := Aside0.mk (Kd.R_lower (Kd.R_new' ho72 (Kd.R_lt (by (with_reducible repeat (first | apply Kd.R_alloc | apply Kd.R_drewN | apply Kd.R_drew)); exact HO156.out))) (below_size (by repeat (first | (with_reducible first | exact HB.out | apply below_alloc | apply pw_below_drewN | apply below_drew1) | exact HB.out)))); have n2_ := Aside0.mk (below_step (by repeat (first | (with_reducible first | exact HB.out | apply below_alloc | apply pw_below_drewN | apply below_drew1) | exact HB.out)) hb); clear HO156; clear HB; have HO156 := n0_; have HO164 := n1_; have HB := n2_; clear n0_ n1_ n2_; clear hb ho72; obtain ⟨Ao73, co73, eo73⟩ := Kd.R_slice HO164.out; subst eo73) | ((with_reducible refine gate_callee (f := 42) rfl ?_); refine goesL_ (some 47) rfl rfl Try.func42 (by kernel_rfl) rfl #[.int .i64 a1, .slice Ao73 y162.length co73] rfl (by (try simp only [List.map_toArray, List.map_cons, List.map_nil]); first | done | rfl | (simp only [List.length_drop, List.length_take]; rfl)) ?_; (with_reducible refine (spec_among.calls kj31 a1 _ _ y162 true _ ?side1 ?side2 A66.out).mono ?_); (case side1 => repeat (first | exact (Kd.R_reads' HO164.out).2.2 | (with_reducible refine Kd.C_alloc ?_ _) | (with_reducible refine Kd.C_drewN ?_ _) | (with_reducible refine Kd.C_drew ?_))); (case side2 => exact (Kd.R_reads' HO164.out).2.1); rintro e w' ⟨rfl, ⟨nd, rfl⟩⟩; refine ⟨_, rfl, ?_⟩))
                            go_ret
                            exact ⟨by first | rfl | (simp [errW_none, errW_some] <;> rfl) | (simp [*, errW_none, errW_some] <;> rfl), by repeat (first | (with_reducible first | exact HB.out | apply below_alloc | apply pw_below_drewN | apply below_drew1) | exact HB.out)⟩
                          · replace c67 := Bool.eq_false_iff.mpr c67
                            subst c67
                            have H1 : (some (a0 == 1)) = some r := by rw [if_neg (show ¬ (false = true) by decide)] at H; exact H
                            clear H
                            have H := H1
                            clear H1
                            obtain rfl := Option.some.inj H
                            go_wp2_with (first | ((with_reducible refine gate_dst (N := 39) rfl ?_); (try (refine gate_guard (by rfl) ?_; dsimp only)); refine Kd.R_lit (Kd.int .i64) _ 3 ?hg (N := 39) ?hd (xs := ([12, 10] : List Int)) (inner := [.int .i64 12, .int .i64 10]) (ok := fun _ => True) (okp := fun _ => True) ?hr ?hp (fun _ hk => hk) trivial (Below.refl _ _) (Nat.le_refl _) (by simp) ?_; (case hd => rfl); (case hg => rfl); (case hr => first | (go_simp; done) | (go_simp; rfl)); (case hp => exact (Reps.one (show Kd.M (Kd.int .i64) _ _ _ 12 [.int .i64 12] from rfl) (Reps.one (show Kd.M (Kd.int .i64) _ _ _ 10 [.int .i64 10] from rfl) (Reps.none _ _)))); intro v155 w74 ho75 hb hg_ hnew_; clear hg_ hnew_; (first | rw [← Ny154.out] at ho75 | (simp only [Int.reduceToNat] at ho75; rw [← Ny154.out] at ho75)); have n0_ := Aside0.mk (Kd.R_lower ho75 (below_size (by repeat (first | (with_reducible first | exact HB.out | apply below_alloc | apply pw_below_drewN | apply below_drew1) | exact HB.out)))); have n1_ := Aside0.mk (below_step (by repeat (first | (with_reducible first | exact HB.out | apply below_alloc | apply pw_below_drewN | apply below_drew1) | exact HB.out)) hb); clear HB; have HO156 := n0_; have HB := n1_; clear n0_ n1_; clear hb ho75; obtain ⟨Ao76, co76, eo76⟩ := Kd.R_slice HO156.out; subst eo76) | ((with_reducible refine gate_callee (f := 42) rfl ?_); refine goesL_ (some 40) rfl rfl Try.func42 (by kernel_rfl) rfl #[.int .i64 a0, .slice Ao76 y154.length co76] rfl (by (try simp only [List.map_toArray, List.map_cons, List.map_nil]); first | done | rfl | (simp only [List.length_drop, List.length_take]; rfl)) ?_; (with_reducible refine (spec_among.calls kj31 a0 _ _ y154 false _ ?side1 ?side2 A46.out).mono ?_); (case side1 => repeat (first | exact (Kd.R_reads' HO156.out).2.2 | (with_reducible refine Kd.C_alloc ?_ _) | (with_reducible refine Kd.C_drewN ?_ _) | (with_reducible refine Kd.C_drew ?_))); (case side2 => exact (Kd.R_reads' HO156.out).2.1); rintro e w' ⟨rfl, ⟨nd, rfl⟩⟩; refine ⟨_, rfl, ?_⟩) | ((with_reducible refine gate_dst (N := 46) rfl ?_); (try (refine gate_guard (by rfl) ?_; dsimp only)); refine Kd.R_lit (Kd.int .i64) _ 3 ?hg (N := 46) ?hd (xs := ([5, 13, 7] : List Int)) (inner := [.int .i64 5, .int .i64 13, .int .i64 7]) (ok := fun _ => True) (okp := fun _ => True) ?hr ?hp (fun _ hk => hk) trivial (Below.refl _ _) (Nat.le_refl _) (by simp) ?_; (case hd => rfl); (case hg => rfl); (case hr => first | (go_simp; done) | (go_simp; rfl)); (case hp => exact (Reps.one (show Kd.M (Kd.int .i64) _ _ _ 5 [.int .i64 5] from rfl) (Reps.one (show Kd.M (Kd.int .i64) _ _ _ 13 [.int .i64 13] from rfl) (Reps.one (show Kd.M (Kd.int .i64) _ _ _ 7 [.int .i64 7] from rfl) (Reps.none _ _))))); intro v163 w77 ho78 hb hg_ hnew_; clear hg_ hnew_; (first | rw [← Ny162.out] at ho78 | (simp only [Int.reduceToNat] at ho78; rw [← Ny162.out] at ho78)); have n0_ := Aside0.mk (Kd.R_elder' (by (with_reducible repeat (first | apply Kd.R_alloc | apply Kd.R_drewN | apply Kd.R_drew)); exact HO156.out) (Kd.R_base ho78) hb); have n1_ := Aside0.mk (Kd.R_lower (Kd.R_new' ho78 (Kd.R_lt (by (with_reducible repeat (first | apply Kd.R_alloc | apply Kd.R_drewN | apply Kd.R_drew)); exact HO156.out))) (below_size (by repeat (first | (with_reducible first | exact HB.out | apply below_alloc | apply pw_below_drewN | apply below_drew1) | exact HB.out)))); have n2_ := Aside0.mk (below_step (by repeat (first | (with_reducible first | exact HB.out | apply below_alloc | apply pw_below_drewN | apply below_drew1) | exact HB.out)) hb); clear HO156; clear HB; have HO156 := n0_; have HO164 := n1_; have HB := n2_; clear n0_ n1_ n2_; clear hb ho78; obtain ⟨Ao79, co79, eo79⟩ := Kd.R_slice HO164.out; subst eo79) | ((with_reducible refine gate_callee (f := 42) rfl ?_); refine goesL_ (some 47) rfl rfl Try.func42 (by kernel_rfl) rfl #[.int .i64 a1, .slice Ao79 y162.length co79] rfl (by (try simp only [List.map_toArray, List.map_cons, List.map_nil]); first | done | rfl | (simp only [List.length_drop, List.length_take]; rfl)) ?_; (with_reducible refine (spec_among.calls kj31 a1 _ _ y162 false _ ?side1 ?side2 A66.out).mono ?_); (case side1 => repeat (first | exact (Kd.R_reads' HO164.out).2.2 | (with_reducible refine Kd.C_alloc ?_ _) | (with_reducible refine Kd.C_drewN ?_ _) | (with_reducible refine Kd.C_drew ?_))); (case side2 => exact (Kd.R_reads' HO164.out).2.1); rintro e w' ⟨rfl, ⟨nd, rfl⟩⟩; refine ⟨_, rfl, ?_⟩))
                            go_ret
                            exact ⟨by first | rfl | (simp [errW_none, errW_some] <;> rfl) | (simp [*, errW_none, errW_some] <;> rfl), by repeat (first | (with_reducible first | exact HB.out | apply below_alloc | apply pw_below_drewN | apply below_drew1) | exact HB.out)⟩

/-! ### spec_before: function 25 -/
def spec_before.l0 : Nat → List Int → Int → List Int → Option (Int)
  | 0, _, _, _ => none
  | k + 1, x0, x1, x2 => if x1 ≥ 0 then (if 0 ≤ x1 then (if x1 < (x0.length : Int) then ((spec_among.f k (rd x0 x1) x2).bind fun t167 => (if t167 = true then (spec_before.l0 k x0 (wrap64 (x1 - 1)) x2) else (some x1))) else (none)) else (none)) else (some x1)
def spec_before.f (k : Nat) (l0 : List Int) (a1 : Int) (l2 : List Int) : Option (Int) := spec_before.l0 k l0 (wrap64 (a1 - 1)) l2
theorem spec_before.mono_l : ∀ k, (∀ y0 y1 y2, LeO (spec_before.l0 k y0 y1 y2) (spec_before.l0 (k + 1) y0 y1 y2))
  | 0 => fun _ _ _ r h => by simp [spec_before.l0] at h
  | k + 1 => by
    have ih0 := spec_before.mono_l k
    · intro y0 y1 y2
      unfold spec_before.l0
      repeat' first
      | (with_reducible exact ih0 _ _ _)
      | (with_reducible exact spec_among.mono _ _ _)
      | (with_reducible exact LeO.refl _)
      | (with_reducible exact LeO.none _)
      | (with_reducible refine LeO.ite ?_ ?_)
      | (with_reducible refine LeO.bind ?_ (fun _ => ?_))
      | exact ih0 _ _ _
      | exact spec_among.mono _ _ _
      | exact LeO.none _
      | refine LeO.ite ?_ ?_
      | refine LeO.bind ?_ (fun _ => ?_)
theorem spec_before.mono : ∀ a0 a1 a2 k, LeO (spec_before.f k a0 a1 a2) (spec_before.f (k + 1) a0 a1 a2) := by
  intro a0 a1 a2 k
  have ih0 := spec_before.mono_l k
  unfold spec_before.f
  repeat' first
      | (with_reducible exact ih0 _ _ _)
      | (with_reducible exact spec_among.mono _ _ _)
      | (with_reducible exact LeO.refl _)
      | (with_reducible exact LeO.none _)
      | (with_reducible refine LeO.ite ?_ ?_)
      | (with_reducible refine LeO.bind ?_ (fun _ => ?_))
      | exact ih0 _ _ _
      | exact spec_among.mono _ _ _
      | exact LeO.none _
      | refine LeO.ite ?_ ?_
      | refine LeO.bind ?_ (fun _ => ?_)
set_option maxHeartbeats 8000000 in
set_option maxRecDepth 100000 in
theorem spec_before.calls (k : Nat) (A0 : Option Addr) (c0 : Nat) (l0 : List Int) (a1 : Int) (A2 : Option Addr) (c2 : Nat) (l2 : List Int) (r : Int) (w : World) (hr0 : Kd.C (Kd.int .i64) w A0 l0.length l0) (hc0 : l0.length ≤ c0) (hr2 : Kd.C (Kd.int .i64) w A2 l2.length l2) (hc2 : l2.length ≤ c2) (h : spec_before.f k l0 a1 l2 = some r) :
    Calls Try.prog 25 #[.slice A0 l0.length c0, .int .i64 a1, .slice A2 l2.length c2] w fun e w' => e = .returned (.int .i64 r) ∧ Drawn0 w w' := by
  have HR0 := Aside0.mk hr0
  have HC0 := Aside0.mk hc0
  clear hr0 hc0
  have HR2 := Aside0.mk hr2
  have HC2 := Aside0.mk hc2
  clear hr2 hc2
  have H : (spec_before.l0 k l0 (wrap64 (a1 - 1)) l2) = some r := h
  clear h
  have H' := Aside0.mk H
  clear H
  go_enter Try.func25, Try.ntmps25
  go_wp2
  go_loopg [1] k (fun kq v1 w' => ∃ (x1_1 : Int), v1 = .int .i64 x1_1 ∧ Aside0 (spec_before.l0 kq l0 x1_1 l2 = some r) ∧ Aside0 (kq ≤ k) ∧ Drawn0 w w')
  case atStart => exact ⟨(wrap64 (a1 - 1)), (by first | rfl | (simp; done) | (simp [*]; done)), H', ⟨Nat.le_refl _⟩, by repeat (first | exact Drawn0.refl _ | apply Drawn0.step)⟩
  case round =>
    clear H'
    try clear c2
    try clear p2
    obtain ⟨x1_1, rfl, HA, HK1, ⟨m1, rfl⟩⟩ := hrel
    cases gk with
    | zero => exact absurd HA.out (by simp [spec_before.l0])
    | succ k1 =>
      have H := HA.out
      clear HA
      simp only [spec_before.l0] at H
      by_cases c4 : x1_1 ≥ 0
      · rw [if_pos c4] at H
        have c4b0 : decide (0 ≤ x1_1) = true := decide_eq_true c4
        clear c4
        by_cases c5 : 0 ≤ x1_1
        · rw [if_pos c5] at H
          have c5b0 : decide (0 ≤ x1_1) = true := decide_eq_true c5
          clear c5
          by_cases c6 : x1_1 < (l0.length : Int)
          · rw [if_pos c6] at H
            have c6b0 : decide (x1_1 < (l0.length : Int)) = true := decide_eq_true c6
            clear c6
            replace H := Option.bind_eq_some_iff.mp H
            obtain ⟨t167, A70, H⟩ := H
            replace H : (if t167 = true then (spec_before.l0 k1 l0 (wrap64 (x1_1 - 1)) l2) else (some x1_1)) = some r := H
            have A7 := Aside0.mk A70
            clear A70
            by_cases c8 : t167 = true
            · subst c8
              have H1 : (spec_before.l0 k1 l0 (wrap64 (x1_1 - 1)) l2) = some r := by rw [if_pos rfl] at H; exact H
              clear H
              have H := H1
              clear H1
              have H' := Aside0.mk H
              clear H
              have p166 : 0 ≤ (x1_1 : Int) := of_decide_eq_true (by first | (with_reducible assumption) | assumption)
              have q166 : x1_1 < (l0.length : Int) := of_decide_eq_true (by first | (with_reducible assumption) | assumption)
              obtain ⟨ad166, e166, hx166_0⟩ := Kd.at_int HR0.out x1_1 p166 q166
              cases e166
              replace p166 := eq_true p166
              replace q166 := eq_true q166
              go_wp2_with (first | (go_at_call 42; (with_reducible refine (spec_among.calls k1 (rd l0 x1_1) _ _ l2 true _ ?side1 ?side2 A7.out).mono ?_); (case side1 => repeat (first | exact HR2.out | (with_reducible refine Kd.C_alloc ?_ _) | (with_reducible refine Kd.C_drewN ?_ _) | (with_reducible refine Kd.C_drew ?_))); (case side2 => exact HC2.out); rintro e w' ⟨rfl, ⟨nd, rfl⟩⟩))
              go_roundg k1
              case measure => have := HK1.out; omega
              case rel => exact ⟨(wrap64 (x1_1 - 1)), (by first | rfl | (simp; done) | (simp [*]; done)), H', ⟨by have := HK1.out; omega⟩, by repeat (first | exact Drawn0.refl _ | apply Drawn0.step)⟩
            · replace c8 := Bool.eq_false_iff.mpr c8
              subst c8
              have H1 : (some x1_1) = some r := by rw [if_neg (show ¬ (false = true) by decide)] at H; exact H
              clear H
              have H := H1
              clear H1
              obtain rfl := Option.some.inj H
              have p166 : 0 ≤ (x1_1 : Int) := of_decide_eq_true (by first | (with_reducible assumption) | assumption)
              have q166 : x1_1 < (l0.length : Int) := of_decide_eq_true (by first | (with_reducible assumption) | assumption)
              obtain ⟨ad166, e166, hx166_0⟩ := Kd.at_int HR0.out x1_1 p166 q166
              cases e166
              replace p166 := eq_true p166
              replace q166 := eq_true q166
              go_wp2_with (first | (go_at_call 42; (with_reducible refine (spec_among.calls k1 (rd l0 x1_1) _ _ l2 false _ ?side1 ?side2 A7.out).mono ?_); (case side1 => repeat (first | exact HR2.out | (with_reducible refine Kd.C_alloc ?_ _) | (with_reducible refine Kd.C_drewN ?_ _) | (with_reducible refine Kd.C_drew ?_))); (case side2 => exact HC2.out); rintro e w' ⟨rfl, ⟨nd, rfl⟩⟩))
              go_ret
              exact ⟨by first | rfl | (simp; done) | (simp [*]; done), by repeat (first | exact Drawn0.refl _ | apply Drawn0.step)⟩
          · rw [if_neg c6] at H
            exact absurd H (by simp)
        · rw [if_neg c5] at H
          exact absurd H (by simp)
      · rw [if_neg c4] at H
        have c4b0 : decide (0 ≤ x1_1) = false := decide_eq_false c4
        clear c4
        obtain rfl := Option.some.inj H
        go_wp2
        go_ret
        exact ⟨by first | rfl | (simp; done) | (simp [*]; done), by repeat (first | exact Drawn0.refl _ | apply Drawn0.step)⟩

end Go.Proofs.Ytnanfoahimccpaa.PFnGraphemeRow
