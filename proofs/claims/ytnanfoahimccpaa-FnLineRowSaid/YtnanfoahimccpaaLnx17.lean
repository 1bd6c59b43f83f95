/- Functions of the translation as Lean functions, and their walks: lines written by a program, a turned copy of the kit's print. -/
import Derived.Test.YtnanfoahimccpaaLnx0
import Derived.Test.YtnanfoahimccpaaLnx1
import Derived.Test.YtnanfoahimccpaaLbAsk
namespace Go.Proofs.Ytnanfoahimccpaa.Ln
open Go.RowKit Go.Proofs.YtnanfoahimccpaaW.PrintWords Go.Proofs.YtnanfoahimccpaaW.PrintLast Go.Proofs.YtnanfoahimccpaaW.PrintMore
attribute [local go_sem] max2_int max_two
set_option linter.unusedVariables false
set_option linter.unusedSimpArgs false

noncomputable section
def impl_behind.f (l0 : List Int) (a1 : Int) (l2 : List Int) : Option Int := some a1
def zzg (ks : List Int) (i : Int) (l : List Int) (s p gc ea gr : Int) : Option (Int × Int) := if l = Lb.klist then Lb.zzf ks i s p gc ea gr else none
theorem zzg_eq {ks : List Int} {i : Int} {l : List Int} {s p gc ea gr : Int} {r : Int × Int} (h : zzg ks i l s p gc ea gr = some r) : Lb.zzf ks i s p gc ea gr = some r ∧ l = Lb.klist := by
 unfold zzg at h
 split at h
 ·rename_i hl; exact ⟨h, hl⟩
 ·exact absurd h (by simp)
mutual
def impl_LineBreaks.l0 : Nat → List (S62) → List Int → List (S62) → Int → Int → Option (List Int)
 | 0, _, _, _, _, _ => none
 | k + 1, x0, x3, x12, x13, x14 => if x14 < x13 then (if 0 ≤ x14 then (if x14 < (x12.length : Int) then (if x3.length < 17592186044416 then (impl_LineBreaks.l0 k x0 (x3 ++ [(rd_T62 x12 x14).f0]) x12 x13 (wrap64 (x14 + 1))) else (none)) else (none)) else (none)) else ((impl_lines.f).bind fun t412 => (impl_LineBreaks.l1 k ([] : List Int) x3 (-1) t412 x0 (x0.length : Int) 0))
def impl_LineBreaks.l1 : Nat → List Int → List Int → Int → List Int → List (S62) → Int → Int → Option (List Int)
 | 0, _, _, _, _, _, _, _ => none
 | k + 1, x2, x3, x6, x7, x25, x26, x27 => if x27 < x26 then (if 0 ≤ x27 then (if x27 < (x25.length : Int) then ((impl_numberOf.f x7 ((rd_T62 x25 x27).f0)).bind fun t417 => ((impl_generals.f).bind fun t418 => ((impl_numberOf.f t418 ((rd_T62 x25 x27).f1)).bind fun t421 => ((impl_easts.f).bind fun t422 => ((impl_numberOf.f t422 ((rd_T62 x25 x27).f2)).bind fun t425 => ((impl_graphemes.f).bind fun t426 => ((impl_numberOf.f t426 ((rd_T62 x25 x27).f3)).bind fun t429 => ((impl_behind.f x3 (wrap64 (x27 + 1)) x7).bind fun t430 => ((zzg x3 x27 x7 x6 t417 t421 t425 t429).bind fun bt431 => (if x27 > 0 then (if x2.length < 17592186044416 then (impl_LineBreaks.l1 k (x2 ++ [bt431.2]) x3 bt431.1 x7 x25 x26 (wrap64 (x27 + 1))) else (none)) else (impl_LineBreaks.l1 k x2 x3 bt431.1 x7 x25 x26 (wrap64 (x27 + 1))))))))))))) else (none)) else (none)) else (some x2)
end
def impl_LineBreaks.f (k : Nat) (l0 : List (S62)) : Option (List Int) := impl_LineBreaks.l0 k l0 ([] : List Int) l0 (l0.length : Int) 0
def impl_LineBreaks.T11 : Bool × List (List Nat × List Nat) := (true, [([], []), ([], []), ([], []), ([2], [2]), ([1, 3], [1, 3]), ([4], []), ([], []), ([6], [6]), ([5, 7, 5], [5, 7]), ([8], []), ([], []), ([10], [10]), ([9, 11, 9], [9, 11]), ([12], []), ([], []), ([14], [14]), ([13, 15, 13], [13, 15]), ([], []), ([], []), ([18], [18]), ([], []), ([17, 19, 20, 16], [17, 19, 20]), ([0, 4, 8, 12, 16, 21, 21], [0, 4, 8, 12, 16, 21]), ([22], [22]), ([23], [23]), ([23], [23]), ([24, 22, 0, 1, 2, 3, 4, 5, 6, 7, 8, 9, 10, 11, 12, 13, 14, 15, 16, 17, 18, 19, 20, 21, 22, 23, 24], [24]), ([25, 26, 0, 1, 2, 3, 4, 5, 6, 7, 8, 9, 10, 11, 12, 13, 14, 15, 16, 17, 18, 19, 20, 21, 22, 23, 24, 25, 26], [25])])
def impl_LineBreaks.B11 : List Nat := [0, 0, 0, 4, 14, 30, 0, 64, 254, 510, 0, 1024, 4094, 8190, 0, 16384, 65534, 0, 0, 262144, 0, 2097150, 4194303, 8388607, 16777215, 16777215, 33554431, 134217727]
theorem impl_LineBreaks.tab11 : rtab .any (opsOf Try.f20 11) = impl_LineBreaks.T11 := by kernel_rfl
theorem impl_LineBreaks.bits11 : waitsOk impl_LineBreaks.T11.2 impl_LineBreaks.B11 = true := by kernel_rfl
set_option maxHeartbeats 8000000 in
set_option maxRecDepth 100000 in
theorem impl_LineBreaks.calls (k : Nat) (A0 : Option Addr) (c0 : Nat) (l0 : List (S62)) (r : List Int) (w : World) (hr0 : Kd.C k62 w A0 l0.length l0) (hc0 : l0.length ≤ c0) (h : impl_LineBreaks.f k l0 = some r) :
  Calls Try.prog 20 #[.slice A0 l0.length c0] w fun e w' => ∃ v0_ : Value, e = .returned (v0_) ∧ Kd.R (Kd.int .i64) 3 w' w.heap.size (fun _ => True) v0_ r ∧ Below w.heap.size w w' := by
 have hu62 := Try.underlying62
 have HR0 := Aside0.mk hr0
 have HC0 := Aside0.mk hc0
 clear hr0 hc0
 have HB := Aside0.mk (Below.refl w.heap.size w)
 have H : (impl_LineBreaks.l0 k l0 ([] : List Int) l0 (l0.length : Int) 0) = some r := h
 clear h
 have H' := Aside0.mk H
 clear H
 go_enter Try.func20, Try.ntmps20
 go_wp2
 go_loopg [3, 14] k (fun kq v3 v14 w' => ∃ (x3_1 : List Int) (x14_1 : Int), v14 = .int .i64 x14_1 ∧ Aside0 (impl_LineBreaks.l0 kq l0 x3_1 l0 (l0.length : Int) x14_1 = some r) ∧ Aside0 (kq ≤ k) ∧ Aside0 (Kd.R (Kd.int .i64) 3 w' w.heap.size (fun _ => True) v3 x3_1) ∧ Aside0 (Below w.heap.size w w'))
 case atStart => exact ⟨(([] : List Int)), (0), vz, H', ⟨Nat.le_refl _⟩, ⟨by first | exact Kd.R_nil _ _ _ _ _ | exact Kd.N_nil _ _ _ _ _ | exact Kd.V_nil _ _ _ _ _ | exact Kd.Q_nil _ _ _ _ _ | exact Kd.S_nil _ _ _ _ _⟩, ⟨bz⟩⟩
 case round =>
  clear H'
  obtain ⟨x3_1, x14_1, rfl, HA, HK1, HO_3, HB⟩ := hrel
  cases gk with
  | zero => exact absurd HA.out (by simp [impl_LineBreaks.l0])
  | succ k1 =>
   have H := HA.out
   clear HA
   simp only [impl_LineBreaks.l0] at H
   by_cases c2 : x14_1 < (l0.length : Int)
   ·rw [if_pos c2] at H
    have c2b0 : decide (x14_1 < (l0.length : Int)) = true := decide_eq_true c2
    clear c2
    by_cases c3 : 0 ≤ x14_1
    ·rw [if_pos c3] at H
     have c3b0 : decide (0 ≤ x14_1) = true := decide_eq_true c3
     clear c3
     by_cases c4 : x14_1 < (l0.length : Int)
     ·rw [if_pos c4] at H
      have c4b0 : decide (x14_1 < (l0.length : Int)) = true := decide_eq_true c4
      clear c4
      by_cases c5 : x3_1.length < 17592186044416
      ·rw [if_pos c5] at H
       have LMc5 := Aside0.mk c5
       clear c5
       obtain ⟨y409, hy409⟩ : ∃ y_ : List Int, y_ = (x3_1 ++ [(rd_T62 l0 x14_1).f0]) := ⟨_, rfl⟩
       first | rw [← hy409] at H | simp only [← hy409] at H
       have Ny409 := Aside0.mk hy409
       clear hy409
       have H' := Aside0.mk H
       clear H
       have p407 : 0 ≤ (x14_1 : Int) := of_decide_eq_true az
       have q407 : x14_1 < (l0.length : Int) := of_decide_eq_true az
       obtain ⟨ad407, e407, hx407_0, hx407_1, hx407_2, hx407_3⟩ := at_T62 HR0.out x14_1 p407 q407
       cases e407
       replace hx407_0 := (HB.out.cell (World.block_lt_of_cell? w _ hx407_0)).trans hx407_0
       replace hx407_1 := (HB.out.cell (World.block_lt_of_cell? w _ hx407_1)).trans hx407_1
       replace hx407_2 := (HB.out.cell (World.block_lt_of_cell? w _ hx407_2)).trans hx407_2
       replace hx407_3 := (HB.out.cell (World.block_lt_of_cell? w _ hx407_3)).trans hx407_3
       replace p407 := eq_true p407
       replace q407 := eq_true q407
       go_wp2_with (first | ((with_reducible refine gate_dst (N := 5) rfl ?_); refine box_event ?hg (N := 5) ?hd (cs := #[.int .i64 0, .int .i64 0, .int .i64 0, .int .i64 0]) (t := 62) ?hr ?_; (case hd => rfl); (case hg => rfl); (case hr => first | (go_simp; done) | (go_simp; rfl)); intro gb408 hg w6 hbox hb; have n0_ := Aside0.mk (Kd.R_below (by (with_reducible repeat (first | apply Kd.R_alloc | apply Kd.R_drewN | apply Kd.R_drew)); exact HO_3.out) hb); have n1_ := Aside0.mk (below_step bz hb); have n2_ := Aside0.mk (hbox); have n3_ := Aside0.mk ((by rw [hg]; exact (below_size bz) : w.heap.size ≤ gb408)); have n4_ := Aside0.mk ((by rw [hg]; exact (below_size bz) : w.heap.size ≤ gb408)); clear HO_3; clear HB; have HO_3 := n0_; have HB := n1_; have BK408 := n2_; have GW408 := n3_; have GE408 := n4_; clear n0_ n1_ n2_ n3_ n4_; clear hb hbox hg; have hcz7_0 : w6.cell? ⟨gb408, 0, none⟩ = some (.int .i64 0) := (blk_cell BK408.out 0).trans rfl; have hcz7_1 : w6.cell? ⟨gb408, 1, none⟩ = some (.int .i64 0) := (blk_cell BK408.out 1).trans rfl; have hcz7_2 : w6.cell? ⟨gb408, 2, none⟩ = some (.int .i64 0) := (blk_cell BK408.out 2).trans rfl; have hcz7_3 : w6.cell? ⟨gb408, 3, none⟩ = some (.int .i64 0) := (blk_cell BK408.out 3).trans rfl; have hfz7_0 := blk_frozen BK408.out 0; have hfz7_1 := blk_frozen BK408.out 1; have hfz7_2 := blk_frozen BK408.out 2; have hfz7_3 := blk_frozen BK408.out 3) | ((with_reducible refine gate_builtin (b := .append) (xs := #[.tmp 18, .tmp 21]) rfl ?_); at_builtin; refine Kd.R_append (Kd.int .i64) (w0 := w) w.heap.size rfl (.tmp 18) (.tmp 21) 23 3 (.int .i64 0) 8 rfl Try.underlying23 info3 rfl (by decide) (by omega) u3 x3_1 ((rd_T62 l0 x14_1).f0) [.int .i64 ((rd_T62 l0 x14_1).f0)] (fun _ => True) (fun _ => False) rfl (by first | (go_simp; done) | (go_simp; rfl)) ?aP (fun _ hk => hk.elim) ?aF ?aO ?aB ?aS ?aL ?_; (case aP => exact rfl); (case aB => exact bs); (case aF => exact (fun _ _ => trivial)); (case aO => exact (by (with_reducible repeat (first | apply Kd.R_alloc | apply Kd.R_drewN | apply Kd.R_drew)); exact Kd.R_mono (Kd.R_far (p := ⟨gb408, 3, none⟩) (Kd.R_far (p := ⟨gb408, 2, none⟩) (Kd.R_far (p := ⟨gb408, 1, none⟩) (Kd.R_far (p := ⟨gb408, 0, none⟩) (Kd.R_types HO_3.out BK408.out (by decide)) (fun _ hk => hk.2) (.int .i64 ((rd_T62 l0 x14_1).f0))) (fun _ hk => hk.2) (.int .i64 ((rd_T62 l0 x14_1).f1))) (fun _ hk => hk.2) (.int .i64 ((rd_T62 l0 x14_1).f2))) (fun _ hk => hk.2) (.int .i64 ((rd_T62 l0 x14_1).f3))) (fun _ hk => trivial))); (case aS => exact (below_size bs)); (case aL => have := LMc5.out; omega); intro v410 w8 ho hb hg hat; rw [← Ny409.out] at ho; have n0_ := Aside0.mk (blk_grown (g := gb408) (o := .cells #[.int .i64 ((rd_T62 l0 x14_1).f0), .int .i64 ((rd_T62 l0 x14_1).f1), .int .i64 ((rd_T62 l0 x14_1).f2), .int .i64 ((rd_T62 l0 x14_1).f3)] 62 (0, 0)) (by (with_reducible repeat (first | refine blk_drewN ?_ _ | refine blk_drew ?_ | refine blk_alloc ?_ _)); refine blk_put (cs := #[.int .i64 ((rd_T62 l0 x14_1).f0), .int .i64 ((rd_T62 l0 x14_1).f1), .int .i64 ((rd_T62 l0 x14_1).f2), .int .i64 0]) ?_ 3 _ rfl; (with_reducible repeat (first | refine blk_drewN ?_ _ | refine blk_drew ?_ | refine blk_alloc ?_ _)); refine blk_put (cs := #[.int .i64 ((rd_T62 l0 x14_1).f0), .int .i64 ((rd_T62 l0 x14_1).f1), .int .i64 0, .int .i64 0]) ?_ 2 _ rfl; (with_reducible repeat (first | refine blk_drewN ?_ _ | refine blk_drew ?_ | refine blk_alloc ?_ _)); refine blk_put (cs := #[.int .i64 ((rd_T62 l0 x14_1).f0), .int .i64 0, .int .i64 0, .int .i64 0]) ?_ 1 _ rfl; (with_reducible repeat (first | refine blk_drewN ?_ _ | refine blk_drew ?_ | refine blk_alloc ?_ _)); refine blk_put (cs := #[.int .i64 0, .int .i64 0, .int .i64 0, .int .i64 0]) ?_ 0 _ rfl; (with_reducible repeat (first | refine blk_drewN ?_ _ | refine blk_drew ?_ | refine blk_alloc ?_ _)); exact BK408.out) hg (Kd.R_ne HO_3.out BK408.out (by decide))); have n1_ := Aside0.mk (hb); have n2_ := Aside0.mk (ho); clear BK408; clear HB; clear HO_3; have BK408 := n0_; have HB := n1_; have HO411 := n2_; clear n0_ n1_ n2_; clear ho hb hg hat))
       go_roundg k1
       case measure => have := HK1.out; omega
       case rel => exact ⟨(y409), (wrap64 (x14_1 + 1)), vz, H', ⟨by have := HK1.out; omega⟩, ⟨by (with_reducible repeat (first | apply Kd.R_alloc | apply Kd.R_drewN | apply Kd.R_drew)); exact HO411.out⟩, ⟨bs⟩⟩
      ·rw [if_neg c5] at H
       exact absurd H (by simp)
     ·rw [if_neg c4] at H
      exact absurd H (by simp)
    ·rw [if_neg c3] at H
     exact absurd H (by simp)
   ·rw [if_neg c2] at H
    have c2b0 : decide (x14_1 < (l0.length : Int)) = false := decide_eq_false c2
    clear c2
    replace H := Option.bind_eq_some_iff.mp H
    obtain ⟨t412, A90, H⟩ := H
    try dsimp only at H
    have A9 := Aside0.mk A90
    clear A90
    have H' := Aside0.mk H
    clear H
    go_wp2_with (first | ((with_reducible refine gate_callee (f := 48) rfl ?_); refine goesL_ (some 24) rfl rfl Try.func48 (by kernel_rfl) rfl #[] rfl mz ?_; (with_reducible refine (impl_lines.calls  t412 _ A9.out).mono ?_); rintro e w10 ⟨v413, rfl, ho0, hb⟩; refine ⟨_, rfl, ?_⟩; have n0_ := Aside0.mk (Kd.R_elder' (by (with_reducible repeat (first | apply Kd.R_alloc | apply Kd.R_drewN | apply Kd.R_drew)); exact HO_3.out) (Kd.R_base ho0) hb); have n1_ := Aside0.mk (Kd.R_lower (Kd.R_new' ho0 (Kd.R_lt (by (with_reducible repeat (first | apply Kd.R_alloc | apply Kd.R_drewN | apply Kd.R_drew)); exact HO_3.out))) (below_size bz)); have n2_ := Aside0.mk (below_step bz hb); clear HO_3; clear HB; have HO_3 := n0_; have HO414 := n1_; have HB := n2_; clear n0_ n1_ n2_; (try clear hb); (try clear hb2); (try clear hk); (try clear hi); (try clear ho0)))
    go_loopg [2, 6, 27] k1 (fun kq v2 v6 v27 w' => ∃ (x2_2 : List Int) (x6_2 : Int) (x27_2 : Int), v6 = .int .i64 x6_2 ∧ v27 = .int .i64 x27_2 ∧ Aside0 (impl_LineBreaks.l1 kq x2_2 x3_1 x6_2 t412 l0 (l0.length : Int) x27_2 = some r) ∧ Aside0 (kq ≤ k1) ∧ Aside0 (Kd.R (Kd.int .i64) 3 w' w.heap.size (fun k_ => some k_ ≠ (u3 : Value).ownBlock ∧ some k_ ≠ (v413 : Value).ownBlock) v2 x2_2) ∧ Aside0 (Kd.R (Kd.int .i64) 3 w' w.heap.size (fun k_ => some k_ ≠ (v2 : Value).ownBlock ∧ some k_ ≠ (v413 : Value).ownBlock) u3 x3_1) ∧ Aside0 (Kd.R (Kd.int .i64) 3 w' w.heap.size (fun k_ => some k_ ≠ (v2 : Value).ownBlock ∧ some k_ ≠ (u3 : Value).ownBlock) v413 t412) ∧ Aside0 (Below w.heap.size w w'))
    case atStart => exact ⟨(([] : List Int)), ((-1)), (0), vz, vz, H', ⟨Nat.le_refl _⟩, ⟨by first | exact Kd.R_nil _ _ _ _ _ | exact Kd.N_nil _ _ _ _ _ | exact Kd.V_nil _ _ _ _ _ | exact Kd.Q_nil _ _ _ _ _ | exact Kd.S_nil _ _ _ _ _⟩, ⟨by (with_reducible repeat (first | apply Kd.R_alloc | apply Kd.R_drewN | apply Kd.R_drew)); exact Kd.R_mono HO_3.out (fun _ hk => ⟨(by simp [Value.ownBlock]), hk.2⟩)⟩, ⟨by (with_reducible repeat (first | apply Kd.R_alloc | apply Kd.R_drewN | apply Kd.R_drew)); exact Kd.R_mono HO414.out (fun _ hk => ⟨(by simp [Value.ownBlock]), hk.2⟩)⟩, ⟨bz⟩⟩
    case round =>
     clear H'
     obtain ⟨x2_2, x6_2, x27_2, rfl, rfl, HA, HK2, HO_2, HO_3, HO_7, HB⟩ := hrel
     cases gk with
     | zero => exact absurd HA.out (by simp [impl_LineBreaks.l1])
     | succ k2 =>
      have H := HA.out
      clear HA
      simp only [impl_LineBreaks.l1] at H
      by_cases c11 : x27_2 < (l0.length : Int)
      ·rw [if_pos c11] at H
       have c11b0 : decide (x27_2 < (l0.length : Int)) = true := decide_eq_true c11
       clear c11
       by_cases c12 : 0 ≤ x27_2
       ·rw [if_pos c12] at H
        have c12b0 : decide (0 ≤ x27_2) = true := decide_eq_true c12
        clear c12
        by_cases c13 : x27_2 < (l0.length : Int)
        ·rw [if_pos c13] at H
         have c13b0 : decide (x27_2 < (l0.length : Int)) = true := decide_eq_true c13
         clear c13
         replace H := Option.bind_eq_some_iff.mp H
         obtain ⟨t417, A140, H⟩ := H
         try dsimp only at H
         have A14 := Aside0.mk A140
         clear A140
         replace H := Option.bind_eq_some_iff.mp H
         obtain ⟨t418, A150, H⟩ := H
         try dsimp only at H
         have A15 := Aside0.mk A150
         clear A150
         replace H := Option.bind_eq_some_iff.mp H
         obtain ⟨t421, A160, H⟩ := H
         try dsimp only at H
         have A16 := Aside0.mk A160
         clear A160
         replace H := Option.bind_eq_some_iff.mp H
         obtain ⟨t422, A170, H⟩ := H
         try dsimp only at H
         have A17 := Aside0.mk A170
         clear A170
         replace H := Option.bind_eq_some_iff.mp H
         obtain ⟨t425, A180, H⟩ := H
         try dsimp only at H
         have A18 := Aside0.mk A180
         clear A180
         replace H := Option.bind_eq_some_iff.mp H
         obtain ⟨t426, A190, H⟩ := H
         try dsimp only at H
         have A19 := Aside0.mk A190
         clear A190
         replace H := Option.bind_eq_some_iff.mp H
         obtain ⟨t429, A200, H⟩ := H
         try dsimp only at H
         have A20 := Aside0.mk A200
         clear A200
         replace H := Option.bind_eq_some_iff.mp H
         obtain ⟨t430, A210, H⟩ := H
         try dsimp only at H
         have A21 := Aside0.mk A210
         clear A210
         replace H := Option.bind_eq_some_iff.mp H
         obtain ⟨⟨t431, t432⟩, A220, H⟩ := H
         try dsimp only at H
         have A22 := Aside0.mk A220
         clear A220
         by_cases c23 : x27_2 > 0
         ·rw [if_pos c23] at H
          have c23b0 : decide (0 < x27_2) = true := decide_eq_true c23
          clear c23
          by_cases c24 : x2_2.length < 17592186044416
          ·rw [if_pos c24] at H
           have LMc24 := Aside0.mk c24
           clear c24
           obtain ⟨y433, hy433⟩ : ∃ y_ : List Int, y_ = (x2_2 ++ [t432]) := ⟨_, rfl⟩
           first | rw [← hy433] at H | simp only [← hy433] at H
           have Ny433 := Aside0.mk hy433
           clear hy433
           have H' := Aside0.mk H
           clear H
           have p415 : 0 ≤ (x27_2 : Int) := of_decide_eq_true az
           have q415 : x27_2 < (l0.length : Int) := of_decide_eq_true az
           obtain ⟨ad415, e415, hx415_0, hx415_1, hx415_2, hx415_3⟩ := at_T62 HR0.out x27_2 p415 q415
           cases e415
           replace hx415_0 := (HB.out.cell (World.block_lt_of_cell? w _ hx415_0)).trans hx415_0
           replace hx415_1 := (HB.out.cell (World.block_lt_of_cell? w _ hx415_1)).trans hx415_1
           replace hx415_2 := (HB.out.cell (World.block_lt_of_cell? w _ hx415_2)).trans hx415_2
           replace hx415_3 := (HB.out.cell (World.block_lt_of_cell? w _ hx415_3)).trans hx415_3
           replace p415 := eq_true p415
           replace q415 := eq_true q415
           try go_wp2_with (first | ((with_reducible refine gate_dst (N := 9) rfl ?_); refine box_event ?hg (N := 9) ?hd (cs := #[.int .i64 0, .int .i64 0, .int .i64 0, .int .i64 0]) (t := 62) ?hr ?_; (case hd => rfl); (case hg => rfl); (case hr => first | (go_simp; done) | (go_simp; rfl)); intro gb416 hg w25 hbox hb; have n0_ := Aside0.mk (Kd.R_below (by (with_reducible repeat (first | apply Kd.R_alloc | apply Kd.R_drewN | apply Kd.R_drew)); exact HO_2.out) hb); have n1_ := Aside0.mk (Kd.R_below (by (with_reducible repeat (first | apply Kd.R_alloc | apply Kd.R_drewN | apply Kd.R_drew)); exact HO_3.out) hb); have n2_ := Aside0.mk (Kd.R_below (by (with_reducible repeat (first | apply Kd.R_alloc | apply Kd.R_drewN | apply Kd.R_drew)); exact HO_7.out) hb); have n3_ := Aside0.mk (below_step bz hb); have n4_ := Aside0.mk (hbox); have n5_ := Aside0.mk ((by rw [hg]; exact (below_size bz) : w.heap.size ≤ gb416)); have n6_ := Aside0.mk ((by rw [hg]; exact (below_size bz) : w.heap.size ≤ gb416)); clear HO_2; clear HO_3; clear HO_7; clear HB; have HO_2 := n0_; have HO_3 := n1_; have HO_7 := n2_; have HB := n3_; have BK416 := n4_; have GW416 := n5_; have GE416 := n6_; clear n0_ n1_ n2_ n3_ n4_ n5_ n6_; clear hb hbox hg; have hcz26_0 : w25.cell? ⟨gb416, 0, none⟩ = some (.int .i64 0) := (blk_cell BK416.out 0).trans rfl; have hcz26_1 : w25.cell? ⟨gb416, 1, none⟩ = some (.int .i64 0) := (blk_cell BK416.out 1).trans rfl; have hcz26_2 : w25.cell? ⟨gb416, 2, none⟩ = some (.int .i64 0) := (blk_cell BK416.out 2).trans rfl; have hcz26_3 : w25.cell? ⟨gb416, 3, none⟩ = some (.int .i64 0) := (blk_cell BK416.out 3).trans rfl; have hfz26_0 := blk_frozen BK416.out 0; have hfz26_1 := blk_frozen BK416.out 1; have hfz26_2 := blk_frozen BK416.out 2; have hfz26_3 := blk_frozen BK416.out 3))
           have n0_ : Aside0 (Kd.R (Kd.int .i64) 3 ((((w25.setCell ⟨gb416, 0, none⟩ (.int .i64 ((rd_T62 l0 x27_2).f0))).setCell ⟨gb416, 1, none⟩ (.int .i64 ((rd_T62 l0 x27_2).f1))).setCell ⟨gb416, 2, none⟩ (.int .i64 ((rd_T62 l0 x27_2).f2))).setCell ⟨gb416, 3, none⟩ (.int .i64 ((rd_T62 l0 x27_2).f3))) w.heap.size (fun k_ => some k_ ≠ (u3 : Value).ownBlock ∧ some k_ ≠ (v413 : Value).ownBlock) u2 x2_2) := ⟨by (with_reducible repeat (first | apply Kd.R_alloc | apply Kd.R_drewN | apply Kd.R_drew)); exact Kd.R_mono (Kd.R_far (p := ⟨gb416, 3, none⟩) (Kd.R_far (p := ⟨gb416, 2, none⟩) (Kd.R_far (p := ⟨gb416, 1, none⟩) (Kd.R_far (p := ⟨gb416, 0, none⟩) (Kd.R_types HO_2.out BK416.out (by decide)) (fun _ hk => hk.2) (.int .i64 ((rd_T62 l0 x27_2).f0))) (fun _ hk => hk.2) (.int .i64 ((rd_T62 l0 x27_2).f1))) (fun _ hk => hk.2) (.int .i64 ((rd_T62 l0 x27_2).f2))) (fun _ hk => hk.2) (.int .i64 ((rd_T62 l0 x27_2).f3))) (fun _ hk => ⟨hk.1.1, hk.1.2⟩)⟩
           have n1_ : Aside0 (Kd.R (Kd.int .i64) 3 ((((w25.setCell ⟨gb416, 0, none⟩ (.int .i64 ((rd_T62 l0 x27_2).f0))).setCell ⟨gb416, 1, none⟩ (.int .i64 ((rd_T62 l0 x27_2).f1))).setCell ⟨gb416, 2, none⟩ (.int .i64 ((rd_T62 l0 x27_2).f2))).setCell ⟨gb416, 3, none⟩ (.int .i64 ((rd_T62 l0 x27_2).f3))) w.heap.size (fun k_ => some k_ ≠ (u2 : Value).ownBlock ∧ some k_ ≠ (v413 : Value).ownBlock) u3 x3_1) := ⟨by (with_reducible repeat (first | apply Kd.R_alloc | apply Kd.R_drewN | apply Kd.R_drew)); exact Kd.R_mono (Kd.R_far (p := ⟨gb416, 3, none⟩) (Kd.R_far (p := ⟨gb416, 2, none⟩) (Kd.R_far (p := ⟨gb416, 1, none⟩) (Kd.R_far (p := ⟨gb416, 0, none⟩) (Kd.R_types HO_3.out BK416.out (by decide)) (fun _ hk => hk.2) (.int .i64 ((rd_T62 l0 x27_2).f0))) (fun _ hk => hk.2) (.int .i64 ((rd_T62 l0 x27_2).f1))) (fun _ hk => hk.2) (.int .i64 ((rd_T62 l0 x27_2).f2))) (fun _ hk => hk.2) (.int .i64 ((rd_T62 l0 x27_2).f3))) (fun _ hk => ⟨hk.1.1, hk.1.2⟩)⟩
           have n2_ : Aside0 (Kd.R (Kd.int .i64) 3 ((((w25.setCell ⟨gb416, 0, none⟩ (.int .i64 ((rd_T62 l0 x27_2).f0))).setCell ⟨gb416, 1, none⟩ (.int .i64 ((rd_T62 l0 x27_2).f1))).setCell ⟨gb416, 2, none⟩ (.int .i64 ((rd_T62 l0 x27_2).f2))).setCell ⟨gb416, 3, none⟩ (.int .i64 ((rd_T62 l0 x27_2).f3))) w.heap.size (fun k_ => some k_ ≠ (u2 : Value).ownBlock ∧ some k_ ≠ (u3 : Value).ownBlock) v413 t412) := ⟨by (with_reducible repeat (first | apply Kd.R_alloc | apply Kd.R_drewN | apply Kd.R_drew)); exact Kd.R_mono (Kd.R_far (p := ⟨gb416, 3, none⟩) (Kd.R_far (p := ⟨gb416, 2, none⟩) (Kd.R_far (p := ⟨gb416, 1, none⟩) (Kd.R_far (p := ⟨gb416, 0, none⟩) (Kd.R_types HO_7.out BK416.out (by decide)) (fun _ hk => hk.2) (.int .i64 ((rd_T62 l0 x27_2).f0))) (fun _ hk => hk.2) (.int .i64 ((rd_T62 l0 x27_2).f1))) (fun _ hk => hk.2) (.int .i64 ((rd_T62 l0 x27_2).f2))) (fun _ hk => hk.2) (.int .i64 ((rd_T62 l0 x27_2).f3))) (fun _ hk => ⟨hk.1.1, hk.1.2⟩)⟩
           have n3_ : Aside0 (((((w25.setCell ⟨gb416, 0, none⟩ (.int .i64 ((rd_T62 l0 x27_2).f0))).setCell ⟨gb416, 1, none⟩ (.int .i64 ((rd_T62 l0 x27_2).f1))).setCell ⟨gb416, 2, none⟩ (.int .i64 ((rd_T62 l0 x27_2).f2))).setCell ⟨gb416, 3, none⟩ (.int .i64 ((rd_T62 l0 x27_2).f3))).heap[gb416]? = some (.cells #[.int .i64 ((rd_T62 l0 x27_2).f0), .int .i64 ((rd_T62 l0 x27_2).f1), .int .i64 ((rd_T62 l0 x27_2).f2), .int .i64 ((rd_T62 l0 x27_2).f3)] 62 (0, 0))) := ⟨by (with_reducible repeat (first | refine blk_drewN ?_ _ | refine blk_drew ?_ | refine blk_alloc ?_ _)); refine blk_put (cs := #[.int .i64 ((rd_T62 l0 x27_2).f0), .int .i64 ((rd_T62 l0 x27_2).f1), .int .i64 ((rd_T62 l0 x27_2).f2), .int .i64 0]) ?_ 3 _ rfl; (with_reducible repeat (first | refine blk_drewN ?_ _ | refine blk_drew ?_ | refine blk_alloc ?_ _)); refine blk_put (cs := #[.int .i64 ((rd_T62 l0 x27_2).f0), .int .i64 ((rd_T62 l0 x27_2).f1), .int .i64 0, .int .i64 0]) ?_ 2 _ rfl; (with_reducible repeat (first | refine blk_drewN ?_ _ | refine blk_drew ?_ | refine blk_alloc ?_ _)); refine blk_put (cs := #[.int .i64 ((rd_T62 l0 x27_2).f0), .int .i64 0, .int .i64 0, .int .i64 0]) ?_ 1 _ rfl; (with_reducible repeat (first | refine blk_drewN ?_ _ | refine blk_drew ?_ | refine blk_alloc ?_ _)); refine blk_put (cs := #[.int .i64 0, .int .i64 0, .int .i64 0, .int .i64 0]) ?_ 0 _ rfl; (with_reducible repeat (first | refine blk_drewN ?_ _ | refine blk_drew ?_ | refine blk_alloc ?_ _)); exact BK416.out⟩
           have n4_ : Aside0 (Below w.heap.size w ((((w25.setCell ⟨gb416, 0, none⟩ (.int .i64 ((rd_T62 l0 x27_2).f0))).setCell ⟨gb416, 1, none⟩ (.int .i64 ((rd_T62 l0 x27_2).f1))).setCell ⟨gb416, 2, none⟩ (.int .i64 ((rd_T62 l0 x27_2).f2))).setCell ⟨gb416, 3, none⟩ (.int .i64 ((rd_T62 l0 x27_2).f3)))) := ⟨bs⟩
           generalize ((((w25.setCell ⟨gb416, 0, none⟩ (.int .i64 ((rd_T62 l0 x27_2).f0))).setCell ⟨gb416, 1, none⟩ (.int .i64 ((rd_T62 l0 x27_2).f1))).setCell ⟨gb416, 2, none⟩ (.int .i64 ((rd_T62 l0 x27_2).f2))).setCell ⟨gb416, 3, none⟩ (.int .i64 ((rd_T62 l0 x27_2).f3))) = w27 at n0_ n1_ n2_ n3_ n4_ ⊢
           have HO_2 := n0_
           have HO_3 := n1_
           have HO_7 := n2_
           have BK416 := n3_
           have HB := n4_
           clear n0_ n1_ n2_ n3_ n4_
           have n0_ := Aside0.mk (Kd.R_drew HO_2.out)
           have n1_ := Aside0.mk (Kd.R_drew HO_3.out)
           have n2_ := Aside0.mk (Kd.R_drew HO_7.out)
           have n3_ := Aside0.mk (blk_drew BK416.out)
           have n4_ := Aside0.mk (below_drew1 HB.out)
           clear HO_2
           clear HO_3
           clear HO_7
           clear BK416
           clear HB
           have HO_2 := n0_
           have HO_3 := n1_
           have HO_7 := n2_
           have BK416 := n3_
           have HB := n4_
           clear n0_ n1_ n2_ n3_ n4_
           obtain ⟨Ao29, co29, eo29⟩ := Kd.R_slice HO_7.out
           (first | subst eo29 | (injection eo29 with f1_ f2_ f3_; have f4_ := f1_.symm; have f5_ := f3_.symm; clear f1_ f2_ f3_; subst f4_; subst f5_))
           refine start_ (n := 28) (S := fun w' => w'.cell? ⟨gb416, 0, none⟩ = some (.int .i64 ((rd_T62 l0 x27_2).f0)) ∧ w'.cell? ⟨gb416, 1, none⟩ = some (.int .i64 ((rd_T62 l0 x27_2).f1)) ∧ w'.cell? ⟨gb416, 2, none⟩ = some (.int .i64 ((rd_T62 l0 x27_2).f2)) ∧ w'.cell? ⟨gb416, 3, none⟩ = some (.int .i64 ((rd_T62 l0 x27_2).f3))) (ds := []) #[false, false, false, false, false, false, false, false, false, false, false, false, false, false, false, false, false, false, false, false, false, false, false, false, false, false, false, false] (by kernel_rfl) rfl rfl ⟨(blk_cell BK416.out 0).trans rfl, (blk_cell BK416.out 1).trans rfl, (blk_cell BK416.out 2).trans rfl, (blk_cell BK416.out 3).trans rfl⟩ (fun hHeld => ?_); refine with_tabW impl_LineBreaks.tab11 impl_LineBreaks.bits11 (fun HT_ HW_ => ?_)
           generalize w27.drew = w28 at HO_2 HO_3 HO_7 BK416 HB hHeld ⊢
           refine pure_ (i := 0) (N := some 33) (v := ?_) (a' := ?_) #[true, false, false, false, false, false, false, false, false, false, false, false, false, false, false, false, false, false, false, false, false, false, false, false, false, false, false, false] rfl rfl (any_of HT_.out (by kernel_rfl)) (fun _ _ _ h => h) (Or.inl ⟨by rfl, ?_⟩) ?_ ?_
           rotate_left
           ·intro w'
            go_simp
            with_reducible rfl
           rotate_left
           ·simp only [Act.put, List.setIfInBounds_toArray, List.set_cons_zero, List.set_cons_succ, i64_w]
            rfl
           refine pure_ (i := 1) (N := some 34) (v := ?_) (a' := ?_) #[true, true, false, false, false, false, false, false, false, false, false, false, false, false, false, false, false, false, false, false, false, false, false, false, false, false, false, false] rfl rfl (any_of HT_.out (by kernel_rfl)) (fun _ _ _ h => h) (Or.inl ⟨by rfl, ?_⟩) ?_ ?_
           rotate_left
           ·intro w'
            go_simp
            with_reducible rfl
           rotate_left
           ·simp only [Act.put, List.setIfInBounds_toArray, List.set_cons_zero, List.set_cons_succ, i64_w]
            rfl
           refine pure_ (i := 2) (N := some 35) (v := ?_) (a' := ?_) #[true, true, true, false, false, false, false, false, false, false, false, false, false, false, false, false, false, false, false, false, false, false, false, false, false, false, false, false] rfl rfl (any_of HT_.out (by kernel_rfl)) (fun _ _ _ h => h) (Or.inl ⟨by rfl, ?_⟩) ?_ ?_
           rotate_left
           ·intro w'
            go_simp
            with_reducible rfl
           rotate_left
           ·simp only [Act.put, List.setIfInBounds_toArray, List.set_cons_zero, List.set_cons_succ, i64_w]
            rfl
           refine pure_ (i := 6) (N := some 39) (v := ?_) (a' := ?_) #[true, true, true, false, false, false, true, false, false, false, false, false, false, false, false, false, false, false, false, false, false, false, false, false, false, false, false, false] rfl rfl (any_of HT_.out (by kernel_rfl)) (fun _ _ _ h => h) (Or.inl ⟨by rfl, ?_⟩) ?_ ?_
           rotate_left
           ·intro w'
            go_simp
            with_reducible rfl
           rotate_left
           ·simp only [Act.put, List.setIfInBounds_toArray, List.set_cons_zero, List.set_cons_succ, i64_w]
            rfl
           refine pure_ (i := 10) (N := some 43) (v := ?_) (a' := ?_) #[true, true, true, false, false, false, true, false, false, false, true, false, false, false, false, false, false, false, false, false, false, false, false, false, false, false, false, false] rfl rfl (any_of HT_.out (by kernel_rfl)) (fun _ _ _ h => h) (Or.inl ⟨by rfl, ?_⟩) ?_ ?_
           rotate_left
           ·intro w'
            go_simp
            with_reducible rfl
           rotate_left
           ·simp only [Act.put, List.setIfInBounds_toArray, List.set_cons_zero, List.set_cons_succ, i64_w]
            rfl
           refine pure_ (i := 14) (N := some 47) (v := ?_) (a' := ?_) #[true, true, true, false, false, false, true, false, false, false, true, false, false, false, true, false, false, false, false, false, false, false, false, false, false, false, false, false] rfl rfl (any_of HT_.out (by kernel_rfl)) (fun _ _ _ h => h) (Or.inl ⟨by rfl, ?_⟩) ?_ ?_
           rotate_left
           ·intro w'
            go_simp
            with_reducible rfl
           rotate_left
           ·simp only [Act.put, List.setIfInBounds_toArray, List.set_cons_zero, List.set_cons_succ, i64_w]
            rfl
           refine pure_ (i := 17) (N := some 50) (v := ?_) (a' := ?_) #[true, true, true, false, false, false, true, false, false, false, true, false, false, false, true, false, false, true, false, false, false, false, false, false, false, false, false, false] rfl rfl (any_of HT_.out (by kernel_rfl)) (fun _ _ _ h => h) (Or.inl ⟨by rfl, ?_⟩) ?_ ?_
           rotate_left
           ·intro w'
            go_simp
            with_reducible rfl
           rotate_left
           ·simp only [Act.put, List.setIfInBounds_toArray, List.set_cons_zero, List.set_cons_succ, i64_w]
            rfl
           refine pure_ (i := 18) (N := some 51) (v := ?_) (a' := ?_) #[true, true, true, false, false, false, true, false, false, false, true, false, false, false, true, false, false, true, true, false, false, false, false, false, false, false, false, false] rfl rfl (any_of HT_.out (by kernel_rfl)) (fun _ _ _ h => h) (Or.inl ⟨by rfl, ?_⟩) ?_ ?_
           rotate_left
           ·intro w'
            go_simp
            with_reducible rfl
           rotate_left
           ·simp only [Act.put, List.setIfInBounds_toArray, List.set_cons_zero, List.set_cons_succ, i64_w]
            rfl
           refine pure_ (i := 19) (N := some 52) (v := ?_) (a' := ?_) #[true, true, true, false, false, false, true, false, false, false, true, false, false, false, true, false, false, true, true, true, false, false, false, false, false, false, false, false] rfl rfl (any_of HT_.out (by kernel_rfl)) (fun _ _ _ h => h) (Or.inl ⟨by rfl, ?_⟩) ?_ ?_
           rotate_left
           ·intro w'
            go_simp
            with_reducible rfl
           rotate_left
           ·simp only [Act.put, List.setIfInBounds_toArray, List.set_cons_zero, List.set_cons_succ, i64_w]
            rfl
           refine pure_ (i := 20) (N := some 53) (v := ?_) (a' := ?_) #[true, true, true, false, false, false, true, false, false, false, true, false, false, false, true, false, false, true, true, true, true, false, false, false, false, false, false, false] rfl rfl (any_of HT_.out (by kernel_rfl)) (fun _ _ _ h => h) (Or.inl ⟨by rfl, ?_⟩) ?_ ?_
           rotate_left
           ·intro w'
            go_simp
            with_reducible rfl
           rotate_left
           ·simp only [Act.put, List.setIfInBounds_toArray, List.set_cons_zero, List.set_cons_succ, i64_w]
            rfl
           refine take_ (i := 3) (N := some 36) (v := ?_) (a' := ?_) #[true, true, true, true, false, false, true, false, false, false, true, false, false, false, true, false, false, true, true, true, true, false, false, false, false, false, false, false] rfl rfl (take_ofW HT_.out HW_.out (by kernel_rfl)) (fun _ _ _ h => h) (Or.inl ⟨by rfl, ?_⟩) hHeld ?_ ?_
           rotate_left
           ·rintro w' ⟨s0, s1, s2, s3⟩
            go_simp
            with_reducible rfl
           rotate_left
           ·simp only [Act.put, List.setIfInBounds_toArray, List.set_cons_zero, List.set_cons_succ, i64_w]
            rfl
           refine take_ (i := 7) (N := some 40) (v := ?_) (a' := ?_) #[true, true, true, true, false, false, true, true, false, false, true, false, false, false, true, false, false, true, true, true, true, false, false, false, false, false, false, false] rfl rfl (take_ofW HT_.out HW_.out (by kernel_rfl)) (fun _ _ _ h => h) (Or.inl ⟨by rfl, ?_⟩) hHeld ?_ ?_
           rotate_left
           ·rintro w' ⟨s0, s1, s2, s3⟩
            go_simp
            with_reducible rfl
           rotate_left
           ·simp only [Act.put, List.setIfInBounds_toArray, List.set_cons_zero, List.set_cons_succ, i64_w]
            rfl
           refine take_ (i := 11) (N := some 44) (v := ?_) (a' := ?_) #[true, true, true, true, false, false, true, true, false, false, true, true, false, false, true, false, false, true, true, true, true, false, false, false, false, false, false, false] rfl rfl (take_ofW HT_.out HW_.out (by kernel_rfl)) (fun _ _ _ h => h) (Or.inl ⟨by rfl, ?_⟩) hHeld ?_ ?_
           rotate_left
           ·rintro w' ⟨s0, s1, s2, s3⟩
            go_simp
            with_reducible rfl
           rotate_left
           ·simp only [Act.put, List.setIfInBounds_toArray, List.set_cons_zero, List.set_cons_succ, i64_w]
            rfl
           refine take_ (i := 15) (N := some 48) (v := ?_) (a' := ?_) #[true, true, true, true, false, false, true, true, false, false, true, true, false, false, true, true, false, true, true, true, true, false, false, false, false, false, false, false] rfl rfl (take_ofW HT_.out HW_.out (by kernel_rfl)) (fun _ _ _ h => h) (Or.inl ⟨by rfl, ?_⟩) hHeld ?_ ?_
           rotate_left
           ·rintro w' ⟨s0, s1, s2, s3⟩
            go_simp
            with_reducible rfl
           rotate_left
           ·simp only [Act.put, List.setIfInBounds_toArray, List.set_cons_zero, List.set_cons_succ, i64_w]
            rfl
           refine one_ (i := 4) (N := some 37) #[true, true, true, true, true, false, true, true, false, false, true, true, false, false, true, true, false, true, true, true, true, false, false, false, false, false, false, false] rfl rfl (one_of HT_.out (by kernel_rfl)) (by decide) (fun K hK => ?_)
           refine goes_ Try.func23 (by kernel_rfl) rfl #[.slice Ao29 t412.length co29, .int .i64 ((rd_T62 l0 x27_2).f0)] (by rfl) rfl rfl mz ?_
           with_reducible refine (impl_numberOf.calls _ _ t412 ((rd_T62 l0 x27_2).f0) t417 _ ?side1 ?side2 A14.out).mono ?_
           (case side1 => repeat (first | exact (Kd.R_reads' HO_7.out).2.2 | (with_reducible refine Kd.C_alloc ?_ _) | (with_reducible refine Kd.C_drewN ?_ _) | (with_reducible refine Kd.C_drew ?_)))
           (case side2 => exact (Kd.R_reads' HO_7.out).2.1)
           rintro e w' ⟨rfl, ⟨nd, rfl⟩⟩
           refine ⟨_, rfl, ?_⟩
           refine hK.out _ _ ⟨(blk_cell BK416.out 0).trans rfl, (blk_cell BK416.out 1).trans rfl, (blk_cell BK416.out 2).trans rfl, (blk_cell BK416.out 3).trans rfl⟩ (fun hHeld => ?_)
           clear hK K
           refine norm_ (a' := ?_) ?_ ?_
           rotate_left
           ·show Act.put _ (some 37) _ = _
            simp only [Act.put, List.setIfInBounds_toArray, List.set_cons_zero, List.set_cons_succ, i64_w]
            rfl
           refine one_ (i := 5) (N := some 38) #[true, true, true, true, true, true, true, true, false, false, true, true, false, false, true, true, false, true, true, true, true, false, false, false, false, false, false, false] rfl rfl (one_of HT_.out (by kernel_rfl)) (by decide) (fun K hK => ?_)
           refine goes_ Try.func50 (by kernel_rfl) rfl #[] (by rfl) rfl rfl mz ?_
           with_reducible refine (impl_generals.calls  t418 _ A15.out).mono ?_
           rintro e w30 ⟨v419, rfl, ho0, hb⟩
           refine ⟨_, rfl, ?_⟩
           have n0_ := Aside0.mk (Kd.R_elder' (by (with_reducible repeat (first | apply Kd.R_alloc | apply Kd.R_drewN | apply Kd.R_drew)); exact HO_2.out) (Kd.R_base ho0) hb)
           have n1_ := Aside0.mk (Kd.R_elder' (by (with_reducible repeat (first | apply Kd.R_alloc | apply Kd.R_drewN | apply Kd.R_drew)); exact HO_3.out) (Kd.R_base ho0) hb)
           have n2_ := Aside0.mk (Kd.R_elder' (by (with_reducible repeat (first | apply Kd.R_alloc | apply Kd.R_drewN | apply Kd.R_drew)); exact HO_7.out) (Kd.R_base ho0) hb)
           have n3_ := Aside0.mk (Kd.R_lower (Kd.R_new' (Kd.R_new' (Kd.R_new' ho0 (Kd.R_lt (by (with_reducible repeat (first | apply Kd.R_alloc | apply Kd.R_drewN | apply Kd.R_drew)); exact HO_2.out))) (Kd.R_lt (by (with_reducible repeat (first | apply Kd.R_alloc | apply Kd.R_drewN | apply Kd.R_drew)); exact HO_3.out))) (Kd.R_lt (by (with_reducible repeat (first | apply Kd.R_alloc | apply Kd.R_drewN | apply Kd.R_drew)); exact HO_7.out))) (below_size bs))
           have n4_ := Aside0.mk (blk_below (g := gb416) (o := .cells #[.int .i64 ((rd_T62 l0 x27_2).f0), .int .i64 ((rd_T62 l0 x27_2).f1), .int .i64 ((rd_T62 l0 x27_2).f2), .int .i64 ((rd_T62 l0 x27_2).f3)] 62 (0, 0)) kz hb)
           have n5_ := Aside0.mk (below_step bs hb)
           clear HO_2
           clear HO_3
           clear HO_7
           clear BK416
           clear HB
           have HO_2 := n0_
           have HO_3 := n1_
           have HO_7 := n2_
           have HO420 := n3_
           have BK416 := n4_
           have HB := n5_
           clear n0_ n1_ n2_ n3_ n4_ n5_
           obtain ⟨Ao31, co31, eo31⟩ := Kd.R_slice HO420.out
           (first | subst eo31 | (injection eo31 with f1_ f2_ f3_; have f4_ := f1_.symm; have f5_ := f3_.symm; clear f1_ f2_ f3_; subst f4_; subst f5_))
           refine hK.out _ _ ⟨(blk_cell BK416.out 0).trans rfl, (blk_cell BK416.out 1).trans rfl, (blk_cell BK416.out 2).trans rfl, (blk_cell BK416.out 3).trans rfl⟩ (fun hHeld => ?_)
           clear hK K
           refine norm_ (a' := ?_) ?_ ?_
           rotate_left
           ·show Act.put _ (some 38) _ = _
            simp only [Act.put, List.setIfInBounds_toArray, List.set_cons_zero, List.set_cons_succ, i64_w]
            rfl
           refine one_ (i := 8) (N := some 41) #[true, true, true, true, true, true, true, true, true, false, true, true, false, false, true, true, false, true, true, true, true, false, false, false, false, false, false, false] rfl rfl (one_of HT_.out (by kernel_rfl)) (by decide) (fun K hK => ?_)
           refine goes_ Try.func23 (by kernel_rfl) rfl #[.slice Ao31 t418.length co31, .int .i64 ((rd_T62 l0 x27_2).f1)] (by rfl) rfl rfl mz ?_
           with_reducible refine (impl_numberOf.calls _ _ t418 ((rd_T62 l0 x27_2).f1) t421 _ ?side1 ?side2 A16.out).mono ?_
           (case side1 => repeat (first | exact (Kd.R_reads' HO420.out).2.2 | (with_reducible refine Kd.C_alloc ?_ _) | (with_reducible refine Kd.C_drewN ?_ _) | (with_reducible refine Kd.C_drew ?_)))
           (case side2 => exact (Kd.R_reads' HO420.out).2.1)
           rintro e w' ⟨rfl, ⟨nd, rfl⟩⟩
           refine ⟨_, rfl, ?_⟩
           refine hK.out _ _ ⟨(blk_cell BK416.out 0).trans rfl, (blk_cell BK416.out 1).trans rfl, (blk_cell BK416.out 2).trans rfl, (blk_cell BK416.out 3).trans rfl⟩ (fun hHeld => ?_)
           clear hK K
           refine norm_ (a' := ?_) ?_ ?_
           rotate_left
           ·show Act.put _ (some 41) _ = _
            simp only [Act.put, List.setIfInBounds_toArray, List.set_cons_zero, List.set_cons_succ, i64_w]
            rfl
           refine one_ (i := 9) (N := some 42) #[true, true, true, true, true, true, true, true, true, true, true, true, false, false, true, true, false, true, true, true, true, false, false, false, false, false, false, false] rfl rfl (one_of HT_.out (by kernel_rfl)) (by decide) (fun K hK => ?_)
           refine goes_ Try.func51 (by kernel_rfl) rfl #[] (by rfl) rfl rfl mz ?_
           with_reducible refine (impl_easts.calls  t422 _ A17.out).mono ?_
           rintro e w32 ⟨v423, rfl, ho0, hb⟩
           refine ⟨_, rfl, ?_⟩
           have n0_ := Aside0.mk (Kd.R_elder' (by (with_reducible repeat (first | apply Kd.R_alloc | apply Kd.R_drewN | apply Kd.R_drew)); exact HO_2.out) (Kd.R_base ho0) hb)
           have n1_ := Aside0.mk (Kd.R_elder' (by (with_reducible repeat (first | apply Kd.R_alloc | apply Kd.R_drewN | apply Kd.R_drew)); exact HO_3.out) (Kd.R_base ho0) hb)
           have n2_ := Aside0.mk (Kd.R_elder' (by (with_reducible repeat (first | apply Kd.R_alloc | apply Kd.R_drewN | apply Kd.R_drew)); exact HO_7.out) (Kd.R_base ho0) hb)
           have n3_ := Aside0.mk (Kd.R_elder' (by (with_reducible repeat (first | apply Kd.R_alloc | apply Kd.R_drewN | apply Kd.R_drew)); exact HO420.out) (Kd.R_base ho0) hb)
           have n4_ := Aside0.mk (Kd.R_lower (Kd.R_new' (Kd.R_new' (Kd.R_new' (Kd.R_new' ho0 (Kd.R_lt (by (with_reducible repeat (first | apply Kd.R_alloc | apply Kd.R_drewN | apply Kd.R_drew)); exact HO_2.out))) (Kd.R_lt (by (with_reducible repeat (first | apply Kd.R_alloc | apply Kd.R_drewN | apply Kd.R_drew)); exact HO_3.out))) (Kd.R_lt (by (with_reducible repeat (first | apply Kd.R_alloc | apply Kd.R_drewN | apply Kd.R_drew)); exact HO_7.out))) (Kd.R_lt (by (with_reducible repeat (first | apply Kd.R_alloc | apply Kd.R_drewN | apply Kd.R_drew)); exact HO420.out))) (below_size bs))
           have n5_ := Aside0.mk (blk_below (g := gb416) (o := .cells #[.int .i64 ((rd_T62 l0 x27_2).f0), .int .i64 ((rd_T62 l0 x27_2).f1), .int .i64 ((rd_T62 l0 x27_2).f2), .int .i64 ((rd_T62 l0 x27_2).f3)] 62 (0, 0)) kz hb)
           have n6_ := Aside0.mk (below_step bs hb)
           clear HO_2
           clear HO_3
           clear HO_7
           clear HO420
           clear BK416
           clear HB
           have HO_2 := n0_
           have HO_3 := n1_
           have HO_7 := n2_
           have HO420 := n3_
           have HO424 := n4_
           have BK416 := n5_
           have HB := n6_
           clear n0_ n1_ n2_ n3_ n4_ n5_ n6_
           obtain ⟨Ao33, co33, eo33⟩ := Kd.R_slice HO424.out
           (first | subst eo33 | (injection eo33 with f1_ f2_ f3_; have f4_ := f1_.symm; have f5_ := f3_.symm; clear f1_ f2_ f3_; subst f4_; subst f5_))
           refine hK.out _ _ ⟨(blk_cell BK416.out 0).trans rfl, (blk_cell BK416.out 1).trans rfl, (blk_cell BK416.out 2).trans rfl, (blk_cell BK416.out 3).trans rfl⟩ (fun hHeld => ?_)
           clear hK K
           refine norm_ (a' := ?_) ?_ ?_
           rotate_left
           ·show Act.put _ (some 42) _ = _
            simp only [Act.put, List.setIfInBounds_toArray, List.set_cons_zero, List.set_cons_succ, i64_w]
            rfl
           refine one_ (i := 12) (N := some 45) #[true, true, true, true, true, true, true, true, true, true, true, true, true, false, true, true, false, true, true, true, true, false, false, false, false, false, false, false] rfl rfl (one_of HT_.out (by kernel_rfl)) (by decide) (fun K hK => ?_)
           refine goes_ Try.func23 (by kernel_rfl) rfl #[.slice Ao33 t422.length co33, .int .i64 ((rd_T62 l0 x27_2).f2)] (by rfl) rfl rfl mz ?_
           with_reducible refine (impl_numberOf.calls _ _ t422 ((rd_T62 l0 x27_2).f2) t425 _ ?side1 ?side2 A18.out).mono ?_
           (case side1 => repeat (first | exact (Kd.R_reads' HO424.out).2.2 | (with_reducible refine Kd.C_alloc ?_ _) | (with_reducible refine Kd.C_drewN ?_ _) | (with_reducible refine Kd.C_drew ?_)))
           (case side2 => exact (Kd.R_reads' HO424.out).2.1)
           rintro e w' ⟨rfl, ⟨nd, rfl⟩⟩
           refine ⟨_, rfl, ?_⟩
           refine hK.out _ _ ⟨(blk_cell BK416.out 0).trans rfl, (blk_cell BK416.out 1).trans rfl, (blk_cell BK416.out 2).trans rfl, (blk_cell BK416.out 3).trans rfl⟩ (fun hHeld => ?_)
           clear hK K
           refine norm_ (a' := ?_) ?_ ?_
           rotate_left
           ·show Act.put _ (some 45) _ = _
            simp only [Act.put, List.setIfInBounds_toArray, List.set_cons_zero, List.set_cons_succ, i64_w]
            rfl
           refine one_ (i := 13) (N := some 46) #[true, true, true, true, true, true, true, true, true, true, true, true, true, true, true, true, false, true, true, true, true, false, false, false, false, false, false, false] rfl rfl (one_of HT_.out (by kernel_rfl)) (by decide) (fun K hK => ?_)
           refine goes_ Try.func21 (by kernel_rfl) rfl #[] (by rfl) rfl rfl mz ?_
           with_reducible refine (impl_graphemes.calls  t426 _ A19.out).mono ?_
           rintro e w34 ⟨v427, rfl, ho0, hb⟩
           refine ⟨_, rfl, ?_⟩
           have n0_ := Aside0.mk (Kd.R_elder' (by (with_reducible repeat (first | apply Kd.R_alloc | apply Kd.R_drewN | apply Kd.R_drew)); exact HO_2.out) (Kd.R_base ho0) hb)
           have n1_ := Aside0.mk (Kd.R_elder' (by (with_reducible repeat (first | apply Kd.R_alloc | apply Kd.R_drewN | apply Kd.R_drew)); exact HO_3.out) (Kd.R_base ho0) hb)
           have n2_ := Aside0.mk (Kd.R_elder' (by (with_reducible repeat (first | apply Kd.R_alloc | apply Kd.R_drewN | apply Kd.R_drew)); exact HO_7.out) (Kd.R_base ho0) hb)
           have n3_ := Aside0.mk (Kd.R_elder' (by (with_reducible repeat (first | apply Kd.R_alloc | apply Kd.R_drewN | apply Kd.R_drew)); exact HO420.out) (Kd.R_base ho0) hb)
           have n4_ := Aside0.mk (Kd.R_elder' (by (with_reducible repeat (first | apply Kd.R_alloc | apply Kd.R_drewN | apply Kd.R_drew)); exact HO424.out) (Kd.R_base ho0) hb)
           have n5_ := Aside0.mk (Kd.R_lower (Kd.R_new' (Kd.R_new' (Kd.R_new' (Kd.R_new' (Kd.R_new' ho0 (Kd.R_lt (by (with_reducible repeat (first | apply Kd.R_alloc | apply Kd.R_drewN | apply Kd.R_drew)); exact HO_2.out))) (Kd.R_lt (by (with_reducible repeat (first | apply Kd.R_alloc | apply Kd.R_drewN | apply Kd.R_drew)); exact HO_3.out))) (Kd.R_lt (by (with_reducible repeat (first | apply Kd.R_alloc | apply Kd.R_drewN | apply Kd.R_drew)); exact HO_7.out))) (Kd.R_lt (by (with_reducible repeat (first | apply Kd.R_alloc | apply Kd.R_drewN | apply Kd.R_drew)); exact HO420.out))) (Kd.R_lt (by (with_reducible repeat (first | apply Kd.R_alloc | apply Kd.R_drewN | apply Kd.R_drew)); exact HO424.out))) (below_size bs))
           have n6_ := Aside0.mk (blk_below (g := gb416) (o := .cells #[.int .i64 ((rd_T62 l0 x27_2).f0), .int .i64 ((rd_T62 l0 x27_2).f1), .int .i64 ((rd_T62 l0 x27_2).f2), .int .i64 ((rd_T62 l0 x27_2).f3)] 62 (0, 0)) kz hb)
           have n7_ := Aside0.mk (below_step bs hb)
           clear HO_2
           clear HO_3
           clear HO_7
           clear HO420
           clear HO424
           clear BK416
           clear HB
           have HO_2 := n0_
           have HO_3 := n1_
           have HO_7 := n2_
           have HO420 := n3_
           have HO424 := n4_
           have HO428 := n5_
           have BK416 := n6_
           have HB := n7_
           clear n0_ n1_ n2_ n3_ n4_ n5_ n6_ n7_
           obtain ⟨Ao35, co35, eo35⟩ := Kd.R_slice HO428.out
           (first | subst eo35 | (injection eo35 with f1_ f2_ f3_; have f4_ := f1_.symm; have f5_ := f3_.symm; clear f1_ f2_ f3_; subst f4_; subst f5_))
           refine hK.out _ _ ⟨(blk_cell BK416.out 0).trans rfl, (blk_cell BK416.out 1).trans rfl, (blk_cell BK416.out 2).trans rfl, (blk_cell BK416.out 3).trans rfl⟩ (fun hHeld => ?_)
           clear hK K
           refine norm_ (a' := ?_) ?_ ?_
           rotate_left
           ·show Act.put _ (some 46) _ = _
            simp only [Act.put, List.setIfInBounds_toArray, List.set_cons_zero, List.set_cons_succ, i64_w]
            rfl
           refine one_ (i := 16) (N := some 49) #[true, true, true, true, true, true, true, true, true, true, true, true, true, true, true, true, true, true, true, true, true, false, false, false, false, false, false, false] rfl rfl (one_of HT_.out (by kernel_rfl)) (by decide) (fun K hK => ?_)
           refine goes_ Try.func23 (by kernel_rfl) rfl #[.slice Ao35 t426.length co35, .int .i64 ((rd_T62 l0 x27_2).f3)] (by rfl) rfl rfl mz ?_
           with_reducible refine (impl_numberOf.calls _ _ t426 ((rd_T62 l0 x27_2).f3) t429 _ ?side1 ?side2 A20.out).mono ?_
           (case side1 => repeat (first | exact (Kd.R_reads' HO428.out).2.2 | (with_reducible refine Kd.C_alloc ?_ _) | (with_reducible refine Kd.C_drewN ?_ _) | (with_reducible refine Kd.C_drew ?_)))
           (case side2 => exact (Kd.R_reads' HO428.out).2.1)
           rintro e w' ⟨rfl, ⟨nd, rfl⟩⟩
           refine ⟨_, rfl, ?_⟩
           obtain ⟨Ao36, co36, eo36⟩ := Kd.R_slice HO_3.out
           (first | subst eo36 | (injection eo36 with f1_ f2_ f3_; have f4_ := f1_.symm; have f5_ := f3_.symm; clear f1_ f2_ f3_; subst f4_; subst f5_))
           refine hK.out _ _ ⟨(blk_cell BK416.out 0).trans rfl, (blk_cell BK416.out 1).trans rfl, (blk_cell BK416.out 2).trans rfl, (blk_cell BK416.out 3).trans rfl⟩ (fun hHeld => ?_)
           clear hK K
           refine norm_ (a' := ?_) ?_ ?_
           rotate_left
           ·show Act.put _ (some 49) _ = _
            simp only [Act.put, List.setIfInBounds_toArray, List.set_cons_zero, List.set_cons_succ, i64_w]
            rfl
           refine one_ (i := 21) (N := some 54) #[true, true, true, true, true, true, true, true, true, true, true, true, true, true, true, true, true, true, true, true, true, true, false, false, false, false, false, false] rfl rfl (one_of HT_.out (by kernel_rfl)) (by decide) (fun K hK => ?_)
           refine goes_ Try.func29 (by kernel_rfl) rfl #[.slice Ao36 x3_1.length co36, .int .i64 (wrap64 (x27_2 + 1)), .slice Ao29 t412.length co29] (by rfl) rfl rfl mz ?_
           refine (Wb.behind_calls _ _ x3_1.length _ t412.length _ (wrap64 (x27_2 + 1)) _).mono ?_
           rintro e w37 ⟨rfl, rfl⟩
           refine ⟨_, rfl, ?_⟩
           refine hK.out _ _ ⟨(blk_cell (blk_below (g := gb416) (o := .cells #[.int .i64 ((rd_T62 l0 x27_2).f0), .int .i64 ((rd_T62 l0 x27_2).f1), .int .i64 ((rd_T62 l0 x27_2).f2), .int .i64 ((rd_T62 l0 x27_2).f3)] 62 (0, 0)) kz (Lb.laid_below _ _ _ _ _ _ _ _)) 0).trans rfl, (blk_cell (blk_below (g := gb416) (o := .cells #[.int .i64 ((rd_T62 l0 x27_2).f0), .int .i64 ((rd_T62 l0 x27_2).f1), .int .i64 ((rd_T62 l0 x27_2).f2), .int .i64 ((rd_T62 l0 x27_2).f3)] 62 (0, 0)) kz (Lb.laid_below _ _ _ _ _ _ _ _)) 1).trans rfl, (blk_cell (blk_below (g := gb416) (o := .cells #[.int .i64 ((rd_T62 l0 x27_2).f0), .int .i64 ((rd_T62 l0 x27_2).f1), .int .i64 ((rd_T62 l0 x27_2).f2), .int .i64 ((rd_T62 l0 x27_2).f3)] 62 (0, 0)) kz (Lb.laid_below _ _ _ _ _ _ _ _)) 2).trans rfl, (blk_cell (blk_below (g := gb416) (o := .cells #[.int .i64 ((rd_T62 l0 x27_2).f0), .int .i64 ((rd_T62 l0 x27_2).f1), .int .i64 ((rd_T62 l0 x27_2).f2), .int .i64 ((rd_T62 l0 x27_2).f3)] 62 (0, 0)) kz (Lb.laid_below _ _ _ _ _ _ _ _)) 3).trans rfl⟩ (fun hHeld => ?_)
           clear hK K
           refine norm_ (a' := ?_) ?_ ?_
           rotate_left
           ·show Act.put _ (some 54) _ = _
            simp only [Act.put, List.setIfInBounds_toArray, List.set_cons_zero, List.set_cons_succ, i64_w]
            rfl
           refine one_ (i := 22) (N := some 55) #[true, true, true, true, true, true, true, true, true, true, true, true, true, true, true, true, true, true, true, true, true, true, true, false, false, false, false, false] rfl rfl (one_of HT_.out (by kernel_rfl)) (by decide) (fun K hK => ?_)
           refine goes_ Try.func49 (by kernel_rfl) rfl #[.int .i64 x6_2, .int .i64 t417, .int .i64 t421, .int .i64 t425, .int .i64 t429, Wb.asker _] (by rfl) rfl rfl mz ?_
           refine (Lb.zz_true _ _ _ _ _ x3_1 t412 x27_2 x6_2 t417 t421 t425 t429 t431 t432 (zzg_eq A22.out).1 (zzg_eq A22.out).2 ?side1 ?side3 ?side4).mono ?_
           (case side1 => repeat (first | exact (Kd.R_reads' HO_3.out).2.2 | (with_reducible refine Kd.C_alloc ?_ _) | (with_reducible refine Kd.C_drewN ?_ _) | (with_reducible refine Kd.C_drew ?_)))
           (case side3 => repeat (first | exact (Kd.R_reads' HO_7.out).2.2 | (with_reducible refine Kd.C_alloc ?_ _) | (with_reducible refine Kd.C_drewN ?_ _) | (with_reducible refine Kd.C_drew ?_)))
           (case side4 => exact (Kd.R_reads' HO_7.out).2.1)
           rintro e w38 ⟨rfl, hb⟩
           refine ⟨_, rfl, ?_⟩
           have n0_ := Aside0.mk (Kd.R_below (by (with_reducible repeat (first | apply Kd.R_alloc | apply Kd.R_drewN | apply Kd.R_drew)); exact HO_2.out) hb)
           have n1_ := Aside0.mk (Kd.R_below (by (with_reducible repeat (first | apply Kd.R_alloc | apply Kd.R_drewN | apply Kd.R_drew)); exact HO_3.out) hb)
           have n2_ := Aside0.mk (Kd.R_below (by (with_reducible repeat (first | apply Kd.R_alloc | apply Kd.R_drewN | apply Kd.R_drew)); exact HO_7.out) hb)
           have n3_ := Aside0.mk (Kd.R_below (by (with_reducible repeat (first | apply Kd.R_alloc | apply Kd.R_drewN | apply Kd.R_drew)); exact HO420.out) hb)
           have n4_ := Aside0.mk (Kd.R_below (by (with_reducible repeat (first | apply Kd.R_alloc | apply Kd.R_drewN | apply Kd.R_drew)); exact HO424.out) hb)
           have n5_ := Aside0.mk (Kd.R_below (by (with_reducible repeat (first | apply Kd.R_alloc | apply Kd.R_drewN | apply Kd.R_drew)); exact HO428.out) hb)
           have n6_ := Aside0.mk (blk_below (g := gb416) (o := .cells #[.int .i64 ((rd_T62 l0 x27_2).f0), .int .i64 ((rd_T62 l0 x27_2).f1), .int .i64 ((rd_T62 l0 x27_2).f2), .int .i64 ((rd_T62 l0 x27_2).f3)] 62 (0, 0)) kz hb)
           have n7_ := Aside0.mk (below_step bs hb)
           clear HO_2
           clear HO_3
           clear HO_7
           clear HO420
           clear HO424
           clear HO428
           clear BK416
           clear HB
           have HO_2 := n0_
           have HO_3 := n1_
           have HO_7 := n2_
           have HO420 := n3_
           have HO424 := n4_
           have HO428 := n5_
           have BK416 := n6_
           have HB := n7_
           clear n0_ n1_ n2_ n3_ n4_ n5_ n6_ n7_
           refine hK.out _ _ ⟨(blk_cell BK416.out 0).trans rfl, (blk_cell BK416.out 1).trans rfl, (blk_cell BK416.out 2).trans rfl, (blk_cell BK416.out 3).trans rfl⟩ (fun hHeld => ?_)
           clear hK K
           refine norm_ (a' := ?_) ?_ ?_
           rotate_left
           ·show Act.put _ (some 55) _ = _
            simp only [Act.put, List.setIfInBounds_toArray, List.set_cons_zero, List.set_cons_succ, i64_w]
            rfl
           refine pure_ (i := 23) (N := some 32) (v := ?_) (a' := ?_) #[true, true, true, true, true, true, true, true, true, true, true, true, true, true, true, true, true, true, true, true, true, true, true, true, false, false, false, false] rfl rfl (any_of HT_.out (by kernel_rfl)) (fun _ _ _ h => h) (Or.inl ⟨by rfl, ?_⟩) ?_ ?_
           rotate_left
           ·intro w'
            go_simp
            with_reducible rfl
           rotate_left
           ·simp only [Act.put, List.setIfInBounds_toArray, List.set_cons_zero, List.set_cons_succ, i64_w]
            rfl
           refine pure_ (i := 24) (N := some 56) (v := ?_) (a' := ?_) #[true, true, true, true, true, true, true, true, true, true, true, true, true, true, true, true, true, true, true, true, true, true, true, true, true, false, false, false] rfl rfl (any_of HT_.out (by kernel_rfl)) (fun _ _ _ h => h) (Or.inl ⟨by rfl, ?_⟩) ?_ ?_
           rotate_left
           ·intro w'
            go_simp
            with_reducible rfl
           rotate_left
           ·simp only [Act.put, List.setIfInBounds_toArray, List.set_cons_zero, List.set_cons_succ, i64_w]
            rfl
           refine pure_ (i := 25) (N := some 57) (v := ?_) (a' := ?_) #[true, true, true, true, true, true, true, true, true, true, true, true, true, true, true, true, true, true, true, true, true, true, true, true, true, true, false, false] rfl rfl (any_of HT_.out (by kernel_rfl)) (fun _ _ _ h => h) (Or.inl ⟨by rfl, ?_⟩) ?_ ?_
           rotate_left
           ·intro w'
            go_simp
            with_reducible rfl
           rotate_left
           ·simp only [Act.put, List.setIfInBounds_toArray, List.set_cons_zero, List.set_cons_succ, i64_w]
            rfl
           refine pure_ (i := 26) (N := some 10) (v := ?_) (a' := ?_) #[true, true, true, true, true, true, true, true, true, true, true, true, true, true, true, true, true, true, true, true, true, true, true, true, true, true, true, false] rfl rfl (any_of HT_.out (by kernel_rfl)) (fun _ _ _ h => h) (Or.inl ⟨by rfl, ?_⟩) ?_ ?_
           rotate_left
           ·intro w'
            go_simp
            with_reducible rfl
           rotate_left
           ·simp only [Act.put, List.setIfInBounds_toArray, List.set_cons_zero, List.set_cons_succ, i64_w]
            rfl
           refine pure_ (i := 27) (N := some 11) (v := ?_) (a' := ?_) #[true, true, true, true, true, true, true, true, true, true, true, true, true, true, true, true, true, true, true, true, true, true, true, true, true, true, true, true] rfl rfl (any_of HT_.out (by kernel_rfl)) (fun _ _ _ h => h) (Or.inl ⟨by rfl, ?_⟩) ?_ ?_
           rotate_left
           ·intro w'
            go_simp
            with_reducible rfl
           rotate_left
           ·simp only [Act.put, List.setIfInBounds_toArray, List.set_cons_zero, List.set_cons_succ, i64_w]
            rfl
           refine done_ (done_of HT_.out (by kernel_rfl)) ?_
           try go_wp2_with (first | ((with_reducible refine gate_builtin (b := .append) (xs := #[.tmp 61, .tmp 63]) rfl ?_); at_builtin; refine Kd.R_append (Kd.int .i64) (w0 := w) w.heap.size rfl (.tmp 61) (.tmp 63) 23 3 (.int .i64 0) 8 rfl Try.underlying23 info3 rfl (by decide) (by omega) u2 x2_2 t432 [.int .i64 t432] (fun k_ => some k_ ≠ (.slice Ao36 x3_1.length co36 : Value).ownBlock ∧ some k_ ≠ (.slice Ao29 t412.length co29 : Value).ownBlock ∧ some k_ ≠ (.slice Ao31 t418.length co31 : Value).ownBlock ∧ some k_ ≠ (.slice Ao33 t422.length co33 : Value).ownBlock ∧ some k_ ≠ (.slice Ao35 t426.length co35 : Value).ownBlock) (fun _ => False) rfl rfl ?aP (fun _ hk => hk.elim) ?aF ?aO ?aB ?aS ?aL ?_; (case aP => exact rfl); (case aB => exact bs); (case aF => exact (fun k_ hk => ⟨Kd.fresh' (Kd.R_lt (by (with_reducible repeat (first | apply Kd.R_alloc | apply Kd.R_drewN | apply Kd.R_drew)); exact HO_3.out)) k_ hk, Kd.fresh' (Kd.R_lt (by (with_reducible repeat (first | apply Kd.R_alloc | apply Kd.R_drewN | apply Kd.R_drew)); exact HO_7.out)) k_ hk, Kd.fresh' (Kd.R_lt (by (with_reducible repeat (first | apply Kd.R_alloc | apply Kd.R_drewN | apply Kd.R_drew)); exact HO420.out)) k_ hk, Kd.fresh' (Kd.R_lt (by (with_reducible repeat (first | apply Kd.R_alloc | apply Kd.R_drewN | apply Kd.R_drew)); exact HO424.out)) k_ hk, Kd.fresh' (Kd.R_lt (by (with_reducible repeat (first | apply Kd.R_alloc | apply Kd.R_drewN | apply Kd.R_drew)); exact HO428.out)) k_ hk⟩)); (case aO => exact (by (with_reducible repeat (first | apply Kd.R_alloc | apply Kd.R_drewN | apply Kd.R_drew)); exact Kd.R_mono HO_2.out (fun _ hk => ⟨hk.1.1.1.1, ⟨hk.1.1.1.2, ⟨hk.1.1.2, ⟨hk.1.2, hk.2⟩⟩⟩⟩))); (case aS => exact (below_size bs)); (case aL => have := LMc24.out; omega); intro v434 w39 ho hb hg hat; rw [← Ny433.out] at ho; have n0_ := Aside0.mk (Kd.R_after (ok := (fun k_ => some k_ ≠ (.slice Ao29 t412.length co29 : Value).ownBlock ∧ some k_ ≠ (.slice Ao31 t418.length co31 : Value).ownBlock ∧ some k_ ≠ (.slice Ao33 t422.length co33 : Value).ownBlock ∧ some k_ ≠ (.slice Ao35 t426.length co35 : Value).ownBlock)) (by (with_reducible repeat (first | apply Kd.R_alloc | apply Kd.R_drewN | apply Kd.R_drew)); exact Kd.R_mono HO_3.out (fun _ hk => ⟨⟨hk.1.1.1.2, ⟨hk.1.1.2, ⟨hk.1.2, hk.2⟩⟩⟩, hk.1.1.1.1⟩)) hg hat); have n1_ := Aside0.mk (Kd.R_after (ok := (fun k_ => some k_ ≠ (.slice Ao36 x3_1.length co36 : Value).ownBlock ∧ some k_ ≠ (.slice Ao31 t418.length co31 : Value).ownBlock ∧ some k_ ≠ (.slice Ao33 t422.length co33 : Value).ownBlock ∧ some k_ ≠ (.slice Ao35 t426.length co35 : Value).ownBlock)) (by (with_reducible repeat (first | apply Kd.R_alloc | apply Kd.R_drewN | apply Kd.R_drew)); exact Kd.R_mono HO_7.out (fun _ hk => ⟨⟨hk.1.1.1.2, ⟨hk.1.1.2, ⟨hk.1.2, hk.2⟩⟩⟩, hk.1.1.1.1⟩)) hg hat); have n2_ := Aside0.mk (blk_grown (g := gb416) (o := .cells #[.int .i64 ((rd_T62 l0 x27_2).f0), .int .i64 ((rd_T62 l0 x27_2).f1), .int .i64 ((rd_T62 l0 x27_2).f2), .int .i64 ((rd_T62 l0 x27_2).f3)] 62 (0, 0)) kz hg (Kd.R_ne HO_2.out BK416.out (by decide))); have n3_ := Aside0.mk (Kd.R_after (ok := (fun k_ => some k_ ≠ (.slice Ao36 x3_1.length co36 : Value).ownBlock ∧ some k_ ≠ (.slice Ao29 t412.length co29 : Value).ownBlock ∧ some k_ ≠ (.slice Ao33 t422.length co33 : Value).ownBlock ∧ some k_ ≠ (.slice Ao35 t426.length co35 : Value).ownBlock)) (by (with_reducible repeat (first | apply Kd.R_alloc | apply Kd.R_drewN | apply Kd.R_drew)); exact Kd.R_mono HO420.out (fun _ hk => ⟨⟨hk.1.1.1.2, ⟨hk.1.1.2, ⟨hk.1.2, hk.2⟩⟩⟩, hk.1.1.1.1.2⟩)) hg hat); have n4_ := Aside0.mk (Kd.R_after (ok := (fun k_ => some k_ ≠ (.slice Ao36 x3_1.length co36 : Value).ownBlock ∧ some k_ ≠ (.slice Ao29 t412.length co29 : Value).ownBlock ∧ some k_ ≠ (.slice Ao31 t418.length co31 : Value).ownBlock ∧ some k_ ≠ (.slice Ao35 t426.length co35 : Value).ownBlock)) (by (with_reducible repeat (first | apply Kd.R_alloc | apply Kd.R_drewN | apply Kd.R_drew)); exact Kd.R_mono HO424.out (fun _ hk => ⟨⟨hk.1.1.1.2, ⟨hk.1.1.2, ⟨hk.1.2, hk.2⟩⟩⟩, hk.1.1.1.1.2⟩)) hg hat); have n5_ := Aside0.mk (Kd.R_after (ok := (fun k_ => some k_ ≠ (.slice Ao36 x3_1.length co36 : Value).ownBlock ∧ some k_ ≠ (.slice Ao29 t412.length co29 : Value).ownBlock ∧ some k_ ≠ (.slice Ao31 t418.length co31 : Value).ownBlock ∧ some k_ ≠ (.slice Ao33 t422.length co33 : Value).ownBlock)) (by (with_reducible repeat (first | apply Kd.R_alloc | apply Kd.R_drewN | apply Kd.R_drew)); exact Kd.R_mono HO428.out (fun _ hk => ⟨⟨hk.1.1.1.2, ⟨hk.1.1.2, ⟨hk.1.2, hk.2⟩⟩⟩, hk.1.1.1.1.2⟩)) hg hat); have n6_ := Aside0.mk (hb); have n7_ := Aside0.mk (ho); clear HO_3; clear HO_7; clear BK416; clear HO420; clear HO424; clear HO428; clear HB; clear HO_2; have HO_3 := n0_; have HO_7 := n1_; have BK416 := n2_; have HO420 := n3_; have HO424 := n4_; have HO428 := n5_; have HB := n6_; have HO435 := n7_; clear n0_ n1_ n2_ n3_ n4_ n5_ n6_ n7_; clear ho hb hg hat))
           go_roundg k2
           case measure => have := HK1.out; have := HK2.out; omega
           case rel => exact ⟨(y433), (t431), (wrap64 (x27_2 + 1)), vz, vz, H', ⟨by have := HK1.out; have := HK2.out; omega⟩, ⟨by (with_reducible repeat (first | apply Kd.R_alloc | apply Kd.R_drewN | apply Kd.R_drew)); exact Kd.R_mono HO435.out (fun _ hk => ⟨hk.1, hk.2.1⟩)⟩, ⟨by (with_reducible repeat (first | apply Kd.R_alloc | apply Kd.R_drewN | apply Kd.R_drew)); exact Kd.R_mono HO_3.out (fun _ hk => ⟨hk.2, hk.1.1⟩)⟩, ⟨by (with_reducible repeat (first | apply Kd.R_alloc | apply Kd.R_drewN | apply Kd.R_drew)); exact Kd.R_mono HO_7.out (fun _ hk => ⟨hk.2, hk.1.1⟩)⟩, ⟨bs⟩⟩
          ·rw [if_neg c24] at H
           exact absurd H (by simp)
         ·rw [if_neg c23] at H
          have c23b0 : decide (0 < x27_2) = false := decide_eq_false c23
          clear c23
          have H' := Aside0.mk H
          clear H
          have p415 : 0 ≤ (x27_2 : Int) := of_decide_eq_true az
          have q415 : x27_2 < (l0.length : Int) := of_decide_eq_true az
          obtain ⟨ad415, e415, hx415_0, hx415_1, hx415_2, hx415_3⟩ := at_T62 HR0.out x27_2 p415 q415
          cases e415
          replace hx415_0 := (HB.out.cell (World.block_lt_of_cell? w _ hx415_0)).trans hx415_0
          replace hx415_1 := (HB.out.cell (World.block_lt_of_cell? w _ hx415_1)).trans hx415_1
          replace hx415_2 := (HB.out.cell (World.block_lt_of_cell? w _ hx415_2)).trans hx415_2
          replace hx415_3 := (HB.out.cell (World.block_lt_of_cell? w _ hx415_3)).trans hx415_3
          replace p415 := eq_true p415
          replace q415 := eq_true q415
          try go_wp2_with (first | ((with_reducible refine gate_dst (N := 9) rfl ?_); refine box_event ?hg (N := 9) ?hd (cs := #[.int .i64 0, .int .i64 0, .int .i64 0, .int .i64 0]) (t := 62) ?hr ?_; (case hd => rfl); (case hg => rfl); (case hr => first | (go_simp; done) | (go_simp; rfl)); intro gb416 hg w40 hbox hb; have n0_ := Aside0.mk (Kd.R_below (by (with_reducible repeat (first | apply Kd.R_alloc | apply Kd.R_drewN | apply Kd.R_drew)); exact HO_2.out) hb); have n1_ := Aside0.mk (Kd.R_below (by (with_reducible repeat (first | apply Kd.R_alloc | apply Kd.R_drewN | apply Kd.R_drew)); exact HO_3.out) hb); have n2_ := Aside0.mk (Kd.R_below (by (with_reducible repeat (first | apply Kd.R_alloc | apply Kd.R_drewN | apply Kd.R_drew)); exact HO_7.out) hb); have n3_ := Aside0.mk (below_step bz hb); have n4_ := Aside0.mk (hbox); have n5_ := Aside0.mk ((by rw [hg]; exact (below_size bz) : w.heap.size ≤ gb416)); have n6_ := Aside0.mk ((by rw [hg]; exact (below_size bz) : w.heap.size ≤ gb416)); clear HO_2; clear HO_3; clear HO_7; clear HB; have HO_2 := n0_; have HO_3 := n1_; have HO_7 := n2_; have HB := n3_; have BK416 := n4_; have GW416 := n5_; have GE416 := n6_; clear n0_ n1_ n2_ n3_ n4_ n5_ n6_; clear hb hbox hg; have hcz41_0 : w40.cell? ⟨gb416, 0, none⟩ = some (.int .i64 0) := (blk_cell BK416.out 0).trans rfl; have hcz41_1 : w40.cell? ⟨gb416, 1, none⟩ = some (.int .i64 0) := (blk_cell BK416.out 1).trans rfl; have hcz41_2 : w40.cell? ⟨gb416, 2, none⟩ = some (.int .i64 0) := (blk_cell BK416.out 2).trans rfl; have hcz41_3 : w40.cell? ⟨gb416, 3, none⟩ = some (.int .i64 0) := (blk_cell BK416.out 3).trans rfl; have hfz41_0 := blk_frozen BK416.out 0; have hfz41_1 := blk_frozen BK416.out 1; have hfz41_2 := blk_frozen BK416.out 2; have hfz41_3 := blk_frozen BK416.out 3))
          have n0_ : Aside0 (Kd.R (Kd.int .i64) 3 ((((w40.setCell ⟨gb416, 0, none⟩ (.int .i64 ((rd_T62 l0 x27_2).f0))).setCell ⟨gb416, 1, none⟩ (.int .i64 ((rd_T62 l0 x27_2).f1))).setCell ⟨gb416, 2, none⟩ (.int .i64 ((rd_T62 l0 x27_2).f2))).setCell ⟨gb416, 3, none⟩ (.int .i64 ((rd_T62 l0 x27_2).f3))) w.heap.size (fun k_ => some k_ ≠ (u3 : Value).ownBlock ∧ some k_ ≠ (v413 : Value).ownBlock) u2 x2_2) := ⟨by (with_reducible repeat (first | apply Kd.R_alloc | apply Kd.R_drewN | apply Kd.R_drew)); exact Kd.R_mono (Kd.R_far (p := ⟨gb416, 3, none⟩) (Kd.R_far (p := ⟨gb416, 2, none⟩) (Kd.R_far (p := ⟨gb416, 1, none⟩) (Kd.R_far (p := ⟨gb416, 0, none⟩) (Kd.R_types HO_2.out BK416.out (by decide)) (fun _ hk => hk.2) (.int .i64 ((rd_T62 l0 x27_2).f0))) (fun _ hk => hk.2) (.int .i64 ((rd_T62 l0 x27_2).f1))) (fun _ hk => hk.2) (.int .i64 ((rd_T62 l0 x27_2).f2))) (fun _ hk => hk.2) (.int .i64 ((rd_T62 l0 x27_2).f3))) (fun _ hk => ⟨hk.1.1, hk.1.2⟩)⟩
          have n1_ : Aside0 (Kd.R (Kd.int .i64) 3 ((((w40.setCell ⟨gb416, 0, none⟩ (.int .i64 ((rd_T62 l0 x27_2).f0))).setCell ⟨gb416, 1, none⟩ (.int .i64 ((rd_T62 l0 x27_2).f1))).setCell ⟨gb416, 2, none⟩ (.int .i64 ((rd_T62 l0 x27_2).f2))).setCell ⟨gb416, 3, none⟩ (.int .i64 ((rd_T62 l0 x27_2).f3))) w.heap.size (fun k_ => some k_ ≠ (u2 : Value).ownBlock ∧ some k_ ≠ (v413 : Value).ownBlock) u3 x3_1) := ⟨by (with_reducible repeat (first | apply Kd.R_alloc | apply Kd.R_drewN | apply Kd.R_drew)); exact Kd.R_mono (Kd.R_far (p := ⟨gb416, 3, none⟩) (Kd.R_far (p := ⟨gb416, 2, none⟩) (Kd.R_far (p := ⟨gb416, 1, none⟩) (Kd.R_far (p := ⟨gb416, 0, none⟩) (Kd.R_types HO_3.out BK416.out (by decide)) (fun _ hk => hk.2) (.int .i64 ((rd_T62 l0 x27_2).f0))) (fun _ hk => hk.2) (.int .i64 ((rd_T62 l0 x27_2).f1))) (fun _ hk => hk.2) (.int .i64 ((rd_T62 l0 x27_2).f2))) (fun _ hk => hk.2) (.int .i64 ((rd_T62 l0 x27_2).f3))) (fun _ hk => ⟨hk.1.1, hk.1.2⟩)⟩
          have n2_ : Aside0 (Kd.R (Kd.int .i64) 3 ((((w40.setCell ⟨gb416, 0, none⟩ (.int .i64 ((rd_T62 l0 x27_2).f0))).setCell ⟨gb416, 1, none⟩ (.int .i64 ((rd_T62 l0 x27_2).f1))).setCell ⟨gb416, 2, none⟩ (.int .i64 ((rd_T62 l0 x27_2).f2))).setCell ⟨gb416, 3, none⟩ (.int .i64 ((rd_T62 l0 x27_2).f3))) w.heap.size (fun k_ => some k_ ≠ (u2 : Value).ownBlock ∧ some k_ ≠ (u3 : Value).ownBlock) v413 t412) := ⟨by (with_reducible repeat (first | apply Kd.R_alloc | apply Kd.R_drewN | apply Kd.R_drew)); exact Kd.R_mono (Kd.R_far (p := ⟨gb416, 3, none⟩) (Kd.R_far (p := ⟨gb416, 2, none⟩) (Kd.R_far (p := ⟨gb416, 1, none⟩) (Kd.R_far (p := ⟨gb416, 0, none⟩) (Kd.R_types HO_7.out BK416.out (by decide)) (fun _ hk => hk.2) (.int .i64 ((rd_T62 l0 x27_2).f0))) (fun _ hk => hk.2) (.int .i64 ((rd_T62 l0 x27_2).f1))) (fun _ hk => hk.2) (.int .i64 ((rd_T62 l0 x27_2).f2))) (fun _ hk => hk.2) (.int .i64 ((rd_T62 l0 x27_2).f3))) (fun _ hk => ⟨hk.1.1, hk.1.2⟩)⟩
          have n3_ : Aside0 (((((w40.setCell ⟨gb416, 0, none⟩ (.int .i64 ((rd_T62 l0 x27_2).f0))).setCell ⟨gb416, 1, none⟩ (.int .i64 ((rd_T62 l0 x27_2).f1))).setCell ⟨gb416, 2, none⟩ (.int .i64 ((rd_T62 l0 x27_2).f2))).setCell ⟨gb416, 3, none⟩ (.int .i64 ((rd_T62 l0 x27_2).f3))).heap[gb416]? = some (.cells #[.int .i64 ((rd_T62 l0 x27_2).f0), .int .i64 ((rd_T62 l0 x27_2).f1), .int .i64 ((rd_T62 l0 x27_2).f2), .int .i64 ((rd_T62 l0 x27_2).f3)] 62 (0, 0))) := ⟨by (with_reducible repeat (first | refine blk_drewN ?_ _ | refine blk_drew ?_ | refine blk_alloc ?_ _)); refine blk_put (cs := #[.int .i64 ((rd_T62 l0 x27_2).f0), .int .i64 ((rd_T62 l0 x27_2).f1), .int .i64 ((rd_T62 l0 x27_2).f2), .int .i64 0]) ?_ 3 _ rfl; (with_reducible repeat (first | refine blk_drewN ?_ _ | refine blk_drew ?_ | refine blk_alloc ?_ _)); refine blk_put (cs := #[.int .i64 ((rd_T62 l0 x27_2).f0), .int .i64 ((rd_T62 l0 x27_2).f1), .int .i64 0, .int .i64 0]) ?_ 2 _ rfl; (with_reducible repeat (first | refine blk_drewN ?_ _ | refine blk_drew ?_ | refine blk_alloc ?_ _)); refine blk_put (cs := #[.int .i64 ((rd_T62 l0 x27_2).f0), .int .i64 0, .int .i64 0, .int .i64 0]) ?_ 1 _ rfl; (with_reducible repeat (first | refine blk_drewN ?_ _ | refine blk_drew ?_ | refine blk_alloc ?_ _)); refine blk_put (cs := #[.int .i64 0, .int .i64 0, .int .i64 0, .int .i64 0]) ?_ 0 _ rfl; (with_reducible repeat (first | refine blk_drewN ?_ _ | refine blk_drew ?_ | refine blk_alloc ?_ _)); exact BK416.out⟩
          have n4_ : Aside0 (Below w.heap.size w ((((w40.setCell ⟨gb416, 0, none⟩ (.int .i64 ((rd_T62 l0 x27_2).f0))).setCell ⟨gb416, 1, none⟩ (.int .i64 ((rd_T62 l0 x27_2).f1))).setCell ⟨gb416, 2, none⟩ (.int .i64 ((rd_T62 l0 x27_2).f2))).setCell ⟨gb416, 3, none⟩ (.int .i64 ((rd_T62 l0 x27_2).f3)))) := ⟨bs⟩
          generalize ((((w40.setCell ⟨gb416, 0, none⟩ (.int .i64 ((rd_T62 l0 x27_2).f0))).setCell ⟨gb416, 1, none⟩ (.int .i64 ((rd_T62 l0 x27_2).f1))).setCell ⟨gb416, 2, none⟩ (.int .i64 ((rd_T62 l0 x27_2).f2))).setCell ⟨gb416, 3, none⟩ (.int .i64 ((rd_T62 l0 x27_2).f3))) = w42 at n0_ n1_ n2_ n3_ n4_ ⊢
          have HO_2 := n0_
          have HO_3 := n1_
          have HO_7 := n2_
          have BK416 := n3_
          have HB := n4_
          clear n0_ n1_ n2_ n3_ n4_
          have n0_ := Aside0.mk (Kd.R_drew HO_2.out)
          have n1_ := Aside0.mk (Kd.R_drew HO_3.out)
          have n2_ := Aside0.mk (Kd.R_drew HO_7.out)
          have n3_ := Aside0.mk (blk_drew BK416.out)
          have n4_ := Aside0.mk (below_drew1 HB.out)
          clear HO_2
          clear HO_3
          clear HO_7
          clear BK416
          clear HB
          have HO_2 := n0_
          have HO_3 := n1_
          have HO_7 := n2_
          have BK416 := n3_
          have HB := n4_
          clear n0_ n1_ n2_ n3_ n4_
          obtain ⟨Ao44, co44, eo44⟩ := Kd.R_slice HO_7.out
          (first | subst eo44 | (injection eo44 with f1_ f2_ f3_; have f4_ := f1_.symm; have f5_ := f3_.symm; clear f1_ f2_ f3_; subst f4_; subst f5_))
          refine start_ (n := 28) (S := fun w' => w'.cell? ⟨gb416, 0, none⟩ = some (.int .i64 ((rd_T62 l0 x27_2).f0)) ∧ w'.cell? ⟨gb416, 1, none⟩ = some (.int .i64 ((rd_T62 l0 x27_2).f1)) ∧ w'.cell? ⟨gb416, 2, none⟩ = some (.int .i64 ((rd_T62 l0 x27_2).f2)) ∧ w'.cell? ⟨gb416, 3, none⟩ = some (.int .i64 ((rd_T62 l0 x27_2).f3))) (ds := []) #[false, false, false, false, false, false, false, false, false, false, false, false, false, false, false, false, false, false, false, false, false, false, false, false, false, false, false, false] (by kernel_rfl) rfl rfl ⟨(blk_cell BK416.out 0).trans rfl, (blk_cell BK416.out 1).trans rfl, (blk_cell BK416.out 2).trans rfl, (blk_cell BK416.out 3).trans rfl⟩ (fun hHeld => ?_); refine with_tabW impl_LineBreaks.tab11 impl_LineBreaks.bits11 (fun HT_ HW_ => ?_)
          generalize w42.drew = w43 at HO_2 HO_3 HO_7 BK416 HB hHeld ⊢
          refine pure_ (i := 0) (N := some 33) (v := ?_) (a' := ?_) #[true, false, false, false, false, false, false, false, false, false, false, false, false, false, false, false, false, false, false, false, false, false, false, false, false, false, false, false] rfl rfl (any_of HT_.out (by kernel_rfl)) (fun _ _ _ h => h) (Or.inl ⟨by rfl, ?_⟩) ?_ ?_
          rotate_left
          ·intro w'
           go_simp
           with_reducible rfl
          rotate_left
          ·simp only [Act.put, List.setIfInBounds_toArray, List.set_cons_zero, List.set_cons_succ, i64_w]
           rfl
          refine pure_ (i := 1) (N := some 34) (v := ?_) (a' := ?_) #[true, true, false, false, false, false, false, false, false, false, false, false, false, false, false, false, false, false, false, false, false, false, false, false, false, false, false, false] rfl rfl (any_of HT_.out (by kernel_rfl)) (fun _ _ _ h => h) (Or.inl ⟨by rfl, ?_⟩) ?_ ?_
          rotate_left
          ·intro w'
           go_simp
           with_reducible rfl
          rotate_left
          ·simp only [Act.put, List.setIfInBounds_toArray, List.set_cons_zero, List.set_cons_succ, i64_w]
           rfl
          refine pure_ (i := 2) (N := some 35) (v := ?_) (a' := ?_) #[true, true, true, false, false, false, false, false, false, false, false, false, false, false, false, false, false, false, false, false, false, false, false, false, false, false, false, false] rfl rfl (any_of HT_.out (by kernel_rfl)) (fun _ _ _ h => h) (Or.inl ⟨by rfl, ?_⟩) ?_ ?_
          rotate_left
          ·intro w'
           go_simp
           with_reducible rfl
          rotate_left
          ·simp only [Act.put, List.setIfInBounds_toArray, List.set_cons_zero, List.set_cons_succ, i64_w]
           rfl
          refine pure_ (i := 6) (N := some 39) (v := ?_) (a' := ?_) #[true, true, true, false, false, false, true, false, false, false, false, false, false, false, false, false, false, false, false, false, false, false, false, false, false, false, false, false] rfl rfl (any_of HT_.out (by kernel_rfl)) (fun _ _ _ h => h) (Or.inl ⟨by rfl, ?_⟩) ?_ ?_
          rotate_left
          ·intro w'
           go_simp
           with_reducible rfl
          rotate_left
          ·simp only [Act.put, List.setIfInBounds_toArray, List.set_cons_zero, List.set_cons_succ, i64_w]
           rfl
          refine pure_ (i := 10) (N := some 43) (v := ?_) (a' := ?_) #[true, true, true, false, false, false, true, false, false, false, true, false, false, false, false, false, false, false, false, false, false, false, false, false, false, false, false, false] rfl rfl (any_of HT_.out (by kernel_rfl)) (fun _ _ _ h => h) (Or.inl ⟨by rfl, ?_⟩) ?_ ?_
          rotate_left
          ·intro w'
           go_simp
           with_reducible rfl
          rotate_left
          ·simp only [Act.put, List.setIfInBounds_toArray, List.set_cons_zero, List.set_cons_succ, i64_w]
           rfl
          refine pure_ (i := 14) (N := some 47) (v := ?_) (a' := ?_) #[true, true, true, false, false, false, true, false, false, false, true, false, false, false, true, false, false, false, false, false, false, false, false, false, false, false, false, false] rfl rfl (any_of HT_.out (by kernel_rfl)) (fun _ _ _ h => h) (Or.inl ⟨by rfl, ?_⟩) ?_ ?_
          rotate_left
          ·intro w'
           go_simp
           with_reducible rfl
          rotate_left
          ·simp only [Act.put, List.setIfInBounds_toArray, List.set_cons_zero, List.set_cons_succ, i64_w]
           rfl
          refine pure_ (i := 17) (N := some 50) (v := ?_) (a' := ?_) #[true, true, true, false, false, false, true, false, false, false, true, false, false, false, true, false, false, true, false, false, false, false, false, false, false, false, false, false] rfl rfl (any_of HT_.out (by kernel_rfl)) (fun _ _ _ h => h) (Or.inl ⟨by rfl, ?_⟩) ?_ ?_
          rotate_left
          ·intro w'
           go_simp
           with_reducible rfl
          rotate_left
          ·simp only [Act.put, List.setIfInBounds_toArray, List.set_cons_zero, List.set_cons_succ, i64_w]
           rfl
          refine pure_ (i := 18) (N := some 51) (v := ?_) (a' := ?_) #[true, true, true, false, false, false, true, false, false, false, true, false, false, false, true, false, false, true, true, false, false, false, false, false, false, false, false, false] rfl rfl (any_of HT_.out (by kernel_rfl)) (fun _ _ _ h => h) (Or.inl ⟨by rfl, ?_⟩) ?_ ?_
          rotate_left
          ·intro w'
           go_simp
           with_reducible rfl
          rotate_left
          ·simp only [Act.put, List.setIfInBounds_toArray, List.set_cons_zero, List.set_cons_succ, i64_w]
           rfl
          refine pure_ (i := 19) (N := some 52) (v := ?_) (a' := ?_) #[true, true, true, false, false, false, true, false, false, false, true, false, false, false, true, false, false, true, true, true, false, false, false, false, false, false, false, false] rfl rfl (any_of HT_.out (by kernel_rfl)) (fun _ _ _ h => h) (Or.inl ⟨by rfl, ?_⟩) ?_ ?_
          rotate_left
          ·intro w'
           go_simp
           with_reducible rfl
          rotate_left
          ·simp only [Act.put, List.setIfInBounds_toArray, List.set_cons_zero, List.set_cons_succ, i64_w]
           rfl
          refine pure_ (i := 20) (N := some 53) (v := ?_) (a' := ?_) #[true, true, true, false, false, false, true, false, false, false, true, false, false, false, true, false, false, true, true, true, true, false, false, false, false, false, false, false] rfl rfl (any_of HT_.out (by kernel_rfl)) (fun _ _ _ h => h) (Or.inl ⟨by rfl, ?_⟩) ?_ ?_
          rotate_left
          ·intro w'
           go_simp
           with_reducible rfl
          rotate_left
          ·simp only [Act.put, List.setIfInBounds_toArray, List.set_cons_zero, List.set_cons_succ, i64_w]
           rfl
          refine take_ (i := 3) (N := some 36) (v := ?_) (a' := ?_) #[true, true, true, true, false, false, true, false, false, false, true, false, false, false, true, false, false, true, true, true, true, false, false, false, false, false, false, false] rfl rfl (take_ofW HT_.out HW_.out (by kernel_rfl)) (fun _ _ _ h => h) (Or.inl ⟨by rfl, ?_⟩) hHeld ?_ ?_
          rotate_left
          ·rintro w' ⟨s0, s1, s2, s3⟩
           go_simp
           with_reducible rfl
          rotate_left
          ·simp only [Act.put, List.setIfInBounds_toArray, List.set_cons_zero, List.set_cons_succ, i64_w]
           rfl
          refine take_ (i := 7) (N := some 40) (v := ?_) (a' := ?_) #[true, true, true, true, false, false, true, true, false, false, true, false, false, false, true, false, false, true, true, true, true, false, false, false, false, false, false, false] rfl rfl (take_ofW HT_.out HW_.out (by kernel_rfl)) (fun _ _ _ h => h) (Or.inl ⟨by rfl, ?_⟩) hHeld ?_ ?_
          rotate_left
          ·rintro w' ⟨s0, s1, s2, s3⟩
           go_simp
           with_reducible rfl
          rotate_left
          ·simp only [Act.put, List.setIfInBounds_toArray, List.set_cons_zero, List.set_cons_succ, i64_w]
           rfl
          refine take_ (i := 11) (N := some 44) (v := ?_) (a' := ?_) #[true, true, true, true, false, false, true, true, false, false, true, true, false, false, true, false, false, true, true, true, true, false, false, false, false, false, false, false] rfl rfl (take_ofW HT_.out HW_.out (by kernel_rfl)) (fun _ _ _ h => h) (Or.inl ⟨by rfl, ?_⟩) hHeld ?_ ?_
          rotate_left
          ·rintro w' ⟨s0, s1, s2, s3⟩
           go_simp
           with_reducible rfl
          rotate_left
          ·simp only [Act.put, List.setIfInBounds_toArray, List.set_cons_zero, List.set_cons_succ, i64_w]
           rfl
          refine take_ (i := 15) (N := some 48) (v := ?_) (a' := ?_) #[true, true, true, true, false, false, true, true, false, false, true, true, false, false, true, true, false, true, true, true, true, false, false, false, false, false, false, false] rfl rfl (take_ofW HT_.out HW_.out (by kernel_rfl)) (fun _ _ _ h => h) (Or.inl ⟨by rfl, ?_⟩) hHeld ?_ ?_
          rotate_left
          ·rintro w' ⟨s0, s1, s2, s3⟩
           go_simp
           with_reducible rfl
          rotate_left
          ·simp only [Act.put, List.setIfInBounds_toArray, List.set_cons_zero, List.set_cons_succ, i64_w]
           rfl
          refine one_ (i := 4) (N := some 37) #[true, true, true, true, true, false, true, true, false, false, true, true, false, false, true, true, false, true, true, true, true, false, false, false, false, false, false, false] rfl rfl (one_of HT_.out (by kernel_rfl)) (by decide) (fun K hK => ?_)
          refine goes_ Try.func23 (by kernel_rfl) rfl #[.slice Ao44 t412.length co44, .int .i64 ((rd_T62 l0 x27_2).f0)] (by rfl) rfl rfl mz ?_
          with_reducible refine (impl_numberOf.calls _ _ t412 ((rd_T62 l0 x27_2).f0) t417 _ ?side1 ?side2 A14.out).mono ?_
          (case side1 => repeat (first | exact (Kd.R_reads' HO_7.out).2.2 | (with_reducible refine Kd.C_alloc ?_ _) | (with_reducible refine Kd.C_drewN ?_ _) | (with_reducible refine Kd.C_drew ?_)))
          (case side2 => exact (Kd.R_reads' HO_7.out).2.1)
          rintro e w' ⟨rfl, ⟨nd, rfl⟩⟩
          refine ⟨_, rfl, ?_⟩
          refine hK.out _ _ ⟨(blk_cell BK416.out 0).trans rfl, (blk_cell BK416.out 1).trans rfl, (blk_cell BK416.out 2).trans rfl, (blk_cell BK416.out 3).trans rfl⟩ (fun hHeld => ?_)
          clear hK K
          refine norm_ (a' := ?_) ?_ ?_
          rotate_left
          ·show Act.put _ (some 37) _ = _
           simp only [Act.put, List.setIfInBounds_toArray, List.set_cons_zero, List.set_cons_succ, i64_w]
           rfl
          refine one_ (i := 5) (N := some 38) #[true, true, true, true, true, true, true, true, false, false, true, true, false, false, true, true, false, true, true, true, true, false, false, false, false, false, false, false] rfl rfl (one_of HT_.out (by kernel_rfl)) (by decide) (fun K hK => ?_)
          refine goes_ Try.func50 (by kernel_rfl) rfl #[] (by rfl) rfl rfl mz ?_
          with_reducible refine (impl_generals.calls  t418 _ A15.out).mono ?_
          rintro e w45 ⟨v419, rfl, ho0, hb⟩
          refine ⟨_, rfl, ?_⟩
          have n0_ := Aside0.mk (Kd.R_elder' (by (with_reducible repeat (first | apply Kd.R_alloc | apply Kd.R_drewN | apply Kd.R_drew)); exact HO_2.out) (Kd.R_base ho0) hb)
          have n1_ := Aside0.mk (Kd.R_elder' (by (with_reducible repeat (first | apply Kd.R_alloc | apply Kd.R_drewN | apply Kd.R_drew)); exact HO_3.out) (Kd.R_base ho0) hb)
          have n2_ := Aside0.mk (Kd.R_elder' (by (with_reducible repeat (first | apply Kd.R_alloc | apply Kd.R_drewN | apply Kd.R_drew)); exact HO_7.out) (Kd.R_base ho0) hb)
          have n3_ := Aside0.mk (Kd.R_lower (Kd.R_new' (Kd.R_new' (Kd.R_new' ho0 (Kd.R_lt (by (with_reducible repeat (first | apply Kd.R_alloc | apply Kd.R_drewN | apply Kd.R_drew)); exact HO_2.out))) (Kd.R_lt (by (with_reducible repeat (first | apply Kd.R_alloc | apply Kd.R_drewN | apply Kd.R_drew)); exact HO_3.out))) (Kd.R_lt (by (with_reducible repeat (first | apply Kd.R_alloc | apply Kd.R_drewN | apply Kd.R_drew)); exact HO_7.out))) (below_size bs))
          have n4_ := Aside0.mk (blk_below (g := gb416) (o := .cells #[.int .i64 ((rd_T62 l0 x27_2).f0), .int .i64 ((rd_T62 l0 x27_2).f1), .int .i64 ((rd_T62 l0 x27_2).f2), .int .i64 ((rd_T62 l0 x27_2).f3)] 62 (0, 0)) kz hb)
          have n5_ := Aside0.mk (below_step bs hb)
          clear HO_2
          clear HO_3
          clear HO_7
          clear BK416
          clear HB
          have HO_2 := n0_
          have HO_3 := n1_
          have HO_7 := n2_
          have HO420 := n3_
          have BK416 := n4_
          have HB := n5_
          clear n0_ n1_ n2_ n3_ n4_ n5_
          obtain ⟨Ao46, co46, eo46⟩ := Kd.R_slice HO420.out
          (first | subst eo46 | (injection eo46 with f1_ f2_ f3_; have f4_ := f1_.symm; have f5_ := f3_.symm; clear f1_ f2_ f3_; subst f4_; subst f5_))
          refine hK.out _ _ ⟨(blk_cell BK416.out 0).trans rfl, (blk_cell BK416.out 1).trans rfl, (blk_cell BK416.out 2).trans rfl, (blk_cell BK416.out 3).trans rfl⟩ (fun hHeld => ?_)
          clear hK K
          refine norm_ (a' := ?_) ?_ ?_
          rotate_left
          ·show Act.put _ (some 38) _ = _
           simp only [Act.put, List.setIfInBounds_toArray, List.set_cons_zero, List.set_cons_succ, i64_w]
           rfl
          refine one_ (i := 8) (N := some 41) #[true, true, true, true, true, true, true, true, true, false, true, true, false, false, true, true, false, true, true, true, true, false, false, false, false, false, false, false] rfl rfl (one_of HT_.out (by kernel_rfl)) (by decide) (fun K hK => ?_)
          refine goes_ Try.func23 (by kernel_rfl) rfl #[.slice Ao46 t418.length co46, .int .i64 ((rd_T62 l0 x27_2).f1)] (by rfl) rfl rfl mz ?_
          with_reducible refine (impl_numberOf.calls _ _ t418 ((rd_T62 l0 x27_2).f1) t421 _ ?side1 ?side2 A16.out).mono ?_
          (case side1 => repeat (first | exact (Kd.R_reads' HO420.out).2.2 | (with_reducible refine Kd.C_alloc ?_ _) | (with_reducible refine Kd.C_drewN ?_ _) | (with_reducible refine Kd.C_drew ?_)))
          (case side2 => exact (Kd.R_reads' HO420.out).2.1)
          rintro e w' ⟨rfl, ⟨nd, rfl⟩⟩
          refine ⟨_, rfl, ?_⟩
          refine hK.out _ _ ⟨(blk_cell BK416.out 0).trans rfl, (blk_cell BK416.out 1).trans rfl, (blk_cell BK416.out 2).trans rfl, (blk_cell BK416.out 3).trans rfl⟩ (fun hHeld => ?_)
          clear hK K
          refine norm_ (a' := ?_) ?_ ?_
          rotate_left
          ·show Act.put _ (some 41) _ = _
           simp only [Act.put, List.setIfInBounds_toArray, List.set_cons_zero, List.set_cons_succ, i64_w]
           rfl
          refine one_ (i := 9) (N := some 42) #[true, true, true, true, true, true, true, true, true, true, true, true, false, false, true, true, false, true, true, true, true, false, false, false, false, false, false, false] rfl rfl (one_of HT_.out (by kernel_rfl)) (by decide) (fun K hK => ?_)
          refine goes_ Try.func51 (by kernel_rfl) rfl #[] (by rfl) rfl rfl mz ?_
          with_reducible refine (impl_easts.calls  t422 _ A17.out).mono ?_
          rintro e w47 ⟨v423, rfl, ho0, hb⟩
          refine ⟨_, rfl, ?_⟩
          have n0_ := Aside0.mk (Kd.R_elder' (by (with_reducible repeat (first | apply Kd.R_alloc | apply Kd.R_drewN | apply Kd.R_drew)); exact HO_2.out) (Kd.R_base ho0) hb)
          have n1_ := Aside0.mk (Kd.R_elder' (by (with_reducible repeat (first | apply Kd.R_alloc | apply Kd.R_drewN | apply Kd.R_drew)); exact HO_3.out) (Kd.R_base ho0) hb)
          have n2_ := Aside0.mk (Kd.R_elder' (by (with_reducible repeat (first | apply Kd.R_alloc | apply Kd.R_drewN | apply Kd.R_drew)); exact HO_7.out) (Kd.R_base ho0) hb)
          have n3_ := Aside0.mk (Kd.R_elder' (by (with_reducible repeat (first | apply Kd.R_alloc | apply Kd.R_drewN | apply Kd.R_drew)); exact HO420.out) (Kd.R_base ho0) hb)
          have n4_ := Aside0.mk (Kd.R_lower (Kd.R_new' (Kd.R_new' (Kd.R_new' (Kd.R_new' ho0 (Kd.R_lt (by (with_reducible repeat (first | apply Kd.R_alloc | apply Kd.R_drewN | apply Kd.R_drew)); exact HO_2.out))) (Kd.R_lt (by (with_reducible repeat (first | apply Kd.R_alloc | apply Kd.R_drewN | apply Kd.R_drew)); exact HO_3.out))) (Kd.R_lt (by (with_reducible repeat (first | apply Kd.R_alloc | apply Kd.R_drewN | apply Kd.R_drew)); exact HO_7.out))) (Kd.R_lt (by (with_reducible repeat (first | apply Kd.R_alloc | apply Kd.R_drewN | apply Kd.R_drew)); exact HO420.out))) (below_size bs))
          have n5_ := Aside0.mk (blk_below (g := gb416) (o := .cells #[.int .i64 ((rd_T62 l0 x27_2).f0), .int .i64 ((rd_T62 l0 x27_2).f1), .int .i64 ((rd_T62 l0 x27_2).f2), .int .i64 ((rd_T62 l0 x27_2).f3)] 62 (0, 0)) kz hb)
          have n6_ := Aside0.mk (below_step bs hb)
          clear HO_2
          clear HO_3
          clear HO_7
          clear HO420
          clear BK416
          clear HB
          have HO_2 := n0_
          have HO_3 := n1_
          have HO_7 := n2_
          have HO420 := n3_
          have HO424 := n4_
          have BK416 := n5_
          have HB := n6_
          clear n0_ n1_ n2_ n3_ n4_ n5_ n6_
          obtain ⟨Ao48, co48, eo48⟩ := Kd.R_slice HO424.out
          (first | subst eo48 | (injection eo48 with f1_ f2_ f3_; have f4_ := f1_.symm; have f5_ := f3_.symm; clear f1_ f2_ f3_; subst f4_; subst f5_))
          refine hK.out _ _ ⟨(blk_cell BK416.out 0).trans rfl, (blk_cell BK416.out 1).trans rfl, (blk_cell BK416.out 2).trans rfl, (blk_cell BK416.out 3).trans rfl⟩ (fun hHeld => ?_)
          clear hK K
          refine norm_ (a' := ?_) ?_ ?_
          rotate_left
          ·show Act.put _ (some 42) _ = _
           simp only [Act.put, List.setIfInBounds_toArray, List.set_cons_zero, List.set_cons_succ, i64_w]
           rfl
          refine one_ (i := 12) (N := some 45) #[true, true, true, true, true, true, true, true, true, true, true, true, true, false, true, true, false, true, true, true, true, false, false, false, false, false, false, false] rfl rfl (one_of HT_.out (by kernel_rfl)) (by decide) (fun K hK => ?_)
          refine goes_ Try.func23 (by kernel_rfl) rfl #[.slice Ao48 t422.length co48, .int .i64 ((rd_T62 l0 x27_2).f2)] (by rfl) rfl rfl mz ?_
          with_reducible refine (impl_numberOf.calls _ _ t422 ((rd_T62 l0 x27_2).f2) t425 _ ?side1 ?side2 A18.out).mono ?_
          (case side1 => repeat (first | exact (Kd.R_reads' HO424.out).2.2 | (with_reducible refine Kd.C_alloc ?_ _) | (with_reducible refine Kd.C_drewN ?_ _) | (with_reducible refine Kd.C_drew ?_)))
          (case side2 => exact (Kd.R_reads' HO424.out).2.1)
          rintro e w' ⟨rfl, ⟨nd, rfl⟩⟩
          refine ⟨_, rfl, ?_⟩
          refine hK.out _ _ ⟨(blk_cell BK416.out 0).trans rfl, (blk_cell BK416.out 1).trans rfl, (blk_cell BK416.out 2).trans rfl, (blk_cell BK416.out 3).trans rfl⟩ (fun hHeld => ?_)
          clear hK K
          refine norm_ (a' := ?_) ?_ ?_
          rotate_left
          ·show Act.put _ (some 45) _ = _
           simp only [Act.put, List.setIfInBounds_toArray, List.set_cons_zero, List.set_cons_succ, i64_w]
           rfl
          refine one_ (i := 13) (N := some 46) #[true, true, true, true, true, true, true, true, true, true, true, true, true, true, true, true, false, true, true, true, true, false, false, false, false, false, false, false] rfl rfl (one_of HT_.out (by kernel_rfl)) (by decide) (fun K hK => ?_)
          refine goes_ Try.func21 (by kernel_rfl) rfl #[] (by rfl) rfl rfl mz ?_
          with_reducible refine (impl_graphemes.calls  t426 _ A19.out).mono ?_
          rintro e w49 ⟨v427, rfl, ho0, hb⟩
          refine ⟨_, rfl, ?_⟩
          have n0_ := Aside0.mk (Kd.R_elder' (by (with_reducible repeat (first | apply Kd.R_alloc | apply Kd.R_drewN | apply Kd.R_drew)); exact HO_2.out) (Kd.R_base ho0) hb)
          have n1_ := Aside0.mk (Kd.R_elder' (by (with_reducible repeat (first | apply Kd.R_alloc | apply Kd.R_drewN | apply Kd.R_drew)); exact HO_3.out) (Kd.R_base ho0) hb)
          have n2_ := Aside0.mk (Kd.R_elder' (by (with_reducible repeat (first | apply Kd.R_alloc | apply Kd.R_drewN | apply Kd.R_drew)); exact HO_7.out) (Kd.R_base ho0) hb)
          have n3_ := Aside0.mk (Kd.R_elder' (by (with_reducible repeat (first | apply Kd.R_alloc | apply Kd.R_drewN | apply Kd.R_drew)); exact HO420.out) (Kd.R_base ho0) hb)
          have n4_ := Aside0.mk (Kd.R_elder' (by (with_reducible repeat (first | apply Kd.R_alloc | apply Kd.R_drewN | apply Kd.R_drew)); exact HO424.out) (Kd.R_base ho0) hb)
          have n5_ := Aside0.mk (Kd.R_lower (Kd.R_new' (Kd.R_new' (Kd.R_new' (Kd.R_new' (Kd.R_new' ho0 (Kd.R_lt (by (with_reducible repeat (first | apply Kd.R_alloc | apply Kd.R_drewN | apply Kd.R_drew)); exact HO_2.out))) (Kd.R_lt (by (with_reducible repeat (first | apply Kd.R_alloc | apply Kd.R_drewN | apply Kd.R_drew)); exact HO_3.out))) (Kd.R_lt (by (with_reducible repeat (first | apply Kd.R_alloc | apply Kd.R_drewN | apply Kd.R_drew)); exact HO_7.out))) (Kd.R_lt (by (with_reducible repeat (first | apply Kd.R_alloc | apply Kd.R_drewN | apply Kd.R_drew)); exact HO420.out))) (Kd.R_lt (by (with_reducible repeat (first | apply Kd.R_alloc | apply Kd.R_drewN | apply Kd.R_drew)); exact HO424.out))) (below_size bs))
          have n6_ := Aside0.mk (blk_below (g := gb416) (o := .cells #[.int .i64 ((rd_T62 l0 x27_2).f0), .int .i64 ((rd_T62 l0 x27_2).f1), .int .i64 ((rd_T62 l0 x27_2).f2), .int .i64 ((rd_T62 l0 x27_2).f3)] 62 (0, 0)) kz hb)
          have n7_ := Aside0.mk (below_step bs hb)
          clear HO_2
          clear HO_3
          clear HO_7
          clear HO420
          clear HO424
          clear BK416
          clear HB
          have HO_2 := n0_
          have HO_3 := n1_
          have HO_7 := n2_
          have HO420 := n3_
          have HO424 := n4_
          have HO428 := n5_
          have BK416 := n6_
          have HB := n7_
          clear n0_ n1_ n2_ n3_ n4_ n5_ n6_ n7_
          obtain ⟨Ao50, co50, eo50⟩ := Kd.R_slice HO428.out
          (first | subst eo50 | (injection eo50 with f1_ f2_ f3_; have f4_ := f1_.symm; have f5_ := f3_.symm; clear f1_ f2_ f3_; subst f4_; subst f5_))
          refine hK.out _ _ ⟨(blk_cell BK416.out 0).trans rfl, (blk_cell BK416.out 1).trans rfl, (blk_cell BK416.out 2).trans rfl, (blk_cell BK416.out 3).trans rfl⟩ (fun hHeld => ?_)
          clear hK K
          refine norm_ (a' := ?_) ?_ ?_
          rotate_left
          ·show Act.put _ (some 46) _ = _
           simp only [Act.put, List.setIfInBounds_toArray, List.set_cons_zero, List.set_cons_succ, i64_w]
           rfl
          refine one_ (i := 16) (N := some 49) #[true, true, true, true, true, true, true, true, true, true, true, true, true, true, true, true, true, true, true, true, true, false, false, false, false, false, false, false] rfl rfl (one_of HT_.out (by kernel_rfl)) (by decide) (fun K hK => ?_)
          refine goes_ Try.func23 (by kernel_rfl) rfl #[.slice Ao50 t426.length co50, .int .i64 ((rd_T62 l0 x27_2).f3)] (by rfl) rfl rfl mz ?_
          with_reducible refine (impl_numberOf.calls _ _ t426 ((rd_T62 l0 x27_2).f3) t429 _ ?side1 ?side2 A20.out).mono ?_
          (case side1 => repeat (first | exact (Kd.R_reads' HO428.out).2.2 | (with_reducible refine Kd.C_alloc ?_ _) | (with_reducible refine Kd.C_drewN ?_ _) | (with_reducible refine Kd.C_drew ?_)))
          (case side2 => exact (Kd.R_reads' HO428.out).2.1)
          rintro e w' ⟨rfl, ⟨nd, rfl⟩⟩
          refine ⟨_, rfl, ?_⟩
          obtain ⟨Ao51, co51, eo51⟩ := Kd.R_slice HO_3.out
          (first | subst eo51 | (injection eo51 with f1_ f2_ f3_; have f4_ := f1_.symm; have f5_ := f3_.symm; clear f1_ f2_ f3_; subst f4_; subst f5_))
          refine hK.out _ _ ⟨(blk_cell BK416.out 0).trans rfl, (blk_cell BK416.out 1).trans rfl, (blk_cell BK416.out 2).trans rfl, (blk_cell BK416.out 3).trans rfl⟩ (fun hHeld => ?_)
          clear hK K
          refine norm_ (a' := ?_) ?_ ?_
          rotate_left
          ·show Act.put _ (some 49) _ = _
           simp only [Act.put, List.setIfInBounds_toArray, List.set_cons_zero, List.set_cons_succ, i64_w]
           rfl
          refine one_ (i := 21) (N := some 54) #[true, true, true, true, true, true, true, true, true, true, true, true, true, true, true, true, true, true, true, true, true, true, false, false, false, false, false, false] rfl rfl (one_of HT_.out (by kernel_rfl)) (by decide) (fun K hK => ?_)
          refine goes_ Try.func29 (by kernel_rfl) rfl #[.slice Ao51 x3_1.length co51, .int .i64 (wrap64 (x27_2 + 1)), .slice Ao44 t412.length co44] (by rfl) rfl rfl mz ?_
          refine (Wb.behind_calls _ _ x3_1.length _ t412.length _ (wrap64 (x27_2 + 1)) _).mono ?_
          rintro e w52 ⟨rfl, rfl⟩
          refine ⟨_, rfl, ?_⟩
          refine hK.out _ _ ⟨(blk_cell (blk_below (g := gb416) (o := .cells #[.int .i64 ((rd_T62 l0 x27_2).f0), .int .i64 ((rd_T62 l0 x27_2).f1), .int .i64 ((rd_T62 l0 x27_2).f2), .int .i64 ((rd_T62 l0 x27_2).f3)] 62 (0, 0)) kz (Lb.laid_below _ _ _ _ _ _ _ _)) 0).trans rfl, (blk_cell (blk_below (g := gb416) (o := .cells #[.int .i64 ((rd_T62 l0 x27_2).f0), .int .i64 ((rd_T62 l0 x27_2).f1), .int .i64 ((rd_T62 l0 x27_2).f2), .int .i64 ((rd_T62 l0 x27_2).f3)] 62 (0, 0)) kz (Lb.laid_below _ _ _ _ _ _ _ _)) 1).trans rfl, (blk_cell (blk_below (g := gb416) (o := .cells #[.int .i64 ((rd_T62 l0 x27_2).f0), .int .i64 ((rd_T62 l0 x27_2).f1), .int .i64 ((rd_T62 l0 x27_2).f2), .int .i64 ((rd_T62 l0 x27_2).f3)] 62 (0, 0)) kz (Lb.laid_below _ _ _ _ _ _ _ _)) 2).trans rfl, (blk_cell (blk_below (g := gb416) (o := .cells #[.int .i64 ((rd_T62 l0 x27_2).f0), .int .i64 ((rd_T62 l0 x27_2).f1), .int .i64 ((rd_T62 l0 x27_2).f2), .int .i64 ((rd_T62 l0 x27_2).f3)] 62 (0, 0)) kz (Lb.laid_below _ _ _ _ _ _ _ _)) 3).trans rfl⟩ (fun hHeld => ?_)
          clear hK K
          refine norm_ (a' := ?_) ?_ ?_
          rotate_left
          ·show Act.put _ (some 54) _ = _
           simp only [Act.put, List.setIfInBounds_toArray, List.set_cons_zero, List.set_cons_succ, i64_w]
           rfl
          refine one_ (i := 22) (N := some 55) #[true, true, true, true, true, true, true, true, true, true, true, true, true, true, true, true, true, true, true, true, true, true, true, false, false, false, false, false] rfl rfl (one_of HT_.out (by kernel_rfl)) (by decide) (fun K hK => ?_)
          refine goes_ Try.func49 (by kernel_rfl) rfl #[.int .i64 x6_2, .int .i64 t417, .int .i64 t421, .int .i64 t425, .int .i64 t429, Wb.asker _] (by rfl) rfl rfl mz ?_
          refine (Lb.zz_true _ _ _ _ _ x3_1 t412 x27_2 x6_2 t417 t421 t425 t429 t431 t432 (zzg_eq A22.out).1 (zzg_eq A22.out).2 ?side1 ?side3 ?side4).mono ?_
          (case side1 => repeat (first | exact (Kd.R_reads' HO_3.out).2.2 | (with_reducible refine Kd.C_alloc ?_ _) | (with_reducible refine Kd.C_drewN ?_ _) | (with_reducible refine Kd.C_drew ?_)))
          (case side3 => repeat (first | exact (Kd.R_reads' HO_7.out).2.2 | (with_reducible refine Kd.C_alloc ?_ _) | (with_reducible refine Kd.C_drewN ?_ _) | (with_reducible refine Kd.C_drew ?_)))
          (case side4 => exact (Kd.R_reads' HO_7.out).2.1)
          rintro e w53 ⟨rfl, hb⟩
          refine ⟨_, rfl, ?_⟩
          have n0_ := Aside0.mk (Kd.R_below (by (with_reducible repeat (first | apply Kd.R_alloc | apply Kd.R_drewN | apply Kd.R_drew)); exact HO_2.out) hb)
          have n1_ := Aside0.mk (Kd.R_below (by (with_reducible repeat (first | apply Kd.R_alloc | apply Kd.R_drewN | apply Kd.R_drew)); exact HO_3.out) hb)
          have n2_ := Aside0.mk (Kd.R_below (by (with_reducible repeat (first | apply Kd.R_alloc | apply Kd.R_drewN | apply Kd.R_drew)); exact HO_7.out) hb)
          have n3_ := Aside0.mk (Kd.R_below (by (with_reducible repeat (first | apply Kd.R_alloc | apply Kd.R_drewN | apply Kd.R_drew)); exact HO420.out) hb)
          have n4_ := Aside0.mk (Kd.R_below (by (with_reducible repeat (first | apply Kd.R_alloc | apply Kd.R_drewN | apply Kd.R_drew)); exact HO424.out) hb)
          have n5_ := Aside0.mk (Kd.R_below (by (with_reducible repeat (first | apply Kd.R_alloc | apply Kd.R_drewN | apply Kd.R_drew)); exact HO428.out) hb)
          have n6_ := Aside0.mk (blk_below (g := gb416) (o := .cells #[.int .i64 ((rd_T62 l0 x27_2).f0), .int .i64 ((rd_T62 l0 x27_2).f1), .int .i64 ((rd_T62 l0 x27_2).f2), .int .i64 ((rd_T62 l0 x27_2).f3)] 62 (0, 0)) kz hb)
          have n7_ := Aside0.mk (below_step bs hb)
          clear HO_2
          clear HO_3
          clear HO_7
          clear HO420
          clear HO424
          clear HO428
          clear BK416
          clear HB
          have HO_2 := n0_
          have HO_3 := n1_
          have HO_7 := n2_
          have HO420 := n3_
          have HO424 := n4_
          have HO428 := n5_
          have BK416 := n6_
          have HB := n7_
          clear n0_ n1_ n2_ n3_ n4_ n5_ n6_ n7_
          refine hK.out _ _ ⟨(blk_cell BK416.out 0).trans rfl, (blk_cell BK416.out 1).trans rfl, (blk_cell BK416.out 2).trans rfl, (blk_cell BK416.out 3).trans rfl⟩ (fun hHeld => ?_)
          clear hK K
          refine norm_ (a' := ?_) ?_ ?_
          rotate_left
          ·show Act.put _ (some 55) _ = _
           simp only [Act.put, List.setIfInBounds_toArray, List.set_cons_zero, List.set_cons_succ, i64_w]
           rfl
          refine pure_ (i := 23) (N := some 32) (v := ?_) (a' := ?_) #[true, true, true, true, true, true, true, true, true, true, true, true, true, true, true, true, true, true, true, true, true, true, true, true, false, false, false, false] rfl rfl (any_of HT_.out (by kernel_rfl)) (fun _ _ _ h => h) (Or.inl ⟨by rfl, ?_⟩) ?_ ?_
          rotate_left
          ·intro w'
           go_simp
           with_reducible rfl
          rotate_left
          ·simp only [Act.put, List.setIfInBounds_toArray, List.set_cons_zero, List.set_cons_succ, i64_w]
           rfl
          refine pure_ (i := 24) (N := some 56) (v := ?_) (a' := ?_) #[true, true, true, true, true, true, true, true, true, true, true, true, true, true, true, true, true, true, true, true, true, true, true, true, true, false, false, false] rfl rfl (any_of HT_.out (by kernel_rfl)) (fun _ _ _ h => h) (Or.inl ⟨by rfl, ?_⟩) ?_ ?_
          rotate_left
          ·intro w'
           go_simp
           with_reducible rfl
          rotate_left
          ·simp only [Act.put, List.setIfInBounds_toArray, List.set_cons_zero, List.set_cons_succ, i64_w]
           rfl
          refine pure_ (i := 25) (N := some 57) (v := ?_) (a' := ?_) #[true, true, true, true, true, true, true, true, true, true, true, true, true, true, true, true, true, true, true, true, true, true, true, true, true, true, false, false] rfl rfl (any_of HT_.out (by kernel_rfl)) (fun _ _ _ h => h) (Or.inl ⟨by rfl, ?_⟩) ?_ ?_
          rotate_left
          ·intro w'
           go_simp
           with_reducible rfl
          rotate_left
          ·simp only [Act.put, List.setIfInBounds_toArray, List.set_cons_zero, List.set_cons_succ, i64_w]
           rfl
          refine pure_ (i := 26) (N := some 10) (v := ?_) (a' := ?_) #[true, true, true, true, true, true, true, true, true, true, true, true, true, true, true, true, true, true, true, true, true, true, true, true, true, true, true, false] rfl rfl (any_of HT_.out (by kernel_rfl)) (fun _ _ _ h => h) (Or.inl ⟨by rfl, ?_⟩) ?_ ?_
          rotate_left
          ·intro w'
           go_simp
           with_reducible rfl
          rotate_left
          ·simp only [Act.put, List.setIfInBounds_toArray, List.set_cons_zero, List.set_cons_succ, i64_w]
           rfl
          refine pure_ (i := 27) (N := some 11) (v := ?_) (a' := ?_) #[true, true, true, true, true, true, true, true, true, true, true, true, true, true, true, true, true, true, true, true, true, true, true, true, true, true, true, true] rfl rfl (any_of HT_.out (by kernel_rfl)) (fun _ _ _ h => h) (Or.inl ⟨by rfl, ?_⟩) ?_ ?_
          rotate_left
          ·intro w'
           go_simp
           with_reducible rfl
          rotate_left
          ·simp only [Act.put, List.setIfInBounds_toArray, List.set_cons_zero, List.set_cons_succ, i64_w]
           rfl
          refine done_ (done_of HT_.out (by kernel_rfl)) ?_
          try go_wp2
          go_roundg k2
          case measure => have := HK1.out; have := HK2.out; omega
          case rel => exact ⟨(x2_2), (t431), (wrap64 (x27_2 + 1)), vz, vz, H', ⟨by have := HK1.out; have := HK2.out; omega⟩, ⟨by (with_reducible repeat (first | apply Kd.R_alloc | apply Kd.R_drewN | apply Kd.R_drew)); exact Kd.R_mono HO_2.out (fun _ hk => ⟨hk.1.1.1.1, hk.1.1.1.2⟩)⟩, ⟨by (with_reducible repeat (first | apply Kd.R_alloc | apply Kd.R_drewN | apply Kd.R_drew)); exact Kd.R_mono HO_3.out (fun _ hk => ⟨hk.1.1.1.1, hk.1.1.1.2⟩)⟩, ⟨by (with_reducible repeat (first | apply Kd.R_alloc | apply Kd.R_drewN | apply Kd.R_drew)); exact Kd.R_mono HO_7.out (fun _ hk => ⟨hk.1.1.1.1, hk.1.1.1.2⟩)⟩, ⟨bs⟩⟩
        ·rw [if_neg c13] at H
         exact absurd H (by simp)
       ·rw [if_neg c12] at H
        exact absurd H (by simp)
      ·rw [if_neg c11] at H
       have c11b0 : decide (x27_2 < (l0.length : Int)) = false := decide_eq_false c11
       clear c11
       obtain rfl := Option.some.inj H
       go_wp2
       go_ret
       exact ⟨_, ez, by (with_reducible repeat (first | apply Kd.R_alloc | apply Kd.R_drewN | apply Kd.R_drew)); exact Kd.R_mono HO_2.out (fun _ hk => trivial), bz⟩

end
end Go.Proofs.Ytnanfoahimccpaa.Ln
