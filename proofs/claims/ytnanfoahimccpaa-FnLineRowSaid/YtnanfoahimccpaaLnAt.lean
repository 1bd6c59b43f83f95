/- lbAt: its walk. Lines of the kit's print over a fake, turned to the true function by a program. -/
import Derived.Test.YtnanfoahimccpaaLnx1
namespace Go.Proofs.Ytnanfoahimccpaa.Ln
open Go.RowKit Go.Proofs.YtnanfoahimccpaaW.PrintWords Go.Proofs.YtnanfoahimccpaaW.PrintLast Go.Proofs.YtnanfoahimccpaaW.PrintMore
attribute [local go_sem] max2_int max_two
set_option linter.unusedVariables false
set_option linter.unusedSimpArgs false

section
variable {P : Program} {ops : Array Oper} {Q : Exit → Act → World → Prop}
/-- A call of a function value whose closure is known. -/
theorem goesV_ {oi : Oper} {N : Option Tmp} {a : Act} {w : World} {K : Act → World → Prop} {f : FuncId} {fn : Func} {x : Operand} {xs : Array Operand} {ts : Array TypeId} (hf : P.funcs[f]? = some fn) (hname : (fn.name == "runtime.NumGoroutine") = false) (hb : fn.body.isSome = true) (args cap all : Array Value) (hall : args ++ cap = all)
  (hw : Region.wanted oi (yielded ops a.tmps) = true) (hN : oi.dst = N) (hop : oi.op = .call { callee := .value x, args := xs, argTypes := ts }) (hx : a.eval x = .func (.func f) #[] cap) (hargs : xs.map a.eval = args)
  (h : Calls P f all w fun e w' => ∃ v, e = .returned v ∧ K (a.put N v) w') : if Region.wanted oi (yielded ops a.tmps) = true then Oper.wp P oi a w K Q else K (a.put N undef) w := by
 subst hall
 refine call_ f (args ++ cap) hw hN ?_ h
 have he := enters_ hf hname hb (args ++ cap) w
 unfold execOp
 simp [hop, resolve, Deferred.ofValue, invoke, hx, hargs, he]
end

mutual
def spec_lbAt.j1 : Nat → Int → List (S64) → Int → Option (Int × Int × Int × Int × Int × Int)
 | 0, _, _, _ => none
 | k + 1, x1, x2, x6 => (spec_lbAt_1.f (wrap64 (x1 - 2)) x2).bind fun t104 => ((spec_lbAt_1.f (wrap64 (x1 - 1)) x2).bind fun t105 => ((spec_lbAt_1.f x1 x2).bind fun t106 => ((spec_lbAt_1.f (wrap64 (x1 + 1)) x2).bind fun t107 => ((spec_lbAt_1.f x6 x2).bind fun t108 => (some (x1, t104, t105, t106, t107, t108))))))
def spec_lbAt.l0 : Nat → Int → List (S64) → Int → Option (Int × Int × Int × Int × Int × Int)
 | 0, _, _, _ => none
 | k + 1, x1, x2, x6 => if x6 ≥ 0 then (if 0 ≤ x6 then (if x6 < (x2.length : Int) then (if ((rd_T64 x2 x6).f0) = 7 then (spec_lbAt.l0 k x1 x2 (wrap64 (x6 - 1))) else (spec_lbAt.j1 k x1 x2 x6)) else (none)) else (none)) else (spec_lbAt.j1 k x1 x2 x6)
end
def spec_lbAt.f (k : Nat) (l0 : List (S64)) (a1 : Int) : Option (Int × Int × Int × Int × Int × Int) := spec_lbAt.l0 k a1 l0 (wrap64 (a1 - 1))
def spec_lbAt.T5 : Bool × List (List Nat × List Nat) := (true, [([], []), ([], []), ([], []), ([], []), ([3], [3]), ([2, 4], [2, 4]), ([], []), ([], []), ([7], [7]), ([6, 8, 5], [6, 8]), ([], []), ([], []), ([10, 11, 9], [10, 11]), ([], []), ([], []), ([14], [14]), ([13, 15, 12], [13, 15]), ([], []), ([], []), ([17, 18, 16], [17, 18]), ([0, 1, 5, 9, 12, 16, 19], [0, 1, 5, 9, 12, 16, 19]), ([20, 19, 0, 1, 2, 3, 4, 5, 6, 7, 8, 9, 10, 11, 12, 13, 14, 15, 16, 17, 18, 19, 20], [20])])
def spec_lbAt.B5 : List Nat := [0, 0, 0, 0, 8, 28, 0, 0, 128, 508, 0, 0, 4092, 0, 0, 16384, 65532, 0, 0, 524284, 1048575, 2097151]
theorem spec_lbAt.tab5 : rtab .any (opsOf Try.f63 5) = spec_lbAt.T5 := by kernel_rfl
theorem spec_lbAt.bits5 : waitsOk spec_lbAt.T5.2 spec_lbAt.B5 = true := by kernel_rfl
set_option maxHeartbeats 1000000 in
set_option maxRecDepth 100000 in
theorem spec_lbAt.calls (k : Nat) (A0 : Option Addr) (c0 : Nat) (l0 : List (S64)) (a1 : Int) (r2 : Int) (r3 : Int) (r4 : Int) (r5 : Int) (r6 : Int) (r7 : Int) (w : World) (hr0 : Kd.C k64 w A0 l0.length l0) (hc0 : l0.length ≤ c0) (h : spec_lbAt.f k l0 a1 = some (r2, r3, r4, r5, r6, r7)) :
  Calls Try.prog 63 #[.slice A0 l0.length c0, .int .i64 a1] w fun e w' => e = .returned (.agg #[.slice A0 l0.length c0, .int .i64 r2, .int .i64 r3, .int .i64 r4, .int .i64 r5, .int .i64 r6, .int .i64 r7]) ∧ Below w.heap.size w w' := by
 have hu74 := Try.underlying74
 have HR0 := Aside0.mk hr0
 have HC0 := Aside0.mk hc0
 clear hr0 hc0
 have HB := Aside0.mk (Below.refl w.heap.size w)
 have H : (spec_lbAt.l0 k a1 l0 (wrap64 (a1 - 1))) = some (r2, r3, r4, r5, r6, r7) := h
 clear h
 have HC3 := Aside0.mk H
 clear H
 have hmf : ∀ (fn : Fn) (first cap : Array Value) (w : World), (Instr.makeFunc fn first cap).run Try.prog w = .ok (.func fn first cap) w := fun _ _ _ _ => rfl
 go_enter Try.func63, Try.ntmps63
 go_upto_block 0 with (first | ((with_reducible refine gate_dst (N := 2) rfl ?_); refine box_event ?hg (N := 2) ?hd (cs := #[.slice A0 l0.length c0]) (t := 35) ?hr ?_; (case hd => rfl); (case hg => rfl); (case hr => first | (go_simp; done) | (go_simp; rfl)); intro gb0 hg w3 hbox hb; have n0_ := Aside0.mk (below_step bz hb); have n1_ := Aside0.mk (hbox); clear HB; have HB := n0_; have BK0 := n1_; clear n0_ n1_; clear hb hbox hg) | ((with_reducible refine gate_dst (N := 4) rfl ?_); refine box_event ?hg (N := 4) ?hd (cs := #[.slice none 0 0, .int .i64 0, .int .i64 0, .int .i64 0, .int .i64 0, .int .i64 0, .int .i64 0]) (t := 74) ?hr ?_; (case hd => rfl); (case hg => rfl); (case hr => first | (go_simp; done) | (go_simp; rfl)); intro gb102 hg w4 hbox hb; have n0_ := Aside0.mk (below_step bz hb); have nb_ := Aside0.mk (blk_below (g := gb0) (o := .cells #[.slice A0 l0.length c0] 35 (0, 0)) kz hb); have n1_ := Aside0.mk (hbox); have n2_ := Aside0.mk ((by rw [hg]; exact (below_size bz) : w.heap.size ≤ gb102)); have n3_ := Aside0.mk ((by rw [hg]; exact (below_size bz) : w.heap.size ≤ gb102)); clear HB BK0; have HB := n0_; have BK0 := nb_; have BK102 := n1_; have GW102 := n2_; have GE102 := n3_; clear n0_ n1_ n2_ n3_; clear hb hbox hg))
 (try simp only [Act.put, List.setIfInBounds_toArray, List.set_cons_zero, List.set_cons_succ])
 go_cut [6] (fun v6 wc => ∃ (kq : Nat) (x6_2 : Int), v6 = .int .i64 x6_2 ∧ Aside0 (spec_lbAt.j1 kq a1 l0 x6_2 = some (r2, r3, r4, r5, r6, r7)) ∧ Aside0 (kq ≤ k) ∧ Aside0 (wc.heap[gb0]? = some (.cells #[.slice A0 l0.length c0] 35 (0, 0))) ∧ Aside0 (wc.heap[gb102]? = some (.cells #[(.slice none 0 0), .int .i64 0, .int .i64 0, .int .i64 0, .int .i64 0, .int .i64 0, .int .i64 0] 74 (0, 0))) ∧ Aside0 (Below w.heap.size w wc))
 case first =>
  have H := HC3.out
  clear HC3
  have H' := Aside0.mk H
  clear H
  go_wp2
  go_loopg [6] k (fun kq v6 w' => ∃ (x6_1 : Int), v6 = .int .i64 x6_1 ∧ Aside0 (spec_lbAt.l0 kq a1 l0 x6_1 = some (r2, r3, r4, r5, r6, r7)) ∧ Aside0 (kq ≤ k) ∧ Aside0 (w'.heap[gb0]? = some (.cells #[.slice A0 l0.length c0] 35 (0, 0))) ∧ Aside0 (w'.heap[gb102]? = some (.cells #[(.slice none 0 0), .int .i64 0, .int .i64 0, .int .i64 0, .int .i64 0, .int .i64 0, .int .i64 0] 74 (0, 0))) ∧ Aside0 (Below w.heap.size w w'))
  case atStart => exact ⟨(wrap64 (a1 - 1)), vz, H', ⟨Nat.le_refl _⟩, ⟨kz⟩, ⟨kz⟩, ⟨bs⟩⟩
  case round =>
   clear H'
   obtain ⟨x6_1, rfl, HA, HK1, BK0, BK102, HB⟩ := hrel
   cases gk with
   | zero => exact absurd HA.out (by simp [spec_lbAt.l0])
   | succ k1 =>
    have H := HA.out
    clear HA
    simp only [spec_lbAt.l0] at H
    by_cases c5 : x6_1 ≥ 0
    ·rw [if_pos c5] at H
     have c5b0 : decide (0 ≤ x6_1) = true := decide_eq_true c5
     clear c5
     (first | rw [c5b0] | (simp only [i64_w]; rw [c5b0]) | skip)
     by_cases c6 : 0 ≤ x6_1
     ·rw [if_pos c6] at H
      have c6b0 : decide (0 ≤ x6_1) = true := decide_eq_true c6
      clear c6
      by_cases c7 : x6_1 < (l0.length : Int)
      ·rw [if_pos c7] at H
       have c7b0 : decide (x6_1 < (l0.length : Int)) = true := decide_eq_true c7
       clear c7
       by_cases c8 : ((rd_T64 l0 x6_1).f0) = 7
       ·rw [if_pos c8] at H
        have c8b0 : (((rd_T64 l0 x6_1).f0) == 7) = true := beq_iff_eq.mpr c8
        have c8b1 : (((rd_T64 l0 x6_1).f0) != 7) = false := bne_eq_false_iff_eq.mpr c8
        clear c8
        have H' := Aside0.mk H
        clear H
        have p103 : 0 ≤ (x6_1 : Int) := of_decide_eq_true az
        have q103 : x6_1 < (l0.length : Int) := of_decide_eq_true az
        obtain ⟨ad103, e103, hx103_0, hx103_1, hx103_2, hx103_3⟩ := at_T64 HR0.out x6_1 p103 q103
        cases e103
        replace hx103_0 := (HB.out.cell (World.block_lt_of_cell? w _ hx103_0)).trans hx103_0
        replace hx103_1 := (HB.out.cell (World.block_lt_of_cell? w _ hx103_1)).trans hx103_1
        replace hx103_2 := (HB.out.cell (World.block_lt_of_cell? w _ hx103_2)).trans hx103_2
        replace hx103_3 := (HB.out.cell (World.block_lt_of_cell? w _ hx103_3)).trans hx103_3
        replace p103 := eq_true p103
        replace q103 := eq_true q103
        have hrow0 := (blk_cell BK0.out 0).trans rfl
        go_wp2
        go_roundg k1
        case measure => have := HK1.out; omega
        case rel => exact ⟨(wrap64 (x6_1 - 1)), vz, H', ⟨by have := HK1.out; omega⟩, ⟨kz⟩, ⟨kz⟩, ⟨bs⟩⟩
       ·rw [if_neg c8] at H
        have c8b0 : (((rd_T64 l0 x6_1).f0) == 7) = false := beq_eq_false_iff_ne.mpr c8
        have c8b1 : (((rd_T64 l0 x6_1).f0) != 7) = true := bne_iff_ne.mpr c8
        have H' := Aside0.mk H
        clear H
        have p103 : 0 ≤ (x6_1 : Int) := of_decide_eq_true az
        have q103 : x6_1 < (l0.length : Int) := of_decide_eq_true az
        obtain ⟨ad103, e103, hx103_0, hx103_1, hx103_2, hx103_3⟩ := at_T64 HR0.out x6_1 p103 q103
        cases e103
        replace hx103_0 := (HB.out.cell (World.block_lt_of_cell? w _ hx103_0)).trans hx103_0
        replace hx103_1 := (HB.out.cell (World.block_lt_of_cell? w _ hx103_1)).trans hx103_1
        replace hx103_2 := (HB.out.cell (World.block_lt_of_cell? w _ hx103_2)).trans hx103_2
        replace hx103_3 := (HB.out.cell (World.block_lt_of_cell? w _ hx103_3)).trans hx103_3
        replace p103 := eq_true p103
        replace q103 := eq_true q103
        have hrow0 := (blk_cell BK0.out 0).trans rfl
        go_wp2
        go_meet
        case rel => exact ⟨_, (x6_1), vz, H', ⟨by have := HK1.out; first | omega | exact Nat.le_refl _⟩, ⟨kz⟩, ⟨kz⟩, ⟨bs⟩⟩
      ·rw [if_neg c7] at H
       exact absurd H (by simp)
     ·rw [if_neg c6] at H
      exact absurd H (by simp)
    ·rw [if_neg c5] at H
     have c5b0 : decide (0 ≤ x6_1) = false := decide_eq_false c5
     clear c5
     (first | rw [c5b0] | (simp only [i64_w]; rw [c5b0]) | skip)
     have H' := Aside0.mk H
     clear H
     have hrow0 := (blk_cell BK0.out 0).trans rfl
     go_wp2
     go_meet
     case rel => exact ⟨_, (x6_1), vz, H', ⟨by have := HK1.out; first | omega | exact Nat.le_refl _⟩, ⟨kz⟩, ⟨kz⟩, ⟨bs⟩⟩
 case rest =>
  clear HC3
  obtain ⟨kq, x6_2, rfl, HA, HJ2, BK0, BK102, HB⟩ := hcut
  cases kq with
  | zero => exact absurd HA.out (by simp [spec_lbAt.j1])
  | succ kj2 =>
   have H := HA.out
   clear HA
   simp only [spec_lbAt.j1] at H
   replace H := Option.bind_eq_some_iff.mp H
   obtain ⟨t104, A90, H⟩ := H
   try dsimp only at H
   have A9 := Aside0.mk A90
   clear A90
   replace H := Option.bind_eq_some_iff.mp H
   obtain ⟨t105, A100, H⟩ := H
   try dsimp only at H
   have A10 := Aside0.mk A100
   clear A100
   replace H := Option.bind_eq_some_iff.mp H
   obtain ⟨t106, A110, H⟩ := H
   try dsimp only at H
   have A11 := Aside0.mk A110
   clear A110
   replace H := Option.bind_eq_some_iff.mp H
   obtain ⟨t107, A120, H⟩ := H
   try dsimp only at H
   have A12 := Aside0.mk A120
   clear A120
   replace H := Option.bind_eq_some_iff.mp H
   obtain ⟨t108, A130, H⟩ := H
   try dsimp only at H
   have A13 := Aside0.mk A130
   clear A130
   simp only [Option.some.injEq, Prod.mk.injEq] at H
   obtain ⟨rfl, rfl, rfl, rfl, rfl, rfl⟩ := H
   try go_wp2
   have nb_ := Aside0.mk (blk_drew BK0.out)
   have n0_ := Aside0.mk (blk_drew BK102.out)
   have n1_ := Aside0.mk (below_drew1 HB.out)
   clear BK102
   clear HB
   clear BK0
   have BK0 := nb_
   have BK102 := n0_
   have HB := n1_
   clear n0_ n1_
   refine start_ (n := 22) (S := fun w' => w'.cell? ⟨gb0, 0, none⟩ = some (.slice A0 l0.length c0)) (ds := []) #[false, false, false, false, false, false, false, false, false, false, false, false, false, false, false, false, false, false, false, false, false, false] (by kernel_rfl) rfl rfl ((blk_cell BK0.out 0).trans rfl) (fun hHeld => ?_); refine with_tabW spec_lbAt.tab5 spec_lbAt.bits5 (fun HT_ HW_ => ?_)
   generalize wc.drew = w14 at BK0 BK102 HB hHeld ⊢
   refine take_ (i := 0) (N := some 22) (v := ?_) (a' := ?_) #[true, false, false, false, false, false, false, false, false, false, false, false, false, false, false, false, false, false, false, false, false, false] rfl rfl (take_ofW HT_.out HW_.out (by kernel_rfl)) (fun _ _ _ h => h) (Or.inl ⟨by rfl, ?_⟩) hHeld ?_ ?_
   rotate_left
   ·intro w' s0
    go_simp
    with_reducible rfl
   rotate_left
   ·simp only [Act.put, List.setIfInBounds_toArray, List.set_cons_zero, List.set_cons_succ, i64_w]
    rfl
   refine pure_ (i := 1) (N := some 23) (v := ?_) (a' := ?_) #[true, true, false, false, false, false, false, false, false, false, false, false, false, false, false, false, false, false, false, false, false, false] rfl rfl (any_of HT_.out (by kernel_rfl)) (fun _ _ _ h => h) (Or.inl ⟨by rfl, ?_⟩) ?_ ?_
   rotate_left
   ·intro w'
    go_simp
    with_reducible rfl
   rotate_left
   ·simp only [Act.put, List.setIfInBounds_toArray, List.set_cons_zero, List.set_cons_succ, i64_w]
    rfl
   refine pure_ (i := 2) (N := some 24) (v := ?_) (a' := ?_) #[true, true, true, false, false, false, false, false, false, false, false, false, false, false, false, false, false, false, false, false, false, false] rfl rfl (any_of HT_.out (by kernel_rfl)) (fun _ _ _ h => h) (Or.inl ⟨by rfl, ?_⟩) ?_ ?_
   rotate_left
   ·intro w'
    go_simp
    with_reducible rfl
   rotate_left
   ·simp only [Act.put, List.setIfInBounds_toArray, List.set_cons_zero, List.set_cons_succ, i64_w]
    rfl
   refine pure_ (i := 3) (N := some 25) (v := ?_) (a' := ?_) #[true, true, true, true, false, false, false, false, false, false, false, false, false, false, false, false, false, false, false, false, false, false] rfl rfl (any_of HT_.out (by kernel_rfl)) (fun _ _ _ h => h) (Or.inl ⟨by rfl, ?_⟩) ?_ ?_
   rotate_left
   ·intro w'
    go_simp
    with_reducible rfl
   rotate_left
   ·simp only [Act.put, List.setIfInBounds_toArray, List.set_cons_zero, List.set_cons_succ, i64_w]
    rfl
   refine pure_ (i := 4) (N := some 26) (v := ?_) (a' := ?_) #[true, true, true, true, true, false, false, false, false, false, false, false, false, false, false, false, false, false, false, false, false, false] rfl rfl (any_of HT_.out (by kernel_rfl)) (fun _ _ _ h => h) (Or.inl ⟨by rfl, ?_⟩) ?_ ?_
   rotate_left
   ·intro w'
    go_simp
    with_reducible rfl
   rotate_left
   ·simp only [Act.put, List.setIfInBounds_toArray, List.set_cons_zero, List.set_cons_succ, i64_w]
    rfl
   refine pure_ (i := 6) (N := some 28) (v := ?_) (a' := ?_) #[true, true, true, true, true, false, true, false, false, false, false, false, false, false, false, false, false, false, false, false, false, false] rfl rfl (any_of HT_.out (by kernel_rfl)) (fun _ _ _ h => h) (Or.inl ⟨by rfl, ?_⟩) ?_ ?_
   rotate_left
   ·intro w'
    go_simp
    with_reducible rfl
   rotate_left
   ·simp only [Act.put, List.setIfInBounds_toArray, List.set_cons_zero, List.set_cons_succ, i64_w]
    rfl
   refine pure_ (i := 7) (N := some 29) (v := ?_) (a' := ?_) #[true, true, true, true, true, false, true, true, false, false, false, false, false, false, false, false, false, false, false, false, false, false] rfl rfl (any_of HT_.out (by kernel_rfl)) (fun _ _ _ h => h) (Or.inl ⟨by rfl, ?_⟩) ?_ ?_
   rotate_left
   ·intro w'
    go_simp
    with_reducible rfl
   rotate_left
   ·simp only [Act.put, List.setIfInBounds_toArray, List.set_cons_zero, List.set_cons_succ, i64_w]
    rfl
   refine pure_ (i := 8) (N := some 30) (v := ?_) (a' := ?_) #[true, true, true, true, true, false, true, true, true, false, false, false, false, false, false, false, false, false, false, false, false, false] rfl rfl (any_of HT_.out (by kernel_rfl)) (fun _ _ _ h => h) (Or.inl ⟨by rfl, ?_⟩) ?_ ?_
   rotate_left
   ·intro w'
    go_simp
    with_reducible rfl
   rotate_left
   ·simp only [Act.put, List.setIfInBounds_toArray, List.set_cons_zero, List.set_cons_succ, i64_w]
    rfl
   refine pure_ (i := 10) (N := some 32) (v := ?_) (a' := ?_) #[true, true, true, true, true, false, true, true, true, false, true, false, false, false, false, false, false, false, false, false, false, false] rfl rfl (any_of HT_.out (by kernel_rfl)) (fun _ _ _ h => h) (Or.inl ⟨by rfl, ?_⟩) ?_ ?_
   rotate_left
   ·intro w'
    go_simp
    with_reducible rfl
   rotate_left
   ·simp only [Act.put, List.setIfInBounds_toArray, List.set_cons_zero, List.set_cons_succ, i64_w]
    rfl
   refine pure_ (i := 11) (N := some 33) (v := ?_) (a' := ?_) #[true, true, true, true, true, false, true, true, true, false, true, true, false, false, false, false, false, false, false, false, false, false] rfl rfl (any_of HT_.out (by kernel_rfl)) (fun _ _ _ h => h) (Or.inl ⟨by rfl, ?_⟩) ?_ ?_
   rotate_left
   ·intro w'
    go_simp
    with_reducible rfl
   rotate_left
   ·simp only [Act.put, List.setIfInBounds_toArray, List.set_cons_zero, List.set_cons_succ, i64_w]
    rfl
   refine pure_ (i := 13) (N := some 35) (v := ?_) (a' := ?_) #[true, true, true, true, true, false, true, true, true, false, true, true, false, true, false, false, false, false, false, false, false, false] rfl rfl (any_of HT_.out (by kernel_rfl)) (fun _ _ _ h => h) (Or.inl ⟨by rfl, ?_⟩) ?_ ?_
   rotate_left
   ·intro w'
    go_simp
    with_reducible rfl
   rotate_left
   ·simp only [Act.put, List.setIfInBounds_toArray, List.set_cons_zero, List.set_cons_succ, i64_w]
    rfl
   refine pure_ (i := 14) (N := some 36) (v := ?_) (a' := ?_) #[true, true, true, true, true, false, true, true, true, false, true, true, false, true, true, false, false, false, false, false, false, false] rfl rfl (any_of HT_.out (by kernel_rfl)) (fun _ _ _ h => h) (Or.inl ⟨by rfl, ?_⟩) ?_ ?_
   rotate_left
   ·intro w'
    go_simp
    with_reducible rfl
   rotate_left
   ·simp only [Act.put, List.setIfInBounds_toArray, List.set_cons_zero, List.set_cons_succ, i64_w]
    rfl
   refine pure_ (i := 15) (N := some 37) (v := ?_) (a' := ?_) #[true, true, true, true, true, false, true, true, true, false, true, true, false, true, true, true, false, false, false, false, false, false] rfl rfl (any_of HT_.out (by kernel_rfl)) (fun _ _ _ h => h) (Or.inl ⟨by rfl, ?_⟩) ?_ ?_
   rotate_left
   ·intro w'
    go_simp
    with_reducible rfl
   rotate_left
   ·simp only [Act.put, List.setIfInBounds_toArray, List.set_cons_zero, List.set_cons_succ, i64_w]
    rfl
   refine pure_ (i := 17) (N := some 39) (v := ?_) (a' := ?_) #[true, true, true, true, true, false, true, true, true, false, true, true, false, true, true, true, false, true, false, false, false, false] rfl rfl (any_of HT_.out (by kernel_rfl)) (fun _ _ _ h => h) (Or.inl ⟨by rfl, ?_⟩) ?_ ?_
   rotate_left
   ·intro w'
    go_simp
    with_reducible rfl
   rotate_left
   ·simp only [Act.put, List.setIfInBounds_toArray, List.set_cons_zero, List.set_cons_succ, i64_w]
    rfl
   refine pure_ (i := 18) (N := some 40) (v := ?_) (a' := ?_) #[true, true, true, true, true, false, true, true, true, false, true, true, false, true, true, true, false, true, true, false, false, false] rfl rfl (any_of HT_.out (by kernel_rfl)) (fun _ _ _ h => h) (Or.inl ⟨by rfl, ?_⟩) ?_ ?_
   rotate_left
   ·intro w'
    go_simp
    with_reducible rfl
   rotate_left
   ·simp only [Act.put, List.setIfInBounds_toArray, List.set_cons_zero, List.set_cons_succ, i64_w]
    rfl
   refine one_ (i := 5) (N := some 27) #[true, true, true, true, true, true, true, true, true, false, true, true, false, true, true, true, false, true, true, false, false, false] rfl rfl (one_of HT_.out (by kernel_rfl)) (by decide) (fun K hK => ?_)
   refine goesV_ (f := 83) Try.func83 (by kernel_rfl) rfl #[.int .i64 (wrap64 (a1 - 2))] #[.pointer (some ⟨gb0, 0, none⟩)] #[.int .i64 (wrap64 (a1 - 2)), .pointer (some ⟨gb0, 0, none⟩)] rfl (by rfl) rfl rfl (by rfl) mz ?_
   with_reducible refine (spec_lbAt_1.calls (wrap64 (a1 - 2)) _ _ l0 t104 gb0 _ hHeld ?side1 ?side2 A9.out).mono ?_
   (case side1 => repeat (first | exact (Kd.C_below HR0.out HB.out) | (with_reducible refine Kd.C_alloc ?_ _) | (with_reducible refine Kd.C_drewN ?_ _) | (with_reducible refine Kd.C_drew ?_)))
   (case side2 => exact HC0.out)
   rintro e w' ⟨rfl, ⟨nd, rfl⟩⟩
   refine ⟨_, rfl, ?_⟩
   refine hK.out _ _ ((blk_cell BK0.out 0).trans rfl) (fun hHeld => ?_)
   clear hK K
   refine norm_ (a' := ?_) ?_ ?_
   rotate_left
   ·show Act.put _ (some 27) _ = _
    simp only [Act.put, List.setIfInBounds_toArray, List.set_cons_zero, List.set_cons_succ, i64_w]
    rfl
   refine one_ (i := 9) (N := some 31) #[true, true, true, true, true, true, true, true, true, true, true, true, false, true, true, true, false, true, true, false, false, false] rfl rfl (one_of HT_.out (by kernel_rfl)) (by decide) (fun K hK => ?_)
   refine goesV_ (f := 83) Try.func83 (by kernel_rfl) rfl #[.int .i64 (wrap64 (a1 - 1))] #[.pointer (some ⟨gb0, 0, none⟩)] #[.int .i64 (wrap64 (a1 - 1)), .pointer (some ⟨gb0, 0, none⟩)] rfl (by rfl) rfl rfl (by rfl) mz ?_
   with_reducible refine (spec_lbAt_1.calls (wrap64 (a1 - 1)) _ _ l0 t105 gb0 _ hHeld ?side1 ?side2 A10.out).mono ?_
   (case side1 => repeat (first | exact (Kd.C_below HR0.out bs) | (with_reducible refine Kd.C_alloc ?_ _) | (with_reducible refine Kd.C_drewN ?_ _) | (with_reducible refine Kd.C_drew ?_)))
   (case side2 => exact HC0.out)
   rintro e w' ⟨rfl, ⟨nd, rfl⟩⟩
   refine ⟨_, rfl, ?_⟩
   refine hK.out _ _ ((blk_cell BK0.out 0).trans rfl) (fun hHeld => ?_)
   clear hK K
   refine norm_ (a' := ?_) ?_ ?_
   rotate_left
   ·show Act.put _ (some 31) _ = _
    simp only [Act.put, List.setIfInBounds_toArray, List.set_cons_zero, List.set_cons_succ, i64_w]
    rfl
   refine one_ (i := 12) (N := some 34) #[true, true, true, true, true, true, true, true, true, true, true, true, true, true, true, true, false, true, true, false, false, false] rfl rfl (one_of HT_.out (by kernel_rfl)) (by decide) (fun K hK => ?_)
   refine goesV_ (f := 83) Try.func83 (by kernel_rfl) rfl #[.int .i64 a1] #[.pointer (some ⟨gb0, 0, none⟩)] #[.int .i64 a1, .pointer (some ⟨gb0, 0, none⟩)] rfl (by rfl) rfl rfl (by rfl) mz ?_
   with_reducible refine (spec_lbAt_1.calls a1 _ _ l0 t106 gb0 _ hHeld ?side1 ?side2 A11.out).mono ?_
   (case side1 => repeat (first | exact (Kd.C_below HR0.out bs) | (with_reducible refine Kd.C_alloc ?_ _) | (with_reducible refine Kd.C_drewN ?_ _) | (with_reducible refine Kd.C_drew ?_)))
   (case side2 => exact HC0.out)
   rintro e w' ⟨rfl, ⟨nd, rfl⟩⟩
   refine ⟨_, rfl, ?_⟩
   refine hK.out _ _ ((blk_cell BK0.out 0).trans rfl) (fun hHeld => ?_)
   clear hK K
   refine norm_ (a' := ?_) ?_ ?_
   rotate_left
   ·show Act.put _ (some 34) _ = _
    simp only [Act.put, List.setIfInBounds_toArray, List.set_cons_zero, List.set_cons_succ, i64_w]
    rfl
   refine one_ (i := 16) (N := some 38) #[true, true, true, true, true, true, true, true, true, true, true, true, true, true, true, true, true, true, true, false, false, false] rfl rfl (one_of HT_.out (by kernel_rfl)) (by decide) (fun K hK => ?_)
   refine goesV_ (f := 83) Try.func83 (by kernel_rfl) rfl #[.int .i64 (wrap64 (a1 + 1))] #[.pointer (some ⟨gb0, 0, none⟩)] #[.int .i64 (wrap64 (a1 + 1)), .pointer (some ⟨gb0, 0, none⟩)] rfl (by rfl) rfl rfl (by rfl) mz ?_
   with_reducible refine (spec_lbAt_1.calls (wrap64 (a1 + 1)) _ _ l0 t107 gb0 _ hHeld ?side1 ?side2 A12.out).mono ?_
   (case side1 => repeat (first | exact (Kd.C_below HR0.out bs) | (with_reducible refine Kd.C_alloc ?_ _) | (with_reducible refine Kd.C_drewN ?_ _) | (with_reducible refine Kd.C_drew ?_)))
   (case side2 => exact HC0.out)
   rintro e w' ⟨rfl, ⟨nd, rfl⟩⟩
   refine ⟨_, rfl, ?_⟩
   refine hK.out _ _ ((blk_cell BK0.out 0).trans rfl) (fun hHeld => ?_)
   clear hK K
   refine norm_ (a' := ?_) ?_ ?_
   rotate_left
   ·show Act.put _ (some 38) _ = _
    simp only [Act.put, List.setIfInBounds_toArray, List.set_cons_zero, List.set_cons_succ, i64_w]
    rfl
   refine one_ (i := 19) (N := some 41) #[true, true, true, true, true, true, true, true, true, true, true, true, true, true, true, true, true, true, true, true, false, false] rfl rfl (one_of HT_.out (by kernel_rfl)) (by decide) (fun K hK => ?_)
   refine goesV_ (f := 83) Try.func83 (by kernel_rfl) rfl #[.int .i64 x6_2] #[.pointer (some ⟨gb0, 0, none⟩)] #[.int .i64 x6_2, .pointer (some ⟨gb0, 0, none⟩)] rfl (by rfl) rfl rfl (by rfl) mz ?_
   with_reducible refine (spec_lbAt_1.calls x6_2 _ _ l0 t108 gb0 _ hHeld ?side1 ?side2 A13.out).mono ?_
   (case side1 => repeat (first | exact (Kd.C_below HR0.out bs) | (with_reducible refine Kd.C_alloc ?_ _) | (with_reducible refine Kd.C_drewN ?_ _) | (with_reducible refine Kd.C_drew ?_)))
   (case side2 => exact HC0.out)
   rintro e w' ⟨rfl, ⟨nd, rfl⟩⟩
   refine ⟨_, rfl, ?_⟩
   refine hK.out _ _ ((blk_cell BK0.out 0).trans rfl) (fun hHeld => ?_)
   clear hK K
   refine norm_ (a' := ?_) ?_ ?_
   rotate_left
   ·show Act.put _ (some 41) _ = _
    simp only [Act.put, List.setIfInBounds_toArray, List.set_cons_zero, List.set_cons_succ, i64_w]
    rfl
   refine pure_ (i := 20) (N := some 42) (v := ?_) (a' := ?_) #[true, true, true, true, true, true, true, true, true, true, true, true, true, true, true, true, true, true, true, true, true, false] rfl rfl (any_of HT_.out (by kernel_rfl)) (fun _ _ _ h => h) (Or.inl ⟨by rfl, ?_⟩) ?_ ?_
   rotate_left
   ·intro w'
    go_simp
    with_reducible rfl
   rotate_left
   ·simp only [Act.put, List.setIfInBounds_toArray, List.set_cons_zero, List.set_cons_succ, i64_w]
    rfl
   refine one_ (i := 21) (N := none) #[true, true, true, true, true, true, true, true, true, true, true, true, true, true, true, true, true, true, true, true, true, true] rfl rfl (one_of HT_.out (by kernel_rfl)) (by decide) (fun K hK => ?_)
   have hne0 : gb0 ≠ gb102 := blk_ne BK0.out BK102.out (by decide)
   have hs15 : w14.cell? ⟨gb102, 0, none⟩ = some (.slice none 0 0) := (blk_cell BK102.out 0).trans rfl
   have hfs15 := blk_frozen BK102.out 0
   have hs16 : w14.cell? ⟨gb102, 1, none⟩ = some (.int .i64 0) := (blk_cell BK102.out 1).trans rfl
   have hfs16 := blk_frozen BK102.out 1
   have hs17 : w14.cell? ⟨gb102, 2, none⟩ = some (.int .i64 0) := (blk_cell BK102.out 2).trans rfl
   have hfs17 := blk_frozen BK102.out 2
   have hs18 : w14.cell? ⟨gb102, 3, none⟩ = some (.int .i64 0) := (blk_cell BK102.out 3).trans rfl
   have hfs18 := blk_frozen BK102.out 3
   have hs19 : w14.cell? ⟨gb102, 4, none⟩ = some (.int .i64 0) := (blk_cell BK102.out 4).trans rfl
   have hfs19 := blk_frozen BK102.out 4
   have hs20 : w14.cell? ⟨gb102, 5, none⟩ = some (.int .i64 0) := (blk_cell BK102.out 5).trans rfl
   have hfs20 := blk_frozen BK102.out 5
   have hs21 : w14.cell? ⟨gb102, 6, none⟩ = some (.int .i64 0) := (blk_cell BK102.out 6).trans rfl
   have hfs21 := blk_frozen BK102.out 6
   refine skip_ (w1 := ?_) (by rfl) rfl ?_ ?_
   rotate_left
   ·go_simp
    rfl
   refine hK.out _ _ ((blk_cell (g := gb0) (t := 35) (cs := #[.slice A0 l0.length c0]) (by (with_reducible repeat (first | refine blk_drewN ?_ _ | refine blk_drew ?_ | refine blk_far ?_ hne0 _)); exact BK0.out) 0).trans rfl) (fun hHeld => ?_)
   clear hK K
   refine done_ (done_of HT_.out (by kernel_rfl)) ?_
   try go_wp2
   refine bodyPost_ret (results_cell_row rfl _ _ gb102 74 #[.slice A0 l0.length c0, .int .i64 a1, .int .i64 t104, .int .i64 t105, .int .i64 t106, .int .i64 t107, .int .i64 t108] (0, 0) _ rfl (by (with_reducible repeat (first | refine blk_drewN ?_ _ | refine blk_drew ?_ | refine blk_alloc ?_ _)); refine blk_put (cs := #[.slice A0 l0.length c0, .int .i64 a1, .int .i64 t104, .int .i64 t105, .int .i64 t106, .int .i64 t107, .int .i64 0]) ?_ 6 _ rfl; (with_reducible repeat (first | refine blk_drewN ?_ _ | refine blk_drew ?_ | refine blk_alloc ?_ _)); refine blk_put (cs := #[.slice A0 l0.length c0, .int .i64 a1, .int .i64 t104, .int .i64 t105, .int .i64 t106, .int .i64 0, .int .i64 0]) ?_ 5 _ rfl; (with_reducible repeat (first | refine blk_drewN ?_ _ | refine blk_drew ?_ | refine blk_alloc ?_ _)); refine blk_put (cs := #[.slice A0 l0.length c0, .int .i64 a1, .int .i64 t104, .int .i64 t105, .int .i64 0, .int .i64 0, .int .i64 0]) ?_ 4 _ rfl; (with_reducible repeat (first | refine blk_drewN ?_ _ | refine blk_drew ?_ | refine blk_alloc ?_ _)); refine blk_put (cs := #[.slice A0 l0.length c0, .int .i64 a1, .int .i64 t104, .int .i64 0, .int .i64 0, .int .i64 0, .int .i64 0]) ?_ 3 _ rfl; (with_reducible repeat (first | refine blk_drewN ?_ _ | refine blk_drew ?_ | refine blk_alloc ?_ _)); refine blk_put (cs := #[.slice A0 l0.length c0, .int .i64 a1, .int .i64 0, .int .i64 0, .int .i64 0, .int .i64 0, .int .i64 0]) ?_ 2 _ rfl; (with_reducible repeat (first | refine blk_drewN ?_ _ | refine blk_drew ?_ | refine blk_alloc ?_ _)); refine blk_put (cs := #[.slice A0 l0.length c0, .int .i64 0, .int .i64 0, .int .i64 0, .int .i64 0, .int .i64 0, .int .i64 0]) ?_ 1 _ rfl; (with_reducible repeat (first | refine blk_drewN ?_ _ | refine blk_drew ?_ | refine blk_alloc ?_ _)); refine blk_put (cs := #[.slice none 0 0, .int .i64 0, .int .i64 0, .int .i64 0, .int .i64 0, .int .i64 0, .int .i64 0]) ?_ 0 _ rfl; (with_reducible repeat (first | refine blk_drewN ?_ _ | refine blk_drew ?_ | refine blk_alloc ?_ _)); exact BK102.out) Try.underlying74 rfl (by kernel_rfl)) rfl ?_
   exact ⟨ez, bs⟩

end Go.Proofs.Ytnanfoahimccpaa.Ln
