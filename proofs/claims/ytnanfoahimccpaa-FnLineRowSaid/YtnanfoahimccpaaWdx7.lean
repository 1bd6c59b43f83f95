/- Functions of the translation as Lean functions, and their walks: lines written by a program, a turned copy of the kit's print. -/
import Derived.Test.YtnanfoahimccpaaProg
import Derived.Below
import Derived.Deep.Draws
import Derived.Deep.AppendLies
import Derived.Maps.AppendAt
import Derived.OwnWalk
import Derived.Laws.BytesArg
import Derived.Laws.MakeOwn
import Derived.Laws.OwnMore
import Derived.Deep.OwnRows
import Derived.Tactics
import Derived.Lib.ConvBytes
import Derived.Laws.Slices
import Derived.WalkKit
import Derived.KernelRfl
import Derived.RowKit3
import Derived.Deep.LoopGhost
import Derived.Deep.QuietTactic
import Derived.BigQuiet
import Derived.WideLaws
import Derived.Deep.DeepCutAuto
import Derived.Deep.CutBlock
import Derived.Deep.RegionHeld3
import Derived.Laws.Rows
import Derived.Lib.AppendStr
import Derived.ArgAppend
import Derived.Laws.IdiomCopy
import Derived.OrdersHeld
import Derived.Laws.BitsLemmas
import Derived.RowKit
import Derived.Test.YtnanfoahimccpaaWWords
import Derived.Test.YtnanfoahimccpaaWLast
import Derived.Test.YtnanfoahimccpaaWTab
import Derived.Laws.StructEq
import Derived.Test.YtnanfoahimccpaaWMore
namespace Go.Proofs.Ytnanfoahimccpaa.Wd
open Go.RowKit Go.Proofs.YtnanfoahimccpaaW.PrintWords Go.Proofs.YtnanfoahimccpaaW.PrintLast Go.Proofs.YtnanfoahimccpaaW.PrintMore
attribute [local go_sem] max2_int max_two
set_option linter.unusedVariables false
set_option linter.unusedSimpArgs false

end Go.Proofs.Ytnanfoahimccpaa.Wd
namespace Go.Proofs.Ytnanfoahimccpaa.Wd
open Go.RowKit Go.Proofs.YtnanfoahimccpaaW.PrintWords Go.Proofs.YtnanfoahimccpaaW.PrintLast Go.Proofs.YtnanfoahimccpaaW.PrintMore
attribute [local go_sem] max2_int max_two
set_option linter.unusedVariables false
set_option linter.unusedSimpArgs false

def impl_numberOf.f (l0 : List Int) (a1 : Int) : Option (Int) := if a1 < 0 then (if 0 < (l0.length : Int) then (some (rd l0 0)) else (none)) else (if a1 ≥ (l0.length : Int) then (if 0 < (l0.length : Int) then (some (rd l0 0)) else (none)) else (if 0 ≤ a1 then (if a1 < (l0.length : Int) then (some (rd l0 a1)) else (none)) else (none)))
set_option maxHeartbeats 8000000 in
set_option maxRecDepth 100000 in
theorem impl_numberOf.calls (A0 : Option Addr) (c0 : Nat) (l0 : List Int) (a1 : Int) (r : Int) (w : World) (hr0 : Kd.C (Kd.int .i64) w A0 l0.length l0) (hc0 : l0.length ≤ c0) (h : impl_numberOf.f l0 a1 = some r) :
    Calls Try.prog 23 #[.slice A0 l0.length c0, .int .i64 a1] w fun e w' => e = .returned (.int .i64 r) ∧ Drawn0 w w' := by
  have HR0 := Aside0.mk hr0
  have HC0 := Aside0.mk hc0
  clear hr0 hc0
  have H : (if a1 < 0 then (if 0 < (l0.length : Int) then (some (rd l0 0)) else (none)) else (if a1 ≥ (l0.length : Int) then (if 0 < (l0.length : Int) then (some (rd l0 0)) else (none)) else (if 0 ≤ a1 then (if a1 < (l0.length : Int) then (some (rd l0 a1)) else (none)) else (none)))) = some r := h
  clear h
  by_cases c3 : a1 < 0
  · rw [if_pos c3] at H
    have c3b0 : decide (a1 < 0) = true := decide_eq_true c3
    clear c3
    by_cases c4 : 0 < (l0.length : Int)
    · rw [if_pos c4] at H
      have c4b0 : decide (0 < (l0.length : Int)) = true := decide_eq_true c4
      have c4b1 : decide (0 < l0.length) = true := decide_eq_true (by omega)
      clear c4
      obtain rfl := Option.some.inj H
      have p181 : 0 ≤ (0 : Int) := (by omega)
      have q181 : 0 < (l0.length : Int) := of_decide_eq_true (by first | (with_reducible assumption) | assumption)
      obtain ⟨ad181, e181, hx181_0⟩ := Kd.at_int HR0.out 0 p181 q181
      cases e181
      have qi181 : (0 < l0.length) = True := eq_true (by omega)
      (try rw [show ((0 : Int)).toNat = 0 from rfl] at hx181_0)
      (try rw [Addr.add_zero'] at hx181_0)
      replace p181 := eq_true p181
      replace q181 := eq_true q181
      go_enter Try.func23, Try.ntmps23
      go_wp2
      go_ret
      exact ⟨by first | rfl | (simp; done) | (simp [*]; done), by repeat (first | exact Drawn0.refl _ | apply Drawn0.step)⟩
    · rw [if_neg c4] at H
      exact absurd H (by simp)
  · rw [if_neg c3] at H
    have c3b0 : decide (a1 < 0) = false := decide_eq_false c3
    clear c3
    by_cases c5 : a1 ≥ (l0.length : Int)
    · rw [if_pos c5] at H
      have c5b0 : decide ((l0.length : Int) ≤ a1) = true := decide_eq_true c5
      clear c5
      by_cases c6 : 0 < (l0.length : Int)
      · rw [if_pos c6] at H
        have c6b0 : decide (0 < (l0.length : Int)) = true := decide_eq_true c6
        have c6b1 : decide (0 < l0.length) = true := decide_eq_true (by omega)
        clear c6
        obtain rfl := Option.some.inj H
        have p182 : 0 ≤ (0 : Int) := (by omega)
        have q182 : 0 < (l0.length : Int) := of_decide_eq_true (by first | (with_reducible assumption) | assumption)
        obtain ⟨ad182, e182, hx182_0⟩ := Kd.at_int HR0.out 0 p182 q182
        cases e182
        have qi182 : (0 < l0.length) = True := eq_true (by omega)
        (try rw [show ((0 : Int)).toNat = 0 from rfl] at hx182_0)
        (try rw [Addr.add_zero'] at hx182_0)
        replace p182 := eq_true p182
        replace q182 := eq_true q182
        go_enter Try.func23, Try.ntmps23
        go_wp2
        go_ret
        exact ⟨by first | rfl | (simp; done) | (simp [*]; done), by repeat (first | exact Drawn0.refl _ | apply Drawn0.step)⟩
      · rw [if_neg c6] at H
        exact absurd H (by simp)
    · rw [if_neg c5] at H
      have c5b0 : decide ((l0.length : Int) ≤ a1) = false := decide_eq_false c5
      clear c5
      by_cases c7 : 0 ≤ a1
      · rw [if_pos c7] at H
        have c7b0 : decide (0 ≤ a1) = true := decide_eq_true c7
        clear c7
        by_cases c8 : a1 < (l0.length : Int)
        · rw [if_pos c8] at H
          have c8b0 : decide (a1 < (l0.length : Int)) = true := decide_eq_true c8
          clear c8
          obtain rfl := Option.some.inj H
          have p183 : 0 ≤ (a1 : Int) := of_decide_eq_true (by first | (with_reducible assumption) | assumption)
          have q183 : a1 < (l0.length : Int) := of_decide_eq_true (by first | (with_reducible assumption) | assumption)
          obtain ⟨ad183, e183, hx183_0⟩ := Kd.at_int HR0.out a1 p183 q183
          cases e183
          replace p183 := eq_true p183
          replace q183 := eq_true q183
          go_enter Try.func23, Try.ntmps23
          go_wp2
          go_ret
          exact ⟨by first | rfl | (simp; done) | (simp [*]; done), by repeat (first | exact Drawn0.refl _ | apply Drawn0.step)⟩
        · rw [if_neg c8] at H
          exact absurd H (by simp)
      · rw [if_neg c7] at H
        exact absurd H (by simp)

end Go.Proofs.Ytnanfoahimccpaa.Wd
