/- The walks of 'uniseg.wbTransitions' and 'uniseg.transitionWordBreakProperty', by the evaluator. -/
import Derived.Test.YtnanfoahimccpaaEv
import Derived.Test.YtnanfoahimccpaaProg
import Derived.KernelRfl
namespace Go.Proofs.Ytnanfoahimccpaa.Wb
open Go Go.RowKit Ev

def KT : TypeId → Option Ky := fun t => match t with | 3 => some .i | 4 => some .b | 85 => some .u | _ => none
theorem typesOk {C : Cfg} (hP : C.P = Try.prog) (hK : C.K = KT) : C.TypesOk := by
  intro t k h
  rw [hK] at h
  rw [hP]
  unfold KT at h
  have e3 : (Try.prog.info? 3).map (fun i => (i.zero, i.size)) = some (some (.int .i64 0), 1) := by kernel_rfl
  have e4 : (Try.prog.info? 4).map (fun i => (i.zero, i.size)) = some (some (.bool false), 1) := by kernel_rfl
  have e85 : (Try.prog.info? 85).map (fun i => (i.zero, i.size)) = some (some (.int .u64 0), 1) := by kernel_rfl
  split at h <;> simp only [Option.some.injEq, reduceCtorEq] at h <;> subst h
  · obtain ⟨i, h1, h2⟩ := Option.map_eq_some_iff.1 e3
    simp only [Prod.mk.injEq] at h2
    exact ⟨Try.underlying3, i, h1, h2.2, h2.1⟩
  · obtain ⟨i, h1, h2⟩ := Option.map_eq_some_iff.1 e4
    simp only [Prod.mk.injEq] at h2
    exact ⟨Try.underlying4, i, h1, h2.2, h2.1⟩
  · obtain ⟨i, h1, h2⟩ := Option.map_eq_some_iff.1 e85
    simp only [Prod.mk.injEq] at h2
    exact ⟨Try.underlying85, i, h1, h2.2, h2.1⟩

def eqV (x y : V) : Bool := match x, y with
  | .n a, .n b => ieq a b
  | .b a, .b b => (match a, b with | true, true => true | false, false => true | _, _ => false)
  | _, _ => false
theorem eqV_eq {x y : V} (h : eqV x y = true) : x = y := by
  unfold eqV at h
  split at h
  · rw [ieq_eq, beq_iff_eq] at h; rw [h]
  · rename_i a b
    cases a <;> cases b <;> first | rfl | exact absurd h (by simp)
  · exact absurd h (by simp)
def eq3 (x : Option (V × V × V)) (y : V × V × V) : Bool := match x with
  | some x => (eqV x.1 y.1 && eqV x.2.1 y.2.1) && eqV x.2.2 y.2.2
  | none => false
theorem eq3_eq {x : Option (V × V × V)} {y : V × V × V} (h : eq3 x y = true) : x = some y := by
  cases x with
  | none => exact absurd h (by simp [eq3])
  | some x =>
    simp only [eq3, Bool.and_eq_true] at h
    rw [show x = (x.1, x.2.1, x.2.2) from rfl, eqV_eq h.1.1, eqV_eq h.1.2, eqV_eq h.2]
end Go.Proofs.Ytnanfoahimccpaa.Wb
