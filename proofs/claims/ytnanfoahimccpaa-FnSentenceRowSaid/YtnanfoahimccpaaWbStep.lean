/- The walks of 'uniseg.wbTransitions' and 'uniseg.transitionWordBreakProperty', by the evaluator. -/
import Derived.Test.YtnanfoahimccpaaEv
import Derived.Test.YtnanfoahimccpaaWbTab
import Derived.Test.YtnanfoahimccpaaProg
import Derived.KernelRfl
namespace Go.Proofs.Ytnanfoahimccpaa.Wb
open Go Go.RowKit Ev

def KT : TypeId → Option Ky := fun t => match t with | 3 => some .i | 4 => some .b | 85 => some .u | _ => none
theorem typesOk {C : Cfg} (hP : C.P = Try.prog) (hK : C.K = KT) : C.TypesOk := by
  intro t k h
  rw [hK] at h
  rw [hP]
  unfold KT at h
  have e3 : (Try.prog.info? 3).map (fun i => (i.zero, i.size)) = some (some (.int .i64 0), 1) := by kernel_rfl
  have e4 : (Try.prog.info? 4).map (fun i => (i.zero, i.size)) = some (some (.bool false), 1) := by kernel_rfl
  have e85 : (Try.prog.info? 85).map (fun i => (i.zero, i.size)) = some (some (.int .u64 0), 1) := by kernel_rfl
  split at h <;> simp only [Option.some.injEq, reduceCtorEq] at h <;> subst h
  · obtain ⟨i, h1, h2⟩ := Option.map_eq_some_iff.1 e3
    simp only [Prod.mk.injEq] at h2
    exact ⟨Try.underlying3, i, h1, h2.2, h2.1⟩
  · obtain ⟨i, h1, h2⟩ := Option.map_eq_some_iff.1 e4
    simp only [Prod.mk.injEq] at h2
    exact ⟨Try.underlying4, i, h1, h2.2, h2.1⟩
  · obtain ⟨i, h1, h2⟩ := Option.map_eq_some_iff.1 e85
    simp only [Prod.mk.injEq] at h2
    exact ⟨Try.underlying85, i, h1, h2.2, h2.1⟩

def eqV (x y : V) : Bool := match x, y with
  | .n a, .n b => ieq a b
  | .b a, .b b => (match a, b with | true, true => true | false, false => true | _, _ => false)
  | _, _ => false
theorem eqV_eq {x y : V} (h : eqV x y = true) : x = y := by
  unfold eqV at h
  split at h
  · rw [ieq_eq, beq_iff_eq] at h; rw [h]
  · rename_i a b
    cases a <;> cases b <;> first | rfl | exact absurd h (by simp)
  · exact absurd h (by simp)
def eq3 (x : Option (V × V × V)) (y : V × V × V) : Bool := match x with
  | some x => (eqV x.1 y.1 && eqV x.2.1 y.2.1) && eqV x.2.2 y.2.2
  | none => false
def eq2 (x : Option (V × V)) (y : V × V) : Bool := match x with
  | some x => eqV x.1 y.1 && eqV x.2 y.2
  | none => false
theorem eq3_eq {x : Option (V × V × V)} {y : V × V × V} (h : eq3 x y = true) : x = some y := by
  cases x with
  | none => exact absurd h (by simp [eq3])
  | some x =>
    simp only [eq3, Bool.and_eq_true] at h
    rw [show x = (x.1, x.2.1, x.2.2) from rfl, eqV_eq h.1.1, eqV_eq h.1.2, eqV_eq h.2]
theorem eq2_eq {x : Option (V × V)} {y : V × V} (h : eq2 x y = true) : x = some y := by
  cases x with
  | none => exact absurd h (by simp [eq2])
  | some x =>
    simp only [eq2, Bool.and_eq_true] at h
    rw [show x = (x.1, x.2) from rfl, eqV_eq h.1, eqV_eq h.2]

/-! ### the table -/
noncomputable def C79 (B : Nat) : Cfg := { P := Try.prog, N := 89, B, F := undef, T := fun _ _ => none, K := KT }
theorem C79_ok (w : World) : (C79 w.heap.size).Ok (Kept w) :=
  ⟨typesOk rfl rfl, fun _ _ _ h => absurd h (by simp [C79]), fun _ _ _ h hb => ⟨h.1, h.2.trans hb⟩, fun v ans w _ h => absurd h.1 (by simp)⟩
def v3 (x : Int × Bool × Int) : V × V × V := (.n x.1, .b x.2.1, .n x.2.2)
def v2 (x : Int × Bool) : V × V := (.n x.1, .b x.2)
theorem tab_chk (B : Nat) : (bares.all fun s => props.all fun p => eq3 (out3 4 5 6 (evalCode (C79 B) (body Try.f79) (enter [.n s, .n p] []))) (v3 (tr s p))) = true := by kernel_rfl

theorem tr_calls (s p : Int) (hs : s ∈ bares) (hp : p ∈ props) (w : World) :
    Calls Try.prog 79 #[.int .i64 s, .int .i64 p] w fun e w' => e = .returned (.tuple #[.int .i64 (tr s p).1, .bool (tr s p).2.1, .int .i64 (tr s p).2.2]) ∧ Below w.heap.size w w' := by
  have h := eq3_eq (List.all_eq_true.1 (List.all_eq_true.1 (tab_chk w.heap.size) s hs) p hp)
  obtain ⟨st, h1, h2, h3, h4, h5⟩ := out3_eq h
  refine calls_of_body (C := C79 w.heap.size) (l := [.n s, .n p]) (ans := []) Try.func79 (by kernel_rfl) rfl (by show 2 ≤ 89; decide) ?_
  refine evalCode_sound (C79_ok w) _ _ h1 (Rel.enter ⟨rfl, Below.refl _ _⟩ rfl) fun w' hw' => ?_
  refine post3 (C := C79 w.heap.size) (i := 4) (j := 5) (k := 6) rfl (by show 4 < 89; decide) (by show 5 < 89; decide) (by show 6 < 89; decide) h2 ?_
  rw [h3, h4, h5]
  exact ⟨rfl, hw'.inv.2⟩

/-! ### the step -/
def T53 (f : Nat) (l : List V) : Option V := match f, l with
  | 79, [.n s, .n p] => (match (bares.any (ieq s) && props.any (ieq p)) with | true => some (.t3 (.n (tr s p).1) (.b (tr s p).2.1) (.n (tr s p).2.2)) | false => none)
  | _, _ => none
noncomputable def C53 (B : Nat) (F : Value) : Cfg := { P := Try.prog, N := 251, B, F, K := KT, T := T53 }
def ones : List (Int × Int) := (states.flatMap fun s => props.map fun p => (s, p)).filter fun x => !needs x.1 x.2
theorem one_chk (B : Nat) (F : Value) (ans : List V) :
    ones.map (fun x => view [6, 7] (evalCode (C53 B F) (body Try.f53) (enter [.n x.1, .n x.2, .orc] ans))) = ones.map (fun x => some (.ret, [.n (next x.1 x.2 (-1)).1, .b (next x.1 x.2 (-1)).2], [], ans, [])) := by kernel_rfl
end Go.Proofs.Ytnanfoahimccpaa.Wb
