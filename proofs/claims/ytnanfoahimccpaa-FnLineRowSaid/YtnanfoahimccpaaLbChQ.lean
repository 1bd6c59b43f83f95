/- Walks by the evaluator: LB30b at pictographs, in 'uniseg.transitionLineBreakProperty', second half. -/
import Derived.Test.YtnanfoahimccpaaLbDef
namespace Go.Proofs.Ytnanfoahimccpaa.Lb
open Go Go.RowKit Ev
open Wb (KT typesOk eq3 eq3_eq)

theorem g_pict4 (B : Nat) (F : Value) (cp : Bool) (env : Nat → V) (top : Bool) (e z : V) (ans : List V) :
    ((noRI c4).flatMap fun x => gens.map fun gc => (x, gc)).map (fun y => view slots (evalCode (C77 B F) kF (inE y.1 y.2 15 cp env top e z ans))) =
      ((noRI c4).flatMap fun x => gens.map fun gc => (x, gc)).map (fun y => outG y.1 y.2 15 cp e z (y.2 == 28) ans) := by kernel_rfl
theorem g_pict5 (B : Nat) (F : Value) (cp : Bool) (env : Nat → V) (top : Bool) (e z : V) (ans : List V) :
    ((noRI c5).flatMap fun x => gens.map fun gc => (x, gc)).map (fun y => view slots (evalCode (C77 B F) kF (inE y.1 y.2 15 cp env top e z ans))) =
      ((noRI c5).flatMap fun x => gens.map fun gc => (x, gc)).map (fun y => outG y.1 y.2 15 cp e z (y.2 == 28) ans) := by kernel_rfl
theorem g_pict6 (B : Nat) (F : Value) (cp : Bool) (env : Nat → V) (top : Bool) (e z : V) (ans : List V) :
    ((noRI c6).flatMap fun x => gens.map fun gc => (x, gc)).map (fun y => view slots (evalCode (C77 B F) kF (inE y.1 y.2 15 cp env top e z ans))) =
      ((noRI c6).flatMap fun x => gens.map fun gc => (x, gc)).map (fun y => outG y.1 y.2 15 cp e z (y.2 == 28) ans) := by kernel_rfl
theorem g_pict7 (B : Nat) (F : Value) (cp : Bool) (env : Nat → V) (top : Bool) (e z : V) (ans : List V) :
    ((noRI c7).flatMap fun x => gens.map fun gc => (x, gc)).map (fun y => view slots (evalCode (C77 B F) kF (inE y.1 y.2 15 cp env top e z ans))) =
      ((noRI c7).flatMap fun x => gens.map fun gc => (x, gc)).map (fun y => outG y.1 y.2 15 cp e z (y.2 == 28) ans) := by kernel_rfl
end Go.Proofs.Ytnanfoahimccpaa.Lb
