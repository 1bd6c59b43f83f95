/- Walks by the evaluator: LB12a to LB30 in 'uniseg.transitionLineBreakProperty'. -/
import Derived.Test.YtnanfoahimccpaaLbDef
namespace Go.Proofs.Ytnanfoahimccpaa.Lb
open Go Go.RowKit Ev
open Wb (KT typesOk eq3 eq3_eq)

theorem e_quiet0 (B : Nat) (F : Value) (gc gr : Int) (env : Nat → V) (top : Bool) (e z : V) (ans : List V) :
    (quiet c0).map (fun x => view (slots ++ [18]) (evalCode (C77 B F) pE (inE x gc gr false env top e z ans))) = (quiet c0).map (fun x => outE x gc gr false e z false false ans) := by kernel_rfl
theorem e_quiet1 (B : Nat) (F : Value) (gc gr : Int) (env : Nat → V) (top : Bool) (e z : V) (ans : List V) :
    (quiet c1).map (fun x => view (slots ++ [18]) (evalCode (C77 B F) pE (inE x gc gr false env top e z ans))) = (quiet c1).map (fun x => outE x gc gr false e z false false ans) := by kernel_rfl
theorem e_quiet2 (B : Nat) (F : Value) (gc gr : Int) (env : Nat → V) (top : Bool) (e z : V) (ans : List V) :
    (quiet c2).map (fun x => view (slots ++ [18]) (evalCode (C77 B F) pE (inE x gc gr false env top e z ans))) = (quiet c2).map (fun x => outE x gc gr false e z false false ans) := by kernel_rfl
theorem e_quiet3 (B : Nat) (F : Value) (gc gr : Int) (env : Nat → V) (top : Bool) (e z : V) (ans : List V) :
    (quiet c3).map (fun x => view (slots ++ [18]) (evalCode (C77 B F) pE (inE x gc gr false env top e z ans))) = (quiet c3).map (fun x => outE x gc gr false e z false false ans) := by kernel_rfl
theorem e_quiet4 (B : Nat) (F : Value) (gc gr : Int) (env : Nat → V) (top : Bool) (e z : V) (ans : List V) :
    (quiet c4).map (fun x => view (slots ++ [18]) (evalCode (C77 B F) pE (inE x gc gr false env top e z ans))) = (quiet c4).map (fun x => outE x gc gr false e z false false ans) := by kernel_rfl
theorem e_quiet5 (B : Nat) (F : Value) (gc gr : Int) (env : Nat → V) (top : Bool) (e z : V) (ans : List V) :
    (quiet c5).map (fun x => view (slots ++ [18]) (evalCode (C77 B F) pE (inE x gc gr false env top e z ans))) = (quiet c5).map (fun x => outE x gc gr false e z false false ans) := by kernel_rfl
theorem e_quiet6 (B : Nat) (F : Value) (gc gr : Int) (env : Nat → V) (top : Bool) (e z : V) (ans : List V) :
    (quiet c6).map (fun x => view (slots ++ [18]) (evalCode (C77 B F) pE (inE x gc gr false env top e z ans))) = (quiet c6).map (fun x => outE x gc gr false e z false false ans) := by kernel_rfl
theorem e_quiet7 (B : Nat) (F : Value) (gc gr : Int) (env : Nat → V) (top : Bool) (e z : V) (ans : List V) :
    (quiet c7).map (fun x => view (slots ++ [18]) (evalCode (C77 B F) pE (inE x gc gr false env top e z ans))) = (quiet c7).map (fun x => outE x gc gr false e z false false ans) := by kernel_rfl
theorem e_cp (B : Nat) (F : Value) (gc gr : Int) (env : Nat → V) (top : Bool) (e z : V) (ans : List V) :
    (quiet [12, 36]).map (fun x => view (slots ++ [18]) (evalCode (C77 B F) pE (inE x gc gr true env top e z ans))) = (quiet [12, 36]).map (fun x => outE x gc gr true e z false false ans) := by kernel_rfl
theorem e_open (B : Nat) (F : Value) (gc gr : Int) (env : Nat → V) (top : Bool) (z : V) (ans : List V) :
    (opens.flatMap fun x => eas.map fun ea => (x, ea)).map (fun y => view (slots ++ [18]) (evalCode (C77 B F) pE (inE y.1 gc gr false env top (.n y.2) z ans))) =
      (opens.flatMap fun x => eas.map fun ea => (x, ea)).map (fun y => outE y.1 gc gr false (.n y.2) z (wideE y.2) false ans) := by kernel_rfl
end Go.Proofs.Ytnanfoahimccpaa.Lb
