/- Walks by the evaluator: LB30a and LB30b in 'uniseg.transitionLineBreakProperty'. -/
import Derived.Test.YtnanfoahimccpaaLbDef
namespace Go.Proofs.Ytnanfoahimccpaa.Lb
open Go Go.RowKit Ev
open Wb (KT typesOk eq3 eq3_eq)

theorem f_chk0 (B : Nat) (F : Value) (gc gr : Int) (cp : Bool) (env : Nat → V) (top : Bool) (e z : V) (ans : List V) :
    (noRI c0).map (fun x => view (slots ++ [18]) (evalCode (C77 B F) pF (inE x gc gr cp env top e z ans))) = (noRI c0).map (fun x => some (.normal, keep (.n x.1) (.n x.2) (.n gc) (.n gr) cp ++ [.n (mix x.1 x.2).2.2], [e, .n (mix x.1 x.2).1, .n (mix x.1 x.2).2.1, z], ans, dfr)) := by kernel_rfl
theorem f_chk1 (B : Nat) (F : Value) (gc gr : Int) (cp : Bool) (env : Nat → V) (top : Bool) (e z : V) (ans : List V) :
    (noRI c1).map (fun x => view (slots ++ [18]) (evalCode (C77 B F) pF (inE x gc gr cp env top e z ans))) = (noRI c1).map (fun x => some (.normal, keep (.n x.1) (.n x.2) (.n gc) (.n gr) cp ++ [.n (mix x.1 x.2).2.2], [e, .n (mix x.1 x.2).1, .n (mix x.1 x.2).2.1, z], ans, dfr)) := by kernel_rfl
theorem f_chk2 (B : Nat) (F : Value) (gc gr : Int) (cp : Bool) (env : Nat → V) (top : Bool) (e z : V) (ans : List V) :
    (noRI c2).map (fun x => view (slots ++ [18]) (evalCode (C77 B F) pF (inE x gc gr cp env top e z ans))) = (noRI c2).map (fun x => some (.normal, keep (.n x.1) (.n x.2) (.n gc) (.n gr) cp ++ [.n (mix x.1 x.2).2.2], [e, .n (mix x.1 x.2).1, .n (mix x.1 x.2).2.1, z], ans, dfr)) := by kernel_rfl
theorem f_chk3 (B : Nat) (F : Value) (gc gr : Int) (cp : Bool) (env : Nat → V) (top : Bool) (e z : V) (ans : List V) :
    (noRI c3).map (fun x => view (slots ++ [18]) (evalCode (C77 B F) pF (inE x gc gr cp env top e z ans))) = (noRI c3).map (fun x => some (.normal, keep (.n x.1) (.n x.2) (.n gc) (.n gr) cp ++ [.n (mix x.1 x.2).2.2], [e, .n (mix x.1 x.2).1, .n (mix x.1 x.2).2.1, z], ans, dfr)) := by kernel_rfl
theorem f_chk4 (B : Nat) (F : Value) (gc gr : Int) (cp : Bool) (env : Nat → V) (top : Bool) (e z : V) (ans : List V) :
    (noRI c4).map (fun x => view (slots ++ [18]) (evalCode (C77 B F) pF (inE x gc gr cp env top e z ans))) = (noRI c4).map (fun x => some (.normal, keep (.n x.1) (.n x.2) (.n gc) (.n gr) cp ++ [.n (mix x.1 x.2).2.2], [e, .n (mix x.1 x.2).1, .n (mix x.1 x.2).2.1, z], ans, dfr)) := by kernel_rfl
theorem f_chk5 (B : Nat) (F : Value) (gc gr : Int) (cp : Bool) (env : Nat → V) (top : Bool) (e z : V) (ans : List V) :
    (noRI c5).map (fun x => view (slots ++ [18]) (evalCode (C77 B F) pF (inE x gc gr cp env top e z ans))) = (noRI c5).map (fun x => some (.normal, keep (.n x.1) (.n x.2) (.n gc) (.n gr) cp ++ [.n (mix x.1 x.2).2.2], [e, .n (mix x.1 x.2).1, .n (mix x.1 x.2).2.1, z], ans, dfr)) := by kernel_rfl
theorem f_chk6 (B : Nat) (F : Value) (gc gr : Int) (cp : Bool) (env : Nat → V) (top : Bool) (e z : V) (ans : List V) :
    (noRI c6).map (fun x => view (slots ++ [18]) (evalCode (C77 B F) pF (inE x gc gr cp env top e z ans))) = (noRI c6).map (fun x => some (.normal, keep (.n x.1) (.n x.2) (.n gc) (.n gr) cp ++ [.n (mix x.1 x.2).2.2], [e, .n (mix x.1 x.2).1, .n (mix x.1 x.2).2.1, z], ans, dfr)) := by kernel_rfl
theorem f_chk7 (B : Nat) (F : Value) (gc gr : Int) (cp : Bool) (env : Nat → V) (top : Bool) (e z : V) (ans : List V) :
    (noRI c7).map (fun x => view (slots ++ [18]) (evalCode (C77 B F) pF (inE x gc gr cp env top e z ans))) = (noRI c7).map (fun x => some (.normal, keep (.n x.1) (.n x.2) (.n gc) (.n gr) cp ++ [.n (mix x.1 x.2).2.2], [e, .n (mix x.1 x.2).1, .n (mix x.1 x.2).2.1, z], ans, dfr)) := by kernel_rfl
theorem g_any0 (B : Nat) (F : Value) (gc : Int) (cp : Bool) (env : Nat → V) (top : Bool) (e z : V) (ans : List V) :
    (noRI c0).map (fun x => view slots (evalCode (C77 B F) kF (inE x gc 1 cp env top e z ans))) = (noRI c0).map (fun x => outG x gc 1 cp e z false ans) := by kernel_rfl
theorem g_any1 (B : Nat) (F : Value) (gc : Int) (cp : Bool) (env : Nat → V) (top : Bool) (e z : V) (ans : List V) :
    (noRI c1).map (fun x => view slots (evalCode (C77 B F) kF (inE x gc 1 cp env top e z ans))) = (noRI c1).map (fun x => outG x gc 1 cp e z false ans) := by kernel_rfl
theorem g_any2 (B : Nat) (F : Value) (gc : Int) (cp : Bool) (env : Nat → V) (top : Bool) (e z : V) (ans : List V) :
    (noRI c2).map (fun x => view slots (evalCode (C77 B F) kF (inE x gc 1 cp env top e z ans))) = (noRI c2).map (fun x => outG x gc 1 cp e z false ans) := by kernel_rfl
theorem g_any3 (B : Nat) (F : Value) (gc : Int) (cp : Bool) (env : Nat → V) (top : Bool) (e z : V) (ans : List V) :
    (noRI c3).map (fun x => view slots (evalCode (C77 B F) kF (inE x gc 1 cp env top e z ans))) = (noRI c3).map (fun x => outG x gc 1 cp e z false ans) := by kernel_rfl
theorem g_any4 (B : Nat) (F : Value) (gc : Int) (cp : Bool) (env : Nat → V) (top : Bool) (e z : V) (ans : List V) :
    (noRI c4).map (fun x => view slots (evalCode (C77 B F) kF (inE x gc 1 cp env top e z ans))) = (noRI c4).map (fun x => outG x gc 1 cp e z false ans) := by kernel_rfl
theorem g_any5 (B : Nat) (F : Value) (gc : Int) (cp : Bool) (env : Nat → V) (top : Bool) (e z : V) (ans : List V) :
    (noRI c5).map (fun x => view slots (evalCode (C77 B F) kF (inE x gc 1 cp env top e z ans))) = (noRI c5).map (fun x => outG x gc 1 cp e z false ans) := by kernel_rfl
theorem g_any6 (B : Nat) (F : Value) (gc : Int) (cp : Bool) (env : Nat → V) (top : Bool) (e z : V) (ans : List V) :
    (noRI c6).map (fun x => view slots (evalCode (C77 B F) kF (inE x gc 1 cp env top e z ans))) = (noRI c6).map (fun x => outG x gc 1 cp e z false ans) := by kernel_rfl
theorem g_any7 (B : Nat) (F : Value) (gc : Int) (cp : Bool) (env : Nat → V) (top : Bool) (e z : V) (ans : List V) :
    (noRI c7).map (fun x => view slots (evalCode (C77 B F) kF (inE x gc 1 cp env top e z ans))) = (noRI c7).map (fun x => outG x gc 1 cp e z false ans) := by kernel_rfl
end Go.Proofs.Ytnanfoahimccpaa.Lb
