/- Walks by the evaluator: the table's use in 'uniseg.transitionLineBreakProperty'. -/
import Derived.Test.YtnanfoahimccpaaLbDef
namespace Go.Proofs.Ytnanfoahimccpaa.Lb
open Go Go.RowKit Ev
open Wb (KT typesOk eq3 eq3_eq)

theorem d_chk0 (B : Nat) (F : Value) (gc gr : Int) (cp : Bool) (env : Nat → V) (top : Bool) (e z : V) (ans : List V) :
    (c0.flatMap fun s => plain.map fun p => (s, p)).map (fun x => view (slots ++ [18]) (evalCode (C77 B F) pD ⟨ov slots (keep (.n x.1) (.n x.2) (.n gc) (.n gr) cp) env, [e, .n 0, .n 0, z], top, ans, dfr⟩)) =
      (c0.flatMap fun s => plain.map fun p => (s, p)).map (fun x => some (.normal, keep (.n x.1) (.n x.2) (.n gc) (.n gr) cp ++ [.n (mix x.1 x.2).2.2], [e, .n (mix x.1 x.2).1, .n (mix x.1 x.2).2.1, z], ans, dfr)) := by kernel_rfl
theorem d_chk1 (B : Nat) (F : Value) (gc gr : Int) (cp : Bool) (env : Nat → V) (top : Bool) (e z : V) (ans : List V) :
    (c1.flatMap fun s => plain.map fun p => (s, p)).map (fun x => view (slots ++ [18]) (evalCode (C77 B F) pD ⟨ov slots (keep (.n x.1) (.n x.2) (.n gc) (.n gr) cp) env, [e, .n 0, .n 0, z], top, ans, dfr⟩)) =
      (c1.flatMap fun s => plain.map fun p => (s, p)).map (fun x => some (.normal, keep (.n x.1) (.n x.2) (.n gc) (.n gr) cp ++ [.n (mix x.1 x.2).2.2], [e, .n (mix x.1 x.2).1, .n (mix x.1 x.2).2.1, z], ans, dfr)) := by kernel_rfl
theorem d_chk2 (B : Nat) (F : Value) (gc gr : Int) (cp : Bool) (env : Nat → V) (top : Bool) (e z : V) (ans : List V) :
    (c2.flatMap fun s => plain.map fun p => (s, p)).map (fun x => view (slots ++ [18]) (evalCode (C77 B F) pD ⟨ov slots (keep (.n x.1) (.n x.2) (.n gc) (.n gr) cp) env, [e, .n 0, .n 0, z], top, ans, dfr⟩)) =
      (c2.flatMap fun s => plain.map fun p => (s, p)).map (fun x => some (.normal, keep (.n x.1) (.n x.2) (.n gc) (.n gr) cp ++ [.n (mix x.1 x.2).2.2], [e, .n (mix x.1 x.2).1, .n (mix x.1 x.2).2.1, z], ans, dfr)) := by kernel_rfl
theorem d_chk3 (B : Nat) (F : Value) (gc gr : Int) (cp : Bool) (env : Nat → V) (top : Bool) (e z : V) (ans : List V) :
    (c3.flatMap fun s => plain.map fun p => (s, p)).map (fun x => view (slots ++ [18]) (evalCode (C77 B F) pD ⟨ov slots (keep (.n x.1) (.n x.2) (.n gc) (.n gr) cp) env, [e, .n 0, .n 0, z], top, ans, dfr⟩)) =
      (c3.flatMap fun s => plain.map fun p => (s, p)).map (fun x => some (.normal, keep (.n x.1) (.n x.2) (.n gc) (.n gr) cp ++ [.n (mix x.1 x.2).2.2], [e, .n (mix x.1 x.2).1, .n (mix x.1 x.2).2.1, z], ans, dfr)) := by kernel_rfl
theorem d_chk4 (B : Nat) (F : Value) (gc gr : Int) (cp : Bool) (env : Nat → V) (top : Bool) (e z : V) (ans : List V) :
    (c4.flatMap fun s => plain.map fun p => (s, p)).map (fun x => view (slots ++ [18]) (evalCode (C77 B F) pD ⟨ov slots (keep (.n x.1) (.n x.2) (.n gc) (.n gr) cp) env, [e, .n 0, .n 0, z], top, ans, dfr⟩)) =
      (c4.flatMap fun s => plain.map fun p => (s, p)).map (fun x => some (.normal, keep (.n x.1) (.n x.2) (.n gc) (.n gr) cp ++ [.n (mix x.1 x.2).2.2], [e, .n (mix x.1 x.2).1, .n (mix x.1 x.2).2.1, z], ans, dfr)) := by kernel_rfl
theorem d_chk5 (B : Nat) (F : Value) (gc gr : Int) (cp : Bool) (env : Nat → V) (top : Bool) (e z : V) (ans : List V) :
    (c5.flatMap fun s => plain.map fun p => (s, p)).map (fun x => view (slots ++ [18]) (evalCode (C77 B F) pD ⟨ov slots (keep (.n x.1) (.n x.2) (.n gc) (.n gr) cp) env, [e, .n 0, .n 0, z], top, ans, dfr⟩)) =
      (c5.flatMap fun s => plain.map fun p => (s, p)).map (fun x => some (.normal, keep (.n x.1) (.n x.2) (.n gc) (.n gr) cp ++ [.n (mix x.1 x.2).2.2], [e, .n (mix x.1 x.2).1, .n (mix x.1 x.2).2.1, z], ans, dfr)) := by kernel_rfl
theorem d_chk6 (B : Nat) (F : Value) (gc gr : Int) (cp : Bool) (env : Nat → V) (top : Bool) (e z : V) (ans : List V) :
    (c6.flatMap fun s => plain.map fun p => (s, p)).map (fun x => view (slots ++ [18]) (evalCode (C77 B F) pD ⟨ov slots (keep (.n x.1) (.n x.2) (.n gc) (.n gr) cp) env, [e, .n 0, .n 0, z], top, ans, dfr⟩)) =
      (c6.flatMap fun s => plain.map fun p => (s, p)).map (fun x => some (.normal, keep (.n x.1) (.n x.2) (.n gc) (.n gr) cp ++ [.n (mix x.1 x.2).2.2], [e, .n (mix x.1 x.2).1, .n (mix x.1 x.2).2.1, z], ans, dfr)) := by kernel_rfl
theorem d_chk7 (B : Nat) (F : Value) (gc gr : Int) (cp : Bool) (env : Nat → V) (top : Bool) (e z : V) (ans : List V) :
    (c7.flatMap fun s => plain.map fun p => (s, p)).map (fun x => view (slots ++ [18]) (evalCode (C77 B F) pD ⟨ov slots (keep (.n x.1) (.n x.2) (.n gc) (.n gr) cp) env, [e, .n 0, .n 0, z], top, ans, dfr⟩)) =
      (c7.flatMap fun s => plain.map fun p => (s, p)).map (fun x => some (.normal, keep (.n x.1) (.n x.2) (.n gc) (.n gr) cp ++ [.n (mix x.1 x.2).2.2], [e, .n (mix x.1 x.2).1, .n (mix x.1 x.2).2.1, z], ans, dfr)) := by kernel_rfl
end Go.Proofs.Ytnanfoahimccpaa.Lb
