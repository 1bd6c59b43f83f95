/- Walks by the evaluator: the first parts of 'uniseg.transitionLineBreakProperty', and of what it defers. -/
import Derived.Test.YtnanfoahimccpaaLbDef
namespace Go.Proofs.Ytnanfoahimccpaa.Lb
open Go Go.RowKit Ev
open Wb (KT typesOk eq3 eq3_eq)

theorem a_chk (B : Nat) (F : Value) (p gc ea gr : Int) (ans : List V) :
    states.map (fun s => view slots (evalCode (C77 B F) pA (enter [.n s, .n p, .n gc, .n ea, .n gr, .orc] ans))) =
      states.map (fun s => some (.normal, keep (.n (core s)) (.n p) (.n gc) (.n gr) (cpOf s), [.n ea, .n 0, .n 0, .b (zwOf s)], ans, dfr)) := by kernel_rfl
theorem b_chk (B : Nat) (F : Value) (s gc gr : Int) (cp : Bool) (env : Nat → V) (top : Bool) (mem ans : List V) :
    (props.filter (fun p => !(p == 59))).map (fun p => view slots (evalCode (C77 B F) pB ⟨ov slots (keep (.n s) (.n p) (.n gc) (.n gr) cp) env, mem, top, ans, dfr⟩)) =
      (props.filter (fun p => !(p == 59))).map (fun p => some (.normal, keep (.n s) (.n (lb1 p false)) (.n gc) (.n gr) cp, mem, ans, dfr)) := by kernel_rfl
theorem b_sa (B : Nat) (F : Value) (s gr : Int) (cp : Bool) (env : Nat → V) (top : Bool) (mem ans : List V) :
    gens.map (fun gc => view slots (evalCode (C77 B F) pB ⟨ov slots (keep (.n s) (.n 59) (.n gc) (.n gr) cp) env, mem, top, ans, dfr⟩)) =
      gens.map (fun gc => some (.normal, keep (.n s) (.n (lb1 59 (isMark gc))) (.n gc) (.n gr) cp, mem, ans, dfr)) := by kernel_rfl
theorem c_mark (B : Nat) (F : Value) (gc gr : Int) (cp : Bool) (env : Nat → V) (top : Bool) (e z : V) (ans : List V) :
    (cores.flatMap fun s => [(s, (14 : Int)), (s, 38)]).map (fun x => view slots (evalCode (C77 B F) pC ⟨ov slots (keep (.n x.1) (.n x.2) (.n gc) (.n gr) cp) env, [e, .n 0, .n 0, z], top, ans, dfr⟩)) =
      (cores.flatMap fun s => [(s, (14 : Int)), (s, 38)]).map (fun x => some (.ret, keep (.n x.1) (.n x.2) (.n gc) (.n gr) cp, [e, .n (marked x.1 x.2).1, .n (marked x.1 x.2).2, z], ans, dfr)) := by kernel_rfl
theorem c_plain (B : Nat) (F : Value) (s gc gr : Int) (cp : Bool) (env : Nat → V) (top : Bool) (mem ans : List V) :
    plain.map (fun p => view slots (evalCode (C77 B F) pC ⟨ov slots (keep (.n s) (.n p) (.n gc) (.n gr) cp) env, mem, top, ans, dfr⟩)) =
      plain.map (fun p => some (.normal, keep (.n s) (.n p) (.n gc) (.n gr) cp, mem, ans, dfr)) := by kernel_rfl
theorem h_any (B : Nat) (F : Value) (ea lb : Int) (ans : List V) :
    ((states.filter fun n => !(n == 12 || n == 36)).flatMap fun n => [(n, true), (n, false)]).map (fun y => view [] (evalCode ((C77 B F).slots 23) (body Try.f92) ⟨argEnv [.p 1, .p 0, .p 3, .p 2], [.n ea, .n y.1, .n lb, .b y.2], false, ans, []⟩)) =
      ((states.filter fun n => !(n == 12 || n == 36)).flatMap fun n => [(n, true), (n, false)]).map (fun y => some (.normal, [], [.n ea, .n (close (y.1, lb) false y.2).1, .n (close (y.1, lb) false y.2).2, .b y.2], ans, [])) := by kernel_rfl
theorem h_cp (B : Nat) (F : Value) (lb : Int) (ans : List V) :
    (([12, 36] : List Int).flatMap fun n => eas.flatMap fun ea => [(n, ea, true), (n, ea, false)]).map (fun y => view [] (evalCode ((C77 B F).slots 23) (body Try.f92) ⟨argEnv [.p 1, .p 0, .p 3, .p 2], [.n y.2.1, .n y.1, .n lb, .b y.2.2], false, ans, []⟩)) =
      (([12, 36] : List Int).flatMap fun n => eas.flatMap fun ea => [(n, ea, true), (n, ea, false)]).map (fun y => some (.normal, [], [.n y.2.1, .n (close (y.1, lb) (wideE y.2.1) y.2.2).1, .n (close (y.1, lb) (wideE y.2.1) y.2.2).2, .b y.2.2], ans, [])) := by kernel_rfl
end Go.Proofs.Ytnanfoahimccpaa.Lb
