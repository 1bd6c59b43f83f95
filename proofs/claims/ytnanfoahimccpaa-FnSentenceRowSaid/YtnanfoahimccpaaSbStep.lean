/- The walks of 'uniseg.sbTransitions' and 'uniseg.transitionSentenceBreakProperty' where it doesn't ask, by the evaluator. -/
import Derived.Test.YtnanfoahimccpaaWbStep
import Derived.Test.YtnanfoahimccpaaSbTab
namespace Go.Proofs.Ytnanfoahimccpaa.Sb
open Go Go.RowKit Ev
open Wb (KT typesOk eq3 eq3_eq v3)

/-! ### the table -/
noncomputable def C80 (B : Nat) : Cfg := { P := Try.prog, N := 159, B, F := undef, T := fun _ _ => none, K := KT }
theorem C80_ok (w : World) : (C80 w.heap.size).Ok (Kept w) :=
  ⟨typesOk rfl rfl, fun _ _ _ h => absurd h (by simp [C80]), fun _ _ _ h hb => ⟨h.1, h.2.trans hb⟩, fun v ans w _ h => absurd h.1 (by simp)⟩
theorem tab_chk (B : Nat) : (states.all fun s => props.all fun p => eq3 (out3 4 5 6 (evalCode (C80 B) (body Try.f80) (enter [.n s, .n p] []))) (v3 (tr s p))) = true := by kernel_rfl

theorem tr_calls (s p : Int) (hs : s ∈ states) (hp : p ∈ props) (w : World) :
    Calls Try.prog 80 #[.int .i64 s, .int .i64 p] w fun e w' => e = .returned (.tuple #[.int .i64 (tr s p).1, .bool (tr s p).2.1, .int .i64 (tr s p).2.2]) ∧ Below w.heap.size w w' := by
  have h := eq3_eq (List.all_eq_true.1 (List.all_eq_true.1 (tab_chk w.heap.size) s hs) p hp)
  obtain ⟨st, h1, h2, h3, h4, h5⟩ := out3_eq h
  refine calls_of_body (C := C80 w.heap.size) (l := [.n s, .n p]) (ans := []) Try.func80 (by kernel_rfl) rfl (by show 2 ≤ 159; decide) ?_
  refine evalCode_sound (C80_ok w) _ _ h1 (Rel.enter ⟨rfl, Below.refl _ _⟩ rfl) fun w' hw' => ?_
  refine post3 (C := C80 w.heap.size) (i := 4) (j := 5) (k := 6) rfl (by show 4 < 159; decide) (by show 5 < 159; decide) (by show 6 < 159; decide) h2 ?_
  rw [h3, h4, h5]
  exact ⟨rfl, hw'.inv.2⟩

/-! ### the step -/
def T60 (f : Nat) (l : List V) : Option V := match f, l with
  | 80, [.n s, .n p] => (match (states.any (ieq s) && props.any (ieq p)) with | true => some (.t3 (.n (tr s p).1) (.b (tr s p).2.1) (.n (tr s p).2.2)) | false => none)
  | _, _ => none
noncomputable def C60 (B : Nat) (F : Value) : Cfg := { P := Try.prog, N := 135, B, F, K := KT, T := T60 }
def ones : List (Int × Int) := (states.flatMap fun s => props.map fun p => (s, p)).filter fun x => !needs x.1 x.2
theorem one_chk (B : Nat) (F : Value) (ans : List V) :
    ones.map (fun x => view [6, 7] (evalCode (C60 B F) (body Try.f60) (enter [.n x.1, .n x.2, .orc] ans))) = ones.map (fun x => some (.ret, [.n (next x.1 x.2 1).1, .b (next x.1 x.2 1).2], [], ans, [])) := by kernel_rfl

def slots : List Nat := [0, 1, 2, 6, 7]
noncomputable def pre : Code := (cutAt 5 (body Try.f60)).1
noncomputable def c5 : Code := (cutAt 5 (body Try.f60)).2
noncomputable def r21 : Code := fstOf (fstOf c5)
noncomputable def LB : Code := loopOf (blockOf (fstOf (thenOf (sndOf (fstOf c5)))))
noncomputable def r26 : Code := sndOf (thenOf (sndOf (fstOf c5)))
theorem c5_eq : c5 = .seq (.seq r21 (.cond (.tmp 94) (.seq (.block 0 (.loop LB)) r26) .skip)) .ret := by kernel_rfl

def pairs : List (Int × Int) := (states.flatMap fun s => props.map fun p => (s, p)).filter fun x => needs x.1 x.2
def kept (x : Int × Int) (p : Int) : List V := [.n x.1, .n p, .orc, .n (mix x.1 x.2).1, .b (mix x.1 x.2).2.1]
theorem pre_chk (B : Nat) (F : Value) (ans : List V) :
    pairs.map (fun x => view (slots ++ [8]) (evalCode (C60 B F) pre (enter [.n x.1, .n x.2, .orc] ans))) = pairs.map (fun x => some (.normal, kept x x.2 ++ [.n (mix x.1 x.2).2.2], [], ans, [])) := by kernel_rfl
theorem r21_chk (B : Nat) (F : Value) (ans : List V) (env : Nat → V) (top : Bool) :
    pairs.map (fun x => view (slots ++ [94]) (evalCode (C60 B F) r21 ⟨ov (slots ++ [8]) (kept x x.2 ++ [.n (mix x.1 x.2).2.2]) env, [], top, ans, []⟩)) = pairs.map (fun x => some (.normal, kept x x.2 ++ [.b true], [], ans, [])) := by kernel_rfl
theorem lb_stop (B : Nat) (F : Value) (ans : List V) (env : Nat → V) (top : Bool) :
    (props.filter stops).map (fun p => view slots (evalCode (C60 B F) LB ⟨ov [1, 2] [.n p, .orc] env, [], top, ans, []⟩)) = (props.filter stops).map (fun p => some (.exit 0, [env 0, .n p, .orc, env 6, env 7], [], ans, [])) := by kernel_rfl
theorem lb_next (B : Nat) (F : Value) (q : Int) (ans : List V) (env : Nat → V) (top : Bool) :
    (props.filter (fun p => !stops p)).map (fun p => view slots (evalCode (C60 B F) LB ⟨ov [1, 2] [.n p, .orc] env, [], top, .t2 (.n q) (.b true) :: ans, []⟩)) = (props.filter (fun p => !stops p)).map (fun _ => some (.normal, [env 0, .n q, .orc, env 6, env 7], [], ans, [])) := by kernel_rfl
theorem lb_end (B : Nat) (F : Value) (ans : List V) (env : Nat → V) (top : Bool) :
    (props.filter (fun p => !stops p)).map (fun p => view slots (evalCode (C60 B F) LB ⟨ov [1, 2] [.n p, .orc] env, [], top, .t2 (.n 0) (.b false) :: ans, []⟩)) = (props.filter (fun p => !stops p)).map (fun p => some (.exit 0, [env 0, .n p, .orc, env 6, env 7], [], ans, [])) := by kernel_rfl
def triples : List ((Int × Int) × Int) := pairs.flatMap fun x => props.map fun f => (x, f)
/-- How the last part ends. -/
def endX (e : Int) : X := match ieq e 35 with | true => .ret | false => .normal
theorem rest_chk (B : Nat) (F : Value) (ans : List V) (env : Nat → V) (top : Bool) :
    triples.map (fun x => view [6, 7] (evalCode (C60 B F) r26 ⟨ov slots (kept x.1 x.2) env, [], top, ans, []⟩)) = triples.map (fun x => some (endX x.2, [.n (next x.1.1 x.1.2 x.2).1, .b (next x.1.1 x.1.2 x.2).2], [], ans, [])) := by kernel_rfl
end Go.Proofs.Ytnanfoahimccpaa.Sb
