/- The parts of 'uniseg.transitionLineBreakProperty' and the plain functions that they are measured by. -/
import Derived.Test.YtnanfoahimccpaaLbDefT
namespace Go.Proofs.Ytnanfoahimccpaa.Lb
open Go Go.RowKit Ev
open Wb (KT typesOk eq3 eq3_eq)

def T77 (f : Nat) (l : List V) : Option V := match f, l with
  | 93, [.n s, .n p] => (match (cores.any (ieq s) && all.any (ieq p)) with | true => some (.t3 (.n (tr s p).1) (.n (tr s p).2.1) (.n (tr s p).2.2)) | false => none)
  | _, _ => none
noncomputable def C77 (B : Nat) (F : Value) : Cfg := { P := Try.prog, N := 318, B, F, K := KT, T := T77 }
noncomputable def pA : Code := (cutAt 5 (body Try.f77)).1
noncomputable def kA : Code := (cutAt 5 (body Try.f77)).2
noncomputable def pB : Code := (cutAt 1 kA).1
noncomputable def kB : Code := (cutAt 1 kA).2
noncomputable def pC : Code := (cutAt 1 kB).1
noncomputable def kC : Code := (cutAt 1 kB).2
noncomputable def pD : Code := (cutAt 3 kC).1
noncomputable def kD : Code := (cutAt 3 kC).2
noncomputable def pE : Code := (cutAt 4 kD).1
noncomputable def kE : Code := (cutAt 4 kD).2
noncomputable def pF : Code := (cutAt 1 kE).1
noncomputable def kF : Code := (cutAt 1 kE).2
/-- Slots that live on: state, property, category, the graphemes' property, what is asked, LB30's bit; the cells' pointers. -/
def slots : List Nat := [0, 1, 2, 4, 5, 15, 12, 13, 9]
def keep (s p gc gr : V) (cp : Bool) : List V := [s, p, gc, gr, .orc, .b cp, .p 1, .p 2, .p 0]
def dfr : List (Nat × List Nat) := [(92, [1, 0, 3, 2])]
def gens : List Int := [-1, 22, 28, 16, 19]
def isMark (gc : Int) : Bool := gc == 22 || gc == 24
def pairs : List (Int × Int) := cores.flatMap fun s => plain.map fun p => (s, p)
/-- LB12a to LB30: what they return, where they do. -/
def early (s p : Int) (m : Int × Int × Int) (wide cp num : Bool) : Option (Int × Int) :=
  if decide (121 < m.2.2) && p == 55 && !(s == 5) && !(s == 9) && !(s == 10) && !(s == 25) && !(s == 18) && !(s == 20) && !(s == 22) then some (8, 0)
  else if decide (130 < m.2.2) && !(s == 28) && !(s == 32) && p == 53 then some (11, 0)
  else if decide (130 < m.2.2) && !(s == 28) && !(s == 32) && p == 48 then some (12, 0)
  else if decide (130 < m.2.2) && !(s == 28) && !(s == 32) && p == 49 then some (14, 0)
  else if decide (130 < m.2.2) && !(s == 28) && !(s == 32) && p == 51 then some (15, 0)
  else if asks s p m.2.2 && num then some (28, 0)
  else if decide (300 < m.2.2) && (s == 27 || s == 26 || s == 28 || s == 32) && p == 47 && !wide then some (16, 0)
  else if decide (300 < m.2.2) && !((s == 27 || s == 26 || s == 28 || s == 32) && p == 47) && cp && p == 44 then some (27, 0)
  else if decide (300 < m.2.2) && !((s == 27 || s == 26 || s == 28 || s == 32) && p == 47) && cp && p == 58 then some (26, 0)
  else if decide (300 < m.2.2) && !((s == 27 || s == 26 || s == 28 || s == 32) && p == 47) && cp && p == 52 then some (28, 0)
  else none
/-- LB30a, LB30b. -/
def late (s p : Int) (m : Int × Int × Int) (unk : Bool) : Int × Int :=
  if m.1 == 0 && p == 75 then (if s == 43 then (44, 0) else (43, m.2.1))
  else if decide (302 < m.2.2) && p == 76 && (s == 30 || s == 45) then (1, 0)
  else if decide (302 < m.2.2) && unk then (45, 1)
  else (m.1, m.2.1)
theorem getD_if {α : Type} (c : Prop) [Decidable c] (a : α) (o : Option α) (d : α) : (if c then some a else o).getD d = if c then a else o.getD d := by split <;> rfl
theorem after_eq (s p : Int) (m : Int × Int × Int) (wide cp unk num : Bool) : after s p m wide cp unk num = (early s p m wide cp num).getD (late s p m unk) := by
  unfold after early
  rw [getD_if, getD_if, getD_if, getD_if, getD_if, getD_if, getD_if, getD_if, getD_if, getD_if]
  rfl
def wideE (ea : Int) : Bool := ea == 82 || ea == 80 || ea == 81
def eas : List Int := [77, 78, 79, 81, 82, 80]
/-- Is the width asked for? -/
def asksE (s p r : Int) : Bool := decide (300 < r) && (s == 27 || s == 26 || s == 28 || s == 32) && p == 47
/-- What the part E leaves. -/
def outE (x : Int × Int) (gc gr : Int) (cp : Bool) (e z : V) (wide num : Bool) (ans : List V) : Option (X × List V × List V × List V × List (Nat × List Nat)) :=
  match early x.1 x.2 (mix x.1 x.2) wide cp num with
  | some r => some (.ret, keep (.n x.1) (.n x.2) (.n gc) (.n gr) cp ++ [.n (mix x.1 x.2).2.2], [e, .n r.1, .n r.2, z], ans, dfr)
  | none => some (.normal, keep (.n x.1) (.n x.2) (.n gc) (.n gr) cp ++ [.n (mix x.1 x.2).2.2], [e, .n (mix x.1 x.2).1, .n (mix x.1 x.2).2.1, z], ans, dfr)
/-- What stands ahead of the part E. -/
def inE (x : Int × Int) (gc gr : Int) (cp : Bool) (env : Nat → V) (top : Bool) (e z : V) (ans : List V) : St :=
  ⟨ov (slots ++ [18]) (keep (.n x.1) (.n x.2) (.n gc) (.n gr) cp ++ [.n (mix x.1 x.2).2.2]) env, [e, .n (mix x.1 x.2).1, .n (mix x.1 x.2).2.1, z], top, ans, dfr⟩
def quiet (l : List Int) : List (Int × Int) := (l.flatMap fun s => plain.map fun p => (s, p)).filter fun x => !asks x.1 x.2 (mix x.1 x.2).2.2 && !asksE x.1 x.2 (mix x.1 x.2).2.2
def opens : List (Int × Int) := ([27, 26, 28, 32].map fun s => (s, (47 : Int))).filter fun x => asksE x.1 x.2 (mix x.1 x.2).2.2
def askersOf (l : List Int) : List (Int × Int) := (l.flatMap fun s => [(s, (50 : Int)), (s, 47)]).filter fun x => asks x.1 x.2 (mix x.1 x.2).2.2
def askers : List (Int × Int) := askersOf cores
def askersCp : List (Int × Int) := askers.filter fun x => x.1 == 12 || x.1 == 36
def noRI (l : List Int) : List (Int × Int) := (l.flatMap fun s => plain.map fun p => (s, p)).filter fun x => !((mix x.1 x.2).1 == 0 && x.2 == 75)
def outG (x : Int × Int) (gc gr : Int) (cp : Bool) (e z : V) (unk : Bool) (ans : List V) : Option (X × List V × List V × List V × List (Nat × List Nat)) :=
  some (.ret, keep (.n x.1) (.n x.2) (.n gc) (.n gr) cp, [e, .n (late x.1 x.2 (mix x.1 x.2) unk).1, .n (late x.1 x.2 (mix x.1 x.2) unk).2, z], ans, dfr)
end Go.Proofs.Ytnanfoahimccpaa.Lb
