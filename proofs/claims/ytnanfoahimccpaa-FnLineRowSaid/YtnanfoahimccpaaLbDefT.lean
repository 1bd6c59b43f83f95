/- The table of 'uniseg.lbTransitions': what its walks are measured by. -/
import Derived.Test.YtnanfoahimccpaaWbStep
import Derived.Test.YtnanfoahimccpaaEvd
import Derived.Test.YtnanfoahimccpaaLbTab
namespace Go.Proofs.Ytnanfoahimccpaa.Lb
open Go Go.RowKit Ev
open Wb (KT typesOk eq3 eq3_eq)

noncomputable def C93 (B : Nat) : Cfg := { P := Try.prog, N := 325, B, F := undef, T := fun _ _ => none, K := KT }
theorem C93_ok (w : World) : (C93 w.heap.size).Ok (Kept w) :=
  ⟨typesOk rfl rfl, fun _ _ _ h => absurd h (by simp [C93]), fun _ _ _ h hb => ⟨h.1, h.2.trans hb⟩, fun v ans w _ h => absurd h.1 (by simp)⟩
def v3 (x : Int × Int × Int) : V × V × V := (.n x.1, .n x.2.1, .n x.2.2)
def all : List Int := 1 :: plain
def c0 : List Int := [-1, 0, 1, 2, 3, 4]
def c1 : List Int := [5, 6, 7, 8, 9, 10]
def c2 : List Int := [11, 12, 13, 14, 15, 16]
def c3 : List Int := [17, 18, 19, 20, 21, 22]
def c4 : List Int := [23, 24, 25, 26, 27, 28]
def c5 : List Int := [29, 30, 31, 32, 33, 34]
def c6 : List Int := [35, 36, 37, 38, 39, 40]
def c7 : List Int := [41, 42, 43, 44, 45]
theorem cores_eq : cores = c0 ++ c1 ++ c2 ++ c3 ++ c4 ++ c5 ++ c6 ++ c7 := rfl
/-- What holds of each part of the states holds of all. -/
theorem of_chunks {Q : Int → Prop} (h0 : ∀ s ∈ c0, Q s) (h1 : ∀ s ∈ c1, Q s) (h2 : ∀ s ∈ c2, Q s) (h3 : ∀ s ∈ c3, Q s) (h4 : ∀ s ∈ c4, Q s) (h5 : ∀ s ∈ c5, Q s) (h6 : ∀ s ∈ c6, Q s) (h7 : ∀ s ∈ c7, Q s) {s : Int} (hs : s ∈ cores) : Q s := by
  rw [cores_eq] at hs
  simp only [List.mem_append] at hs
  rcases hs with ((((((h | h) | h) | h) | h) | h) | h) | h
  · exact h0 s h
  · exact h1 s h
  · exact h2 s h
  · exact h3 s h
  · exact h4 s h
  · exact h5 s h
  · exact h6 s h
  · exact h7 s h
end Go.Proofs.Ytnanfoahimccpaa.Lb
