/- Walks by the evaluator: 'uniseg.lbTransitions'. -/
import Derived.Test.YtnanfoahimccpaaLbChT
import Derived.Test.YtnanfoahimccpaaLbChU
namespace Go.Proofs.Ytnanfoahimccpaa.Lb
open Go Go.RowKit Ev
open Wb (KT typesOk eq3 eq3_eq)

theorem tab_all (B : Nat) {s : Int} (hs : s ∈ cores) : ∀ p ∈ all, eq3 (out3 4 5 6 (evalCode (C93 B) (body Try.f93) (enter [.n s, .n p] []))) (v3 (tr s p)) = true :=
  of_chunks (fun s h => List.all_eq_true.1 (List.all_eq_true.1 (tab_chk0 B) s h)) (fun s h => List.all_eq_true.1 (List.all_eq_true.1 (tab_chk1 B) s h)) (fun s h => List.all_eq_true.1 (List.all_eq_true.1 (tab_chk2 B) s h)) (fun s h => List.all_eq_true.1 (List.all_eq_true.1 (tab_chk3 B) s h)) (fun s h => List.all_eq_true.1 (List.all_eq_true.1 (tab_chk4 B) s h)) (fun s h => List.all_eq_true.1 (List.all_eq_true.1 (tab_chk5 B) s h)) (fun s h => List.all_eq_true.1 (List.all_eq_true.1 (tab_chk6 B) s h)) (fun s h => List.all_eq_true.1 (List.all_eq_true.1 (tab_chk7 B) s h)) hs
theorem tr_calls (s p : Int) (hs : s ∈ cores) (hp : p ∈ all) (w : World) :
    Calls Try.prog 93 #[.int .i64 s, .int .i64 p] w fun e w' => e = .returned (.tuple #[.int .i64 (tr s p).1, .int .i64 (tr s p).2.1, .int .i64 (tr s p).2.2]) ∧ Below w.heap.size w w' := by
  have h := eq3_eq (tab_all w.heap.size hs p hp)
  obtain ⟨st, h1, h2, h3, h4, h5⟩ := out3_eq h
  refine calls_of_body (C := C93 w.heap.size) (l := [.n s, .n p]) (ans := []) Try.func93 (by kernel_rfl) rfl (by show 2 ≤ 325; decide) ?_
  refine evalCode_sound (C93_ok w) _ _ h1 (Rel.enter ⟨rfl, Below.refl _ _⟩ rfl) fun w' hw' => ?_
  refine post3 (C := C93 w.heap.size) (i := 4) (j := 5) (k := 6) rfl (by show 4 < 325; decide) (by show 5 < 325; decide) (by show 6 < 325; decide) h2 ?_
  rw [h3, h4, h5]
  exact ⟨rfl, hw'.inv.2⟩
end Go.Proofs.Ytnanfoahimccpaa.Lb
