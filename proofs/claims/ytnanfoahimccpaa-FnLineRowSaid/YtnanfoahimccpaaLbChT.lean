/- Walks by the evaluator: 'uniseg.lbTransitions', first half. -/
import Derived.Test.YtnanfoahimccpaaLbDefT
namespace Go.Proofs.Ytnanfoahimccpaa.Lb
open Go Go.RowKit Ev
open Wb (KT typesOk eq3 eq3_eq)

theorem tab_h0 (B : Nat) : (([-1, 0, 1] : List Int).all fun s => all.all fun p => eq3 (out3 4 5 6 (evalCode (C93 B) (body Try.f93) (enter [.n s, .n p] []))) (v3 (tr s p))) = true := by kernel_rfl
theorem tab_g0 (B : Nat) : (([2, 3, 4] : List Int).all fun s => all.all fun p => eq3 (out3 4 5 6 (evalCode (C93 B) (body Try.f93) (enter [.n s, .n p] []))) (v3 (tr s p))) = true := by kernel_rfl
theorem tab_chk0 (B : Nat) : (c0.all fun s => all.all fun p => eq3 (out3 4 5 6 (evalCode (C93 B) (body Try.f93) (enter [.n s, .n p] []))) (v3 (tr s p))) = true := by
  rw [show c0 = [-1, 0, 1] ++ [2, 3, 4] from rfl, List.all_append, tab_h0, tab_g0]
  rfl
theorem tab_h1 (B : Nat) : (([5, 6, 7] : List Int).all fun s => all.all fun p => eq3 (out3 4 5 6 (evalCode (C93 B) (body Try.f93) (enter [.n s, .n p] []))) (v3 (tr s p))) = true := by kernel_rfl
theorem tab_g1 (B : Nat) : (([8, 9, 10] : List Int).all fun s => all.all fun p => eq3 (out3 4 5 6 (evalCode (C93 B) (body Try.f93) (enter [.n s, .n p] []))) (v3 (tr s p))) = true := by kernel_rfl
theorem tab_chk1 (B : Nat) : (c1.all fun s => all.all fun p => eq3 (out3 4 5 6 (evalCode (C93 B) (body Try.f93) (enter [.n s, .n p] []))) (v3 (tr s p))) = true := by
  rw [show c1 = [5, 6, 7] ++ [8, 9, 10] from rfl, List.all_append, tab_h1, tab_g1]
  rfl
theorem tab_h2 (B : Nat) : (([11, 12, 13] : List Int).all fun s => all.all fun p => eq3 (out3 4 5 6 (evalCode (C93 B) (body Try.f93) (enter [.n s, .n p] []))) (v3 (tr s p))) = true := by kernel_rfl
theorem tab_g2 (B : Nat) : (([14, 15, 16] : List Int).all fun s => all.all fun p => eq3 (out3 4 5 6 (evalCode (C93 B) (body Try.f93) (enter [.n s, .n p] []))) (v3 (tr s p))) = true := by kernel_rfl
theorem tab_chk2 (B : Nat) : (c2.all fun s => all.all fun p => eq3 (out3 4 5 6 (evalCode (C93 B) (body Try.f93) (enter [.n s, .n p] []))) (v3 (tr s p))) = true := by
  rw [show c2 = [11, 12, 13] ++ [14, 15, 16] from rfl, List.all_append, tab_h2, tab_g2]
  rfl
theorem tab_h3 (B : Nat) : (([17, 18, 19] : List Int).all fun s => all.all fun p => eq3 (out3 4 5 6 (evalCode (C93 B) (body Try.f93) (enter [.n s, .n p] []))) (v3 (tr s p))) = true := by kernel_rfl
theorem tab_g3 (B : Nat) : (([20, 21, 22] : List Int).all fun s => all.all fun p => eq3 (out3 4 5 6 (evalCode (C93 B) (body Try.f93) (enter [.n s, .n p] []))) (v3 (tr s p))) = true := by kernel_rfl
theorem tab_chk3 (B : Nat) : (c3.all fun s => all.all fun p => eq3 (out3 4 5 6 (evalCode (C93 B) (body Try.f93) (enter [.n s, .n p] []))) (v3 (tr s p))) = true := by
  rw [show c3 = [17, 18, 19] ++ [20, 21, 22] from rfl, List.all_append, tab_h3, tab_g3]
  rfl
end Go.Proofs.Ytnanfoahimccpaa.Lb
