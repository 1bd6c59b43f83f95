/- Walks by the evaluator: 'uniseg.lbTransitions', second half. -/
import Derived.Test.YtnanfoahimccpaaLbDefT
namespace Go.Proofs.Ytnanfoahimccpaa.Lb
open Go Go.RowKit Ev
open Wb (KT typesOk eq3 eq3_eq)

theorem tab_h4 (B : Nat) : (([23, 24, 25] : List Int).all fun s => all.all fun p => eq3 (out3 4 5 6 (evalCode (C93 B) (body Try.f93) (enter [.n s, .n p] []))) (v3 (tr s p))) = true := by kernel_rfl
theorem tab_g4 (B : Nat) : (([26, 27, 28] : List Int).all fun s => all.all fun p => eq3 (out3 4 5 6 (evalCode (C93 B) (body Try.f93) (enter [.n s, .n p] []))) (v3 (tr s p))) = true := by kernel_rfl
theorem tab_chk4 (B : Nat) : (c4.all fun s => all.all fun p => eq3 (out3 4 5 6 (evalCode (C93 B) (body Try.f93) (enter [.n s, .n p] []))) (v3 (tr s p))) = true := by
  rw [show c4 = [23, 24, 25] ++ [26, 27, 28] from rfl, List.all_append, tab_h4, tab_g4]
  rfl
theorem tab_h5 (B : Nat) : (([29, 30, 31] : List Int).all fun s => all.all fun p => eq3 (out3 4 5 6 (evalCode (C93 B) (body Try.f93) (enter [.n s, .n p] []))) (v3 (tr s p))) = true := by kernel_rfl
theorem tab_g5 (B : Nat) : (([32, 33, 34] : List Int).all fun s => all.all fun p => eq3 (out3 4 5 6 (evalCode (C93 B) (body Try.f93) (enter [.n s, .n p] []))) (v3 (tr s p))) = true := by kernel_rfl
theorem tab_chk5 (B : Nat) : (c5.all fun s => all.all fun p => eq3 (out3 4 5 6 (evalCode (C93 B) (body Try.f93) (enter [.n s, .n p] []))) (v3 (tr s p))) = true := by
  rw [show c5 = [29, 30, 31] ++ [32, 33, 34] from rfl, List.all_append, tab_h5, tab_g5]
  rfl
theorem tab_h6 (B : Nat) : (([35, 36, 37] : List Int).all fun s => all.all fun p => eq3 (out3 4 5 6 (evalCode (C93 B) (body Try.f93) (enter [.n s, .n p] []))) (v3 (tr s p))) = true := by kernel_rfl
theorem tab_g6 (B : Nat) : (([38, 39, 40] : List Int).all fun s => all.all fun p => eq3 (out3 4 5 6 (evalCode (C93 B) (body Try.f93) (enter [.n s, .n p] []))) (v3 (tr s p))) = true := by kernel_rfl
theorem tab_chk6 (B : Nat) : (c6.all fun s => all.all fun p => eq3 (out3 4 5 6 (evalCode (C93 B) (body Try.f93) (enter [.n s, .n p] []))) (v3 (tr s p))) = true := by
  rw [show c6 = [35, 36, 37] ++ [38, 39, 40] from rfl, List.all_append, tab_h6, tab_g6]
  rfl
theorem tab_h7 (B : Nat) : (([41, 42, 43] : List Int).all fun s => all.all fun p => eq3 (out3 4 5 6 (evalCode (C93 B) (body Try.f93) (enter [.n s, .n p] []))) (v3 (tr s p))) = true := by kernel_rfl
theorem tab_g7 (B : Nat) : (([44, 45] : List Int).all fun s => all.all fun p => eq3 (out3 4 5 6 (evalCode (C93 B) (body Try.f93) (enter [.n s, .n p] []))) (v3 (tr s p))) = true := by kernel_rfl
theorem tab_chk7 (B : Nat) : (c7.all fun s => all.all fun p => eq3 (out3 4 5 6 (evalCode (C93 B) (body Try.f93) (enter [.n s, .n p] []))) (v3 (tr s p))) = true := by
  rw [show c7 = [41, 42, 43] ++ [44, 45] from rfl, List.all_append, tab_h7, tab_g7]
  rfl
end Go.Proofs.Ytnanfoahimccpaa.Lb
