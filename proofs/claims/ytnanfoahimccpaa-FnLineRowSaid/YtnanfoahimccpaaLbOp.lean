/- The reference's places: the place in a row, and where nothing is said. -/
import Derived.Test.YtnanfoahimccpaaLbPl
namespace Go.Proofs.Ytnanfoahimccpaa.Lb
open Go.RowKit Go.Proofs.YtnanfoahimccpaaW.PrintWords
open Ln (S64 rd_T64 z64)

/-! ### a place -/
theorem at_in (R T : List S64) : Ln.spec_lbAt_1.f (R.length : Int) (R.reverse ++ T) = some (hk T) := by
  unfold Ln.spec_lbAt_1.f
  rw [if_neg (by omega)]
  cases T with
  | nil => rw [if_pos (by simp)]; rfl
  | cons y T =>
    rw [if_neg (by simp <;> omega), if_pos (by omega), if_pos (by simp <;> omega), rd_mid]
    rfl
theorem at_before (R T : List S64) : Ln.spec_lbAt_1.f ((R.length : Int) - 1) (R.reverse ++ T) = some (hk R) := by
  cases R with
  | nil => rfl
  | cons y R =>
    have h := at_in R (y :: T)
    rw [show (((y :: R).length : Nat) : Int) - 1 = (R.length : Int) by simp, show (y :: R).reverse ++ T = R.reverse ++ y :: T by simp, h]
    rfl
theorem at_two (R T : List S64) : Ln.spec_lbAt_1.f ((R.length : Int) - 2) (R.reverse ++ T) = some (hk R.tail) := by
  cases R with
  | nil => rfl
  | cons y R =>
    have h := at_before R (y :: T)
    rw [show (((y :: R).length : Nat) : Int) - 2 = (R.length : Int) - 1 by simp; omega, show (y :: R).reverse ++ T = R.reverse ++ y :: T by simp, h]
    rfl
theorem at_behind (R T : List S64) : Ln.spec_lbAt_1.f ((R.length : Int) + 1) (R.reverse ++ T) = some (hk T.tail) := by
  cases T with
  | nil =>
    unfold Ln.spec_lbAt_1.f
    rw [if_neg (by omega), if_pos (by simp <;> omega)]
    rfl
  | cons y T =>
    have h := at_in (y :: R) T
    rw [show (R.length : Int) + 1 = (((y :: R).length : Nat) : Int) by simp, show R.reverse ++ y :: T = (y :: R).reverse ++ T by simp, h]
    rfl
theorem at_l0 (row : List S64) (at_ v1 v2 v3 v4 : Int) (h1 : Ln.spec_lbAt_1.f (wrap64 (at_ - 2)) row = some v1) (h2 : Ln.spec_lbAt_1.f (wrap64 (at_ - 1)) row = some v2) (h3 : Ln.spec_lbAt_1.f at_ row = some v3) (h4 : Ln.spec_lbAt_1.f (wrap64 (at_ + 1)) row = some v4) :
    ∀ (R T : List S64) (k : Nat), R.reverse ++ T = row → R.length ≤ 60 → R.length + 3 ≤ k → Ln.spec_lbAt.l0 k at_ row ((R.length : Int) - 1) = some (at_, v1, v2, v3, v4, hk (R.dropWhile isSp))
  | [], T, k, hrow, _, hkk => by
    obtain ⟨k, rfl⟩ : ∃ m, k = m + 2 := ⟨k - 2, by omega⟩
    have h5 := at_before [] T
    rw [hrow] at h5
    rw [Ln.spec_lbAt.l0, if_neg (by simp), Ln.spec_lbAt.j1, h1, h2, h3, h4, h5]
    rfl
  | y :: R, T, k, hrow, hl, hkk => by
    simp only [List.length_cons] at hl hkk
    obtain ⟨k, rfl⟩ : ∃ m, k = m + 2 := ⟨k - 2, by omega⟩
    have hrow2 : R.reverse ++ y :: T = row := by rw [← hrow]; simp
    have hlen : (R.length : Int) < (row.length : Int) := by rw [← hrow2]; simp; omega
    have hy : rd_T64 row (R.length : Int) = y := by rw [← hrow2]; exact rd_mid R T y
    rw [show (((y :: R).length : Nat) : Int) - 1 = (R.length : Int) by simp, Ln.spec_lbAt.l0, if_pos (by omega), if_pos (by omega), if_pos hlen, hy, beq_ite, List.dropWhile_cons]
    show _ = some (at_, v1, v2, v3, v4, hk (if (y.f0 == 7) = true then R.dropWhile isSp else y :: R))
    cases (y.f0 == 7) with
    | true =>
      rw [if_pos rfl, if_pos rfl, wrap_id (by omega)]
      exact at_l0 row at_ v1 v2 v3 v4 h1 h2 h3 h4 R (y :: T) (k + 1) hrow2 (by omega) (by omega)
    | false =>
      have h5 := at_before (y :: R) T
      rw [hrow, show (((y :: R).length : Nat) : Int) - 1 = (R.length : Int) by simp] at h5
      rw [if_neg (by simp), if_neg (by simp), Ln.spec_lbAt.j1, h1, h2, h3, h4, h5]
      rfl
theorem at_f (R T : List S64) (hl : R.length ≤ 60) (k : Nat) (hkk : 100 ≤ k) :
    Ln.spec_lbAt.f k (R.reverse ++ T) (R.length : Int) = some ((R.length : Int), hk R.tail, hk R, hk T, hk T.tail, hk (R.dropWhile isSp)) := by
  unfold Ln.spec_lbAt.f
  have e1 : wrap64 ((R.length : Int) - 1) = (R.length : Int) - 1 := wrap_id (by omega)
  have e2 : wrap64 ((R.length : Int) - 2) = (R.length : Int) - 2 := wrap_id (by omega)
  have e3 : wrap64 ((R.length : Int) + 1) = (R.length : Int) + 1 := wrap_id (by omega)
  rw [e1]
  exact at_l0 _ _ _ _ _ _ (by rw [e2]; exact at_two R T) (by rw [e1]; exact at_before R T) (at_in R T) (by rw [e3]; exact at_behind R T) R T k rfl hl (by omega)

/-! ### where nothing is said -/
theorem unk_f (x : S64) : Ln.spec_lbUnknown.f x.f0 x.f1 x.f2 x.f3 = some (ukS x) := by
  unfold Ln.spec_lbUnknown.f ukS
  cases x.f3 <;> rfl
theorem images_f (l : S64) (R T : List S64) (hl : R.length ≤ 59) (k : Nat) (a b b2 so : Int) :
    Ln.spec_lbImages.f (k + 9) ((l :: R).reverse ++ T) (((l :: R).length : Nat) : Int) (hk R) a b b2 so = some ((ukS l && oneOf [21, 36] b) || (a == 21 && (hk R == 20 || huk R))) := by
  have hrow : (l :: R).reverse ++ T = R.reverse ++ l :: T := by simp
  have e1 : wrap64 ((((l :: R).length : Nat) : Int) - 1) = (R.length : Int) := by rw [wrap_id (by simp; omega)]; simp
  have hl' : rd_T64 ((l :: R).reverse ++ T) (R.length : Int) = l := by rw [hrow]; exact rd_mid R T l
  have hn1 : (R.length : Int) < (((l :: R).reverse ++ T).length : Int) := by simp; omega
  have htail : (if (((l :: R).length : Nat) : Int) > 1 then (if hk R = 20 then some true else (if 0 ≤ (wrap64 ((((l :: R).length : Nat) : Int) - 2)) then (if (wrap64 ((((l :: R).length : Nat) : Int) - 2)) < (((l :: R).reverse ++ T).length : Int) then ((Ln.spec_lbUnknown.f ((rd_T64 ((l :: R).reverse ++ T) (wrap64 ((((l :: R).length : Nat) : Int) - 2))).f0) ((rd_T64 ((l :: R).reverse ++ T) (wrap64 ((((l :: R).length : Nat) : Int) - 2))).f1) ((rd_T64 ((l :: R).reverse ++ T) (wrap64 ((((l :: R).length : Nat) : Int) - 2))).f2) ((rd_T64 ((l :: R).reverse ++ T) (wrap64 ((((l :: R).length : Nat) : Int) - 2))).f3)).bind fun t => some t) else none) else none)) else some false) = some (hk R == 20 || huk R) := by
    cases R with
    | nil => rfl
    | cons m R =>
      have e2 : wrap64 ((((l :: m :: R).length : Nat) : Int) - 2) = (R.length : Int) := by rw [wrap_id (by simp at hl ⊢; omega)]; simp; omega
      have hm : rd_T64 ((l :: m :: R).reverse ++ T) (R.length : Int) = m := by rw [show (l :: m :: R).reverse ++ T = R.reverse ++ m :: (l :: T) by simp]; exact rd_mid R _ m
      have hn2 : (R.length : Int) < (((l :: m :: R).reverse ++ T).length : Int) := by simp; omega
      rw [if_pos (show (((l :: m :: R).length : Nat) : Int) > 1 by simp; omega), e2, if_pos (show 0 ≤ (R.length : Int) by omega), if_pos hn2, hm, unk_f, beq_ite]
      show _ = some (m.f0 == 20 || ukS m)
      show (if (m.f0 == 20) = true then some true else (some (ukS m)).bind fun t => some t) = _
      cases (m.f0 == 20) <;> rfl
  unfold Ln.spec_lbImages.f
  rw [if_neg (by simp; omega), e1, if_pos (by omega), if_pos hn1, hl', unk_f]
  simp only [Option.bind_some]
  rw [htail, among_f _ _ _ (by decide)]
  simp only [Option.bind_some, beq_ite]
  generalize (hk R == 20 || huk R) = u
  cases ukS l <;> cases oneOf [21, 36] b <;> cases (a == 21) <;> cases u <;> rfl

section
variable (k : Nat) (row : List S64) (at_ a2 a b b2 so : Int)
theorem sign_f (x : Int) : Ln.spec_lbSigned_1.f (k + 9) x = some (signB x) := by unfold Ln.spec_lbSigned_1.f; rw [among_f _ _ _ (by decide)]; rfl
theorem signed_f : Ln.spec_lbSigned.f (k + 9) row at_ a2 a b b2 so = some (if b == 34 then signB a && signB a2 else if oneOf [37, 36] b then oneOf [18, 19] a && signB a2 else b == 26 && b2 == 34) := by
  unfold Ln.spec_lbSigned.f
  rw [sign_f, sign_f, among_f _ _ _ (by decide), among_f _ _ _ (by decide)]
  simp only [Option.bind_some, beq_ite]
  cases (b == 34) <;> cases signB a <;> cases signB a2 <;> cases oneOf [37, 36] b <;> cases oneOf [18, 19] a <;> cases (b == 26) <;> rfl
theorem spaced_f : Ln.spec_lbSpaced.f (k + 1) row at_ a2 a b b2 so = some ((a == 7 && a2 == 7) && (if so == 38 then b == 35 else if oneOf [18, 19] so then b == 33 else so == 13 && b == 13)) := by
  unfold Ln.spec_lbSpaced.f
  have hj : ∀ x, Ln.spec_lbSpaced.j0 (k + 1) x row at_ a2 a b b2 so = some (!x && (if so == 38 then b == 35 else if oneOf [18, 19] so then b == 33 else so == 13 && b == 13)) := by
    intro x
    rw [Ln.spec_lbSpaced.j0]
    unfold oneOf oneOf oneOf
    simp only [beq_ite]
    cases x <;> cases (so == 38) <;> cases (so == 18) <;> cases (so == 19) <;> cases (so == 13) <;> rfl
  rw [hj, hj, beq_ite, bne]
  cases (a == 7) <;> cases (a2 == 7) <;> rfl
end
def mbL (S : List S64) : Bool := match S with | [] => false | y :: _ => markB (res y)
theorem marked_f (Q S : List S64) (x : S64) (hl : Q.length ≤ 60) (k : Nat) (row : List S64) (at_ a2 a b b2 so : Int) :
    Ln.spec_lbMarked.f (k + 9) row at_ a2 a b b2 so (Q.reverse ++ x :: S) (Q.length : Int) = some (oneOf [37, 36] a && b == 35 && mbL S) := by
  unfold Ln.spec_lbMarked.f
  rw [among_f _ _ _ (by decide)]
  simp only [Option.bind_some]
  have e1 : wrap64 ((Q.length : Int) + 1) = (((x :: Q).length : Nat) : Int) := by rw [wrap_id (by omega)]; simp
  have hrow : Q.reverse ++ x :: S = (x :: Q).reverse ++ S := by simp
  rw [e1, hrow]
  cases S with
  | nil =>
    have hn : ¬ ((((x :: Q).length : Nat) : Int) < (((x :: Q).reverse ++ ([] : List S64)).length : Int)) := by simp
    rw [if_neg hn, beq_ite]
    unfold mbL
    cases oneOf [37, 36] a <;> cases (b == 35) <;> rfl
  | cons y S =>
    have hn : (((x :: Q).length : Nat) : Int) < (((x :: Q).reverse ++ y :: S).length : Int) := by simp; omega
    rw [if_pos hn, if_pos (show 0 ≤ (((x :: Q).length : Nat) : Int) by omega), rd_mid, show k + 9 = (k + 8) + 1 from rfl, res_f, beq_ite]
    simp only [Option.bind_some]
    rw [show k + 8 + 1 = k + 9 from rfl, mark_f]
    unfold mbL
    cases oneOf [37, 36] a <;> cases (b == 35) <;> rfl
end Go.Proofs.Ytnanfoahimccpaa.Lb
