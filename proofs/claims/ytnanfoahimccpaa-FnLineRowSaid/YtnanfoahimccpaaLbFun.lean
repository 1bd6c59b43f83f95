/- The reference's functions of one place, as Bools. -/
import Derived.Test.YtnanfoahimccpaaLbRes
import Derived.Test.YtnanfoahimccpaaLnx5
import Derived.Test.YtnanfoahimccpaaLnx6
import Derived.Test.YtnanfoahimccpaaLnx7
import Derived.Test.YtnanfoahimccpaaLnx8
import Derived.Test.YtnanfoahimccpaaLnx9
import Derived.Test.YtnanfoahimccpaaLnx10
import Derived.Test.YtnanfoahimccpaaLnx11
import Derived.Test.YtnanfoahimccpaaLnx12
namespace Go.Proofs.Ytnanfoahimccpaa.Lb
open Go.RowKit Go.Proofs.YtnanfoahimccpaaW.PrintWords
open Ln (S64 rd_T64 z64)

theorem rd_mid (R T : List S64) (y : S64) : rd_T64 (R.reverse ++ y :: T) (R.length : Int) = y := by simp [rd_T64]

theorem cls_35 (x : Int) : (cls x == 35) = (x == 35) := by
  unfold cls
  (repeat' split) <;> simp_all <;> omega
theorem cls_38 (x : Int) : (cls x == 38) = (x == 38) := by
  unfold cls
  (repeat' split) <;> simp_all <;> omega
theorem cls_18 (x : Int) : (cls x == 18) = oneOf [18, 19] x := by
  unfold cls oneOf oneOf oneOf
  (repeat' split) <;> simp_all <;> omega
theorem cls_13 (x : Int) : (cls x == 13) = (x == 13) := by
  unfold cls
  (repeat' split) <;> simp_all <;> omega

/-! ### LB11 to LB17 -/
section
variable (k : Nat) (row : List S64) (at_ a2 a b b2 so : Int)
def g2 (b so : Int) : Bool := (oneOf [18, 19] so && b == 33) || (so == 13 && b == 13)
def g1 (b so : Int) : Bool := oneOf [18, 19, 22, 29, 42] b || so == 35 || (so == 38 && b == 35) || g2 b so
theorem glue_j2 (x : Bool) : Ln.spec_lbGlue.j2 (k + 10) x row at_ a2 a b b2 so = some (x || g2 b so) := by
  rw [Ln.spec_lbGlue.j2, among_f _ _ _ (by decide)]
  unfold g2
  simp only [beq_ite, Option.bind_some]
  cases x <;> cases oneOf [18, 19] so <;> cases (b == 33) <;> cases (so == 13) <;> cases (b == 13) <;> rfl
theorem glue_j1 (x : Bool) : Ln.spec_lbGlue.j1 (k + 11) x row at_ a2 a b b2 so = some (x || g1 b so) := by
  rw [Ln.spec_lbGlue.j1, show k + 10 = (k + 1) + 9 from rfl, among_f _ _ _ (by decide), glue_j2, glue_j2]
  unfold g1
  simp only [beq_ite, Option.bind_some]
  generalize g2 b so = g
  cases x <;> cases oneOf [18, 19, 22, 29, 42] b <;> cases (so == 35) <;> cases (so == 38) <;> cases (b == 35) <;> cases g <;> rfl
theorem glue_j0 (x : Bool) : Ln.spec_lbGlue.j0 (k + 12) x row at_ a2 a b b2 so = some (x || (b == 4 && !oneOf [7, 14, 26] a) || g1 b so) := by
  rw [Ln.spec_lbGlue.j0, show k + 11 = (k + 2) + 9 from rfl, among_f _ _ _ (by decide)]
  simp only [beq_ite, Option.bind_some]
  rw [show (k + 2) + 9 = k + 11 from rfl, glue_j1, glue_j1]
  generalize g1 b so = g
  cases x <;> cases (b == 4) <;> cases oneOf [7, 14, 26] a <;> cases g <;> rfl
theorem glue_f : Ln.spec_lbGlue.f (k + 12) row at_ a2 a b b2 so = some (glueB a b (cls so)) := by
  unfold Ln.spec_lbGlue.f glueB
  rw [glue_j0, glue_j0, glue_j0, cls_35, cls_38, cls_18, cls_13]
  simp only [beq_ite]
  unfold g1 g2
  generalize (b == 4 && !oneOf [7, 14, 26] a) = u
  generalize oneOf [18, 19, 22, 29, 42] b = v
  generalize (so == 35) = x1
  generalize (so == 38 && b == 35) = x2
  generalize (oneOf [18, 19] so && b == 33) = x3
  generalize (so == 13 && b == 13) = x4
  cases (a == 8) <;> cases (b == 8) <;> cases (a == 4) <;> simp [Bool.or_assoc]

/-! ### LB25 as pairs -/
theorem pairs_j1 (x : Bool) : Ln.spec_lbPairs.j1 (k + 10) x row at_ a2 a b b2 so = some (if x then oneOf [35, 34] b else oneOf [26, 29, 42] a && b == 34) := by
  rw [Ln.spec_lbPairs.j1, among_f _ _ _ (by decide), among_f _ _ _ (by decide)]
  simp only [Option.bind_some]
  cases x <;> cases oneOf [35, 34] b <;> cases oneOf [26, 29, 42] a <;> rfl
theorem pairs_j0 (x : Bool) : Ln.spec_lbPairs.j0 (k + 11) a x row at_ a2 a b b2 so = some (if x then oneOf [36, 37] b else if a == 34 then oneOf [36, 37, 34] b else if a == 36 || a == 37 then oneOf [35, 34] b else oneOf [26, 29, 42] a && b == 34) := by
  rw [Ln.spec_lbPairs.j0, pairs_j1, pairs_j1, show k + 10 = (k + 1) + 9 from rfl, among_f _ _ _ (by decide), among_f _ _ _ (by decide)]
  simp only [beq_ite, Option.bind_some]
  cases x <;> cases (a == 34) <;> cases (a == 36) <;> cases (a == 37) <;> rfl
theorem pairs_f : Ln.spec_lbPairs.f (k + 11) row at_ a2 a b b2 so = some (pairsB a b) := by
  unfold Ln.spec_lbPairs.f pairsB
  rw [pairs_j0, pairs_j0]
  simp only [beq_ite]
  cases (a == 18) <;> cases (a == 19) <;> rfl

/-! ### LB25 as it is tailored for numbers -/
def nTail (b : Int) (cl N : Bool) : Bool := if !N then false else if oneOf [36, 37] b then true else !cl && oneOf [34, 42, 29, 18, 19] b
theorem number_j5 (cl x : Bool) : Ln.spec_lbNumber.j5 (k + 10) cl x row at_ a2 a b b2 so = some (nTail b cl (!x)) := by
  rw [Ln.spec_lbNumber.j5, among_f _ _ _ (by decide), among_f _ _ _ (by decide)]
  unfold nTail
  simp only [Option.bind_some]
  cases cl <;> cases x <;> cases oneOf [36, 37] b <;> rfl
theorem number_l0 (cl : Bool) : ∀ (R T : List S64) (k : Nat), R.length ≤ 60 → R.length + 20 ≤ k → Ln.spec_lbNumber.l0 k ((R.length : Int) - 1) cl (R.reverse ++ T) at_ a2 a b b2 so = some (nTail b cl (numR R))
  | [], T, k, _, hkk => by
    obtain ⟨k, rfl⟩ : ∃ m, k = m + 12 := ⟨k - 12, by simp at hkk; omega⟩
    rw [Ln.spec_lbNumber.l0, if_neg (by simp), Ln.spec_lbNumber.j4, if_pos (by simp), number_j5]
    rfl
  | y :: R, T, k, hl, hkk => by
    simp only [List.length_cons] at hl hkk
    obtain ⟨k, rfl⟩ : ∃ m, k = m + 12 := ⟨k - 12, by omega⟩
    have hrow : (y :: R).reverse ++ T = R.reverse ++ y :: T := by simp
    have hi : (((y :: R).length : Nat) : Int) - 1 = (R.length : Int) := by simp
    have hlen : (R.length : Int) < ((R.reverse ++ y :: T).length : Int) := by simp; omega
    rw [hrow, hi, Ln.spec_lbNumber.l0, if_pos (by omega), if_pos (by omega), if_pos hlen, rd_mid, show k + 11 = (k + 2) + 9 from rfl, among_f _ _ _ (by decide)]
    simp only [Option.bind_some]
    have hn : numR (y :: R) = if signB y.f0 then numR R else y.f0 == 34 := by
      unfold numR
      rw [List.dropWhile_cons]
      show (hk (if signB y.f0 = true then _ else _) == 34) = _
      cases signB y.f0 <;> rfl
    rw [hn, show oneOf [42, 29] y.f0 = signB y.f0 by unfold signB oneOf oneOf oneOf; cases (y.f0 == 42) <;> cases (y.f0 == 29) <;> rfl]
    cases signB y.f0 with
    | true =>
      rw [if_pos rfl, if_pos rfl, wrap_id (by omega)]
      exact number_l0 cl R (y :: T) _ (by omega) (by omega)
    | false =>
      simp only [Bool.false_eq_true, if_false]
      rw [show k + 2 + 9 = (k + 10) + 1 from rfl, Ln.spec_lbNumber.j4, if_neg (by omega), if_pos (by omega), if_pos hlen, rd_mid, number_j5, bne, Bool.not_not]
end

theorem number_j1 (R T : List S64) (k : Nat) (hl : R.length ≤ 60) (hk' : 90 ≤ k) (a2 b b2 so : Int) (x : Bool) (hR : R ≠ []) :
    Ln.spec_lbNumber.j1 k x (R.reverse ++ T) (R.length : Int) a2 (hk R) b b2 so = some (x || nTail b (oneOf [18, 19] (hk R)) (if oneOf [18, 19] (hk R) then numR R.tail else numR R)) := by
  obtain ⟨k, rfl⟩ : ∃ m, k = m + 12 := ⟨k - 12, by omega⟩
  rw [Ln.spec_lbNumber.j1, show k + 11 = (k + 2) + 9 from rfl, among_f _ _ _ (by decide)]
  simp only [Option.bind_some]
  cases R with
  | nil => exact absurd rfl hR
  | cons y R =>
    simp only [List.length_cons] at hl
    have e1 : wrap64 ((((y :: R).length : Nat) : Int) - 1) = (((y :: R).length : Nat) : Int) - 1 := wrap_id (by simp; omega)
    have e2 : wrap64 (wrap64 ((((y :: R).length : Nat) : Int) - 1) - 1) = (R.length : Int) - 1 := by rw [e1, wrap_id (by simp; omega)]; simp
    cases x with
    | true => rfl
    | false =>
      simp only [Bool.false_eq_true, if_false, Bool.false_or]
      cases hc : oneOf [18, 19] (hk (y :: R)) with
      | true =>
        rw [if_pos rfl, if_pos rfl, show k + 2 + 9 = (k + 10) + 1 from rfl, Ln.spec_lbNumber.j2, e2, show (y :: R).reverse ++ T = R.reverse ++ y :: T by simp]
        exact number_l0 _ _ _ _ _ _ true R (y :: T) _ (by omega) (by omega)
      | false =>
        simp only [Bool.false_eq_true, if_false]
        rw [show k + 2 + 9 = (k + 10) + 1 from rfl, Ln.spec_lbNumber.j2, e1]
        exact number_l0 _ _ _ _ _ _ false (y :: R) T _ (by simp; omega) (by simp; omega)
theorem number_f (R T : List S64) (k : Nat) (hl : R.length ≤ 60) (hk' : 100 ≤ k) (a2 b b2 so : Int) (hR : R ≠ []) (P : Bool) (hP : P = (oneOf [18, 19] (hk R) && numR R.tail)) :
    Ln.spec_lbNumber.f k (R.reverse ++ T) (R.length : Int) a2 (hk R) b b2 so = some (numberB (hk R) b (b2 == 34) (numR R) P) := by
  obtain ⟨k, rfl⟩ : ∃ m, k = m + 12 := ⟨k - 12, by omega⟩
  have hj0 : ∀ x, Ln.spec_lbNumber.j0 (k + 12) x (R.reverse ++ T) (R.length : Int) a2 (hk R) b b2 so = some (x || (oneOf [35, 26] (hk R) && b == 34) || nTail b (oneOf [18, 19] (hk R)) (if oneOf [18, 19] (hk R) then numR R.tail else numR R)) := by
    intro x
    rw [Ln.spec_lbNumber.j0, number_j1 R T _ hl (by omega) _ _ _ _ _ hR, number_j1 R T _ hl (by omega) _ _ _ _ _ hR, show k + 11 = (k + 2) + 9 from rfl, among_f _ _ _ (by decide)]
    simp only [Option.bind_some]
    generalize nTail b (oneOf [18, 19] (hk R)) (if oneOf [18, 19] (hk R) then numR R.tail else numR R) = u
    cases x <;> cases oneOf [35, 26] (hk R) <;> cases (b == 34) <;> cases u <;> rfl
  unfold Ln.spec_lbNumber.f numberB
  rw [hj0, hj0, hj0, show k + 12 = (k + 3) + 9 from rfl, among_f _ _ _ (by decide), among_f _ _ _ (by decide), hP]
  simp only [beq_ite, Option.bind_some]
  unfold nTail
  generalize hk R = a
  generalize numR R.tail = u
  generalize numR R = v
  cases oneOf [37, 36] a <;> cases (b == 34) <;> cases oneOf [35, 26] b <;> cases (b2 == 34) <;> cases oneOf [35, 26] a <;> cases oneOf [18, 19] a <;> cases u <;> cases v <;> first | rfl | (cases oneOf [36, 37] b <;> rfl)
/-! ### LB21 to LB24 -/
section
variable (k : Nat) (row : List S64) (at_ a2 a b b2 so : Int)
theorem fix_f (x : Int) : Ln.spec_lbHyphens_1.f (k + 9) x = some (oneOf [37, 36] x) := by unfold Ln.spec_lbHyphens_1.f; rw [among_f _ _ _ (by decide)]; rfl
theorem image_f (x : Int) : Ln.spec_lbHyphens_2.f (k + 9) x = some (oneOf [27, 20, 21] x) := by unfold Ln.spec_lbHyphens_2.f; rw [among_f _ _ _ (by decide)]; rfl
def y6 (a b : Int) : Bool := (oneOf [37, 36] a && letB b) || (letB a && oneOf [37, 36] b)
def y5 (a b : Int) : Bool := (oneOf [27, 20, 21] a && b == 36) || y6 a b
def y4 (a b : Int) : Bool := (a == 37 && oneOf [27, 20, 21] b) || y5 a b
def y3 (a b : Int) : Bool := (a == 34 && letB b) || y4 a b
def y2 (a b : Int) : Bool := b == 28 || ((letB a && b == 34) || y3 a b)
def y1 (a b : Int) : Bool := (a == 42 && b == 25) || y2 a b
theorem hyph_j6 : Ln.spec_lbHyphens.j6 (k + 10) row at_ a2 a b b2 so = some (y6 a b) := by
  rw [Ln.spec_lbHyphens.j6, fix_f, fix_f, let_f, let_f]
  unfold y6
  simp only [Option.bind_some]
  cases oneOf [37, 36] a <;> cases letB b <;> cases letB a <;> cases oneOf [37, 36] b <;> rfl
theorem hyph_j5 (x : Bool) : Ln.spec_lbHyphens.j5 (k + 11) x row at_ a2 a b b2 so = some (x || y5 a b) := by
  rw [Ln.spec_lbHyphens.j5, show k + 10 = (k + 1) + 9 from rfl, image_f, show k + 1 + 9 = k + 10 from rfl, hyph_j6]
  unfold y5
  simp only [beq_ite, Option.bind_some]
  generalize y6 a b = u
  cases x <;> cases oneOf [27, 20, 21] a <;> cases (b == 36) <;> cases u <;> rfl
theorem hyph_j4 (x : Bool) : Ln.spec_lbHyphens.j4 (k + 12) x row at_ a2 a b b2 so = some (x || y4 a b) := by
  rw [Ln.spec_lbHyphens.j4, show k + 11 = (k + 2) + 9 from rfl, image_f]
  simp only [Option.bind_some]
  rw [show k + 2 + 9 = k + 11 from rfl, hyph_j5, hyph_j5]
  unfold y4
  simp only [beq_ite]
  generalize y5 a b = u
  cases x <;> cases (a == 37) <;> cases oneOf [27, 20, 21] b <;> cases u <;> rfl
theorem hyph_j3 (x : Bool) : Ln.spec_lbHyphens.j3 (k + 13) x row at_ a2 a b b2 so = some (x || y3 a b) := by
  rw [Ln.spec_lbHyphens.j3, show k + 12 = (k + 3) + 9 from rfl, let_f]
  simp only [Option.bind_some]
  rw [show k + 3 + 9 = k + 12 from rfl, hyph_j4, hyph_j4, hyph_j4]
  unfold y3
  simp only [beq_ite]
  generalize y4 a b = u
  cases x <;> cases (a == 34) <;> cases letB b <;> cases u <;> rfl
theorem hyph_j2 (x : Bool) : Ln.spec_lbHyphens.j2 (k + 14) x row at_ a2 a b b2 so = some (x || y2 a b) := by
  rw [Ln.spec_lbHyphens.j2, show k + 13 = (k + 4) + 9 from rfl, let_f]
  simp only [Option.bind_some]
  rw [show k + 4 + 9 = k + 13 from rfl, hyph_j3, hyph_j3]
  unfold y2
  simp only [beq_ite]
  generalize y3 a b = u
  cases x <;> cases (b == 28) <;> cases letB a <;> cases (b == 34) <;> cases u <;> rfl
theorem hyph_j1 (x : Bool) : Ln.spec_lbHyphens.j1 (k + 15) x row at_ a2 a b b2 so = some (x || y1 a b) := by
  rw [Ln.spec_lbHyphens.j1, hyph_j2, hyph_j2]
  unfold y1
  simp only [beq_ite]
  generalize y2 a b = u
  cases x <;> cases (a == 42) <;> cases (b == 25) <;> cases u <;> rfl
theorem hyph_j0 (x : Bool) : Ln.spec_lbHyphens.j0 (k + 16) x row at_ a2 a b b2 so = some (x || ((oneOf [26, 14] a && a2 == 25) || y1 a b)) := by
  rw [Ln.spec_lbHyphens.j0, show k + 15 = (k + 6) + 9 from rfl, among_f _ _ _ (by decide)]
  simp only [Option.bind_some]
  rw [show k + 6 + 9 = k + 15 from rfl, hyph_j1, hyph_j1]
  simp only [beq_ite]
  generalize y1 a b = u
  cases x <;> cases oneOf [26, 14] a <;> cases (a2 == 25) <;> cases u <;> rfl
theorem hyph_f : Ln.spec_lbHyphens.f (k + 16) row at_ a2 a b b2 so = some (hyphB (oneOf [26, 14] a && a2 == 25) a b) := by
  unfold Ln.spec_lbHyphens.f hyphB
  rw [show k + 16 = (k + 7) + 9 from rfl, among_f _ _ _ (by decide)]
  simp only [Option.bind_some]
  rw [show k + 7 + 9 = k + 16 from rfl, hyph_j0, hyph_j0]
  unfold y1 y2 y3 y4 y5 y6
  cases oneOf [14, 26, 33] b <;> simp [Bool.or_assoc]

/-! ### LB26, LB27 -/
theorem jamo_f (x : Int) : Ln.spec_lbHangul_1.f (k + 9) x = some (jamoB x) := by unfold Ln.spec_lbHangul_1.f; rw [among_f _ _ _ (by decide)]; rfl
def z2 (a b : Int) : Bool := (jamoB a && b == 36) || (a == 37 && jamoB b)
def z1 (a b : Int) : Bool := (oneOf [31, 24] a && b == 31) || z2 a b
theorem hang_j2 (x : Bool) : Ln.spec_lbHangul.j2 (k + 10) x row at_ a2 a b b2 so = some (x || z2 a b) := by
  rw [Ln.spec_lbHangul.j2, jamo_f, jamo_f]
  unfold z2
  simp only [beq_ite, Option.bind_some]
  cases x <;> cases jamoB a <;> cases (b == 36) <;> cases (a == 37) <;> cases jamoB b <;> rfl
theorem hang_j1 (x : Bool) : Ln.spec_lbHangul.j1 (k + 11) x row at_ a2 a b b2 so = some (x || z1 a b) := by
  rw [Ln.spec_lbHangul.j1, show k + 10 = (k + 1) + 9 from rfl, among_f _ _ _ (by decide)]
  simp only [Option.bind_some]
  rw [show k + 1 + 9 = k + 10 from rfl, hang_j2, hang_j2]
  unfold z1
  generalize z2 a b = u
  cases x <;> cases oneOf [31, 24] a <;> cases (b == 31) <;> cases u <;> rfl
theorem hang_j0 (x : Bool) : Ln.spec_lbHangul.j0 (k + 12) x row at_ a2 a b b2 so = some (x || ((oneOf [32, 23] a && oneOf [32, 31] b) || z1 a b)) := by
  rw [Ln.spec_lbHangul.j0, show k + 11 = (k + 2) + 9 from rfl, among_f _ _ _ (by decide), among_f _ _ _ (by decide)]
  simp only [Option.bind_some]
  rw [show k + 2 + 9 = k + 11 from rfl, hang_j1, hang_j1]
  generalize z1 a b = u
  cases x <;> cases oneOf [32, 23] a <;> cases oneOf [32, 31] b <;> cases u <;> rfl
theorem hang_f : Ln.spec_lbHangul.f (k + 12) row at_ a2 a b b2 so = some (hangB a b) := by
  unfold Ln.spec_lbHangul.f hangB
  rw [show k + 12 = (k + 3) + 9 from rfl, among_f _ _ _ (by decide)]
  simp only [beq_ite, Option.bind_some]
  rw [show k + 3 + 9 = k + 12 from rfl, hang_j0, hang_j0]
  unfold z1 z2
  cases (a == 30) <;> simp [Bool.or_assoc]

/-! ### LB28 to LB30b -/
theorem word_f (x : Int) : Ln.spec_lbLast_1.f (k + 9) x = some (wordB x) := by
  unfold Ln.spec_lbLast_1.f wordB; rw [let_f]
  simp only [Option.bind_some]
  cases letB x <;> rfl
theorem wide_f (x : S64) : Ln.spec_lbLast_2.f (k + 9) x.f0 x.f1 x.f2 x.f3 = some (wideS x) := by unfold Ln.spec_lbLast_2.f; rw [among_f _ _ _ (by decide)]; rfl
end

theorem last_l0 (at_ a2 a b b2 so : Int) : ∀ (R T : List S64) (n : Int) (k : Nat), 0 ≤ n ∧ n ≤ 1000 - R.length → R.length ≤ 60 → R.length + 2 ≤ k → Ln.spec_lbLast.l0 k n ((R.length : Int) - 1) (R.reverse ++ T) at_ a2 a b b2 so = some (b == 39 && ((Int.tmod n 2 == 1) != riR R))
  | [], T, n, k, hn, _, hkk => by
    obtain ⟨k, rfl⟩ : ∃ m, k = m + 1 := ⟨k - 1, by omega⟩
    rw [Ln.spec_lbLast.l0, if_neg (by simp), beq_ite]
    unfold riR
    cases (b == 39) <;> cases (Int.tmod n 2 == 1) <;> rfl
  | y :: R, T, n, k, hn, hl, hkk => by
    simp only [List.length_cons] at hl hkk hn
    obtain ⟨k, rfl⟩ : ∃ m, k = m + 1 := ⟨k - 1, by omega⟩
    have hrow : (y :: R).reverse ++ T = R.reverse ++ y :: T := by simp
    have hi : (((y :: R).length : Nat) : Int) - 1 = (R.length : Int) := by simp
    have hlen : (R.length : Int) < ((R.reverse ++ y :: T).length : Int) := by simp; omega
    rw [hrow, hi, Ln.spec_lbLast.l0, if_pos (by omega), if_pos (by omega), if_pos hlen, rd_mid, beq_ite]
    rw [show riR (y :: R) = (y.f0 == 39 && !riR R) from rfl]
    cases (y.f0 == 39) with
    | true =>
      rw [if_pos rfl, wrap_id (by omega), wrap_id (by omega), last_l0 at_ a2 a b b2 so R (y :: T) (n + 1) k (by omega) (by omega) (by omega)]
      have hp : (Int.tmod (n + 1) 2 == 1) = !(Int.tmod n 2 == 1) := by
        rw [Int.tmod_eq_emod_of_nonneg (by omega), Int.tmod_eq_emod_of_nonneg (by omega), Bool.eq_iff_iff]
        simp only [beq_iff_eq, Bool.not_eq_true', beq_eq_false_iff_ne]
        omega
      rw [hp]
      cases (b == 39) <;> cases (Int.tmod n 2 == 1) <;> cases riR R <;> rfl
    | false =>
      rw [if_neg (by simp), beq_ite]
      cases (b == 39) <;> cases (Int.tmod n 2 == 1) <;> rfl
theorem last_f (l r : S64) (R T : List S64) (hl : R.length ≤ 59) (k : Nat) (hk' : 100 ≤ k) (a2 a b b2 so : Int) (aw : Bool) (haw : aw = (a == 19 && wideS l)) :
    Ln.spec_lbLast.f k ((l :: R).reverse ++ r :: T) (((l :: R).length : Nat) : Int) a2 a b b2 so = some (lastB a b (wideS r) aw (ukS l) (riR (l :: R))) := by
  obtain ⟨k, rfl⟩ : ∃ m, k = m + 13 := ⟨k - 13, by omega⟩
  have hrow : (l :: R).reverse ++ r :: T = R.reverse ++ l :: (r :: T) := by simp
  have e1 : wrap64 ((((l :: R).length : Nat) : Int) - 1) = (R.length : Int) := by rw [wrap_id (by simp; omega)]; simp
  have hr : rd_T64 ((l :: R).reverse ++ r :: T) (((l :: R).length : Nat) : Int) = r := rd_mid (l :: R) T r
  have hl' : rd_T64 ((l :: R).reverse ++ r :: T) (R.length : Int) = l := by rw [hrow]; exact rd_mid R _ l
  have hn1 : (R.length : Int) < (((l :: R).reverse ++ r :: T).length : Int) := by simp; omega
  have hn2 : (((l :: R).length : Nat) : Int) < (((l :: R).reverse ++ r :: T).length : Int) := by simp; omega
  have hri := fun k (hk : 70 ≤ k) => last_l0 (((l :: R).length : Nat) : Int) a2 a b b2 so (l :: R) (r :: T) 0 k ⟨by omega, by simp; omega⟩ (by simp; omega) (by simp; omega)
  generalize hrw : (l :: R).reverse ++ r :: T = row at hr hl' hn1 hn2 hri
  generalize hat : (((l :: R).length : Nat) : Int) = at_ at e1 hr hn2 hri
  have hat0 : 0 ≤ at_ := by omega
  have hj3 : Ln.spec_lbLast.j3 (k + 10) row at_ a2 a b b2 so = some (b == 39 && riR (l :: R)) := by
    rw [Ln.spec_lbLast.j3, e1]
    have h := hri (k + 9) (by omega)
    rw [show at_ - 1 = (R.length : Int) by simp at hat; omega] at h
    rw [h, show (Int.tmod 0 2 == 1) = false from rfl]
    cases riR (l :: R) <;> rfl
  have hj2 : ∀ x, Ln.spec_lbLast.j2 (k + 11) x row at_ a2 a b b2 so l.f0 l.f1 l.f2 l.f3 = some (x || ((b == 21 && (a == 20 || ukS l)) || (b == 39 && riR (l :: R)))) := by
    intro x
    rw [Ln.spec_lbLast.j2, hj3]
    unfold ukS
    simp only [beq_ite]
    generalize (b == 39 && riR (l :: R)) = u
    cases x <;> cases (b == 21) <;> cases (a == 20) <;> cases l.f3 <;> cases (l.f1 == 2) <;> cases u <;> rfl
  have hj1 : ∀ x, Ln.spec_lbLast.j1 (k + 12) x row at_ a2 a b b2 so l.f0 l.f1 l.f2 l.f3 = some (x || ((a == 19 && !wideS l && wordB b) || ((b == 21 && (a == 20 || ukS l)) || (b == 39 && riR (l :: R))))) := by
    intro x
    rw [Ln.spec_lbLast.j1, show k + 11 = (k + 2) + 9 from rfl, wide_f, word_f]
    simp only [Option.bind_some]
    rw [show k + 2 + 9 = k + 11 from rfl, hj2, hj2, hj2]
    simp only [beq_ite]
    generalize ((b == 21 && (a == 20 || ukS l)) || (b == 39 && riR (l :: R))) = u
    cases x <;> cases (a == 19) <;> cases wideS l <;> cases wordB b <;> cases u <;> rfl
  have hj0 : ∀ x, Ln.spec_lbLast.j0 (k + 13) x row at_ a2 a b b2 so l.f0 l.f1 l.f2 l.f3 r.f0 r.f1 r.f2 r.f3 = some (x || ((wordB a && b == 35 && !wideS r) || ((a == 19 && !wideS l && wordB b) || ((b == 21 && (a == 20 || ukS l)) || (b == 39 && riR (l :: R)))))) := by
    intro x
    rw [Ln.spec_lbLast.j0, show k + 12 = (k + 3) + 9 from rfl, wide_f, word_f]
    simp only [Option.bind_some]
    rw [show k + 3 + 9 = k + 12 from rfl, hj1, hj1]
    simp only [beq_ite]
    generalize ((a == 19 && !wideS l && wordB b) || ((b == 21 && (a == 20 || ukS l)) || (b == 39 && riR (l :: R)))) = u
    cases x <;> cases wordB a <;> cases (b == 35) <;> cases wideS r <;> cases u <;> rfl
  unfold Ln.spec_lbLast.f lastB
  rw [e1, if_pos (by omega), if_pos hn1, if_pos hat0, if_pos hn2, hr, hl', show k + 13 = (k + 4) + 9 from rfl, let_f, let_f]
  simp only [Option.bind_some]
  rw [show k + 4 + 9 = k + 13 from rfl, hj0, hj0, hj0, haw]
  cases letB b <;> cases letB a <;> cases (a == 19) <;> simp [Bool.or_assoc]
end Go.Proofs.Ytnanfoahimccpaa.Lb
