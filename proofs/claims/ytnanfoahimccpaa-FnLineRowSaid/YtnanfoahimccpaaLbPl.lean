/- The reference's places: the row, the place in it, what is near, and the places of which nothing is said. -/
import Derived.Test.YtnanfoahimccpaaLbFun
import Derived.Test.YtnanfoahimccpaaLnx3
import Derived.Test.YtnanfoahimccpaaLnx4
import Derived.Test.YtnanfoahimccpaaLnAt
namespace Go.Proofs.Ytnanfoahimccpaa.Lb
open Go.RowKit Go.Proofs.YtnanfoahimccpaaW.PrintWords
open Ln (S64 rd_T64 z64)

/-! ### LB4 to LB9 -/
theorem zs_cons (y : S64) (Q : List S64) : (cxQ (y :: Q)).zs = (res y == 9 || (res y == 7 && (cxQ Q).zs)) := by
  show (stepC (cxQ Q) (res y) (wideS y) (ukS y)).zs = _
  unfold stepC
  split <;> rfl
def nearOut (o : Option Int) : Int × Bool := match o with | some v => (v, true) | none => (0, false)
def near4 (a b : Int) (z : Bool) : Option Int := if z then some 1 else if a == 10 then some 0 else if markB b && !bareB a then some 0 else none
theorem near_j4 (k : Nat) (a b : Int) (z : Bool) : Ln.spec_lbNear.j4 (k + 10) a b z = some (nearOut (near4 a b z)) := by
  rw [Ln.spec_lbNear.j4, mark_f, bare_f]
  unfold near4
  simp only [beq_ite, Option.bind_some]
  cases z <;> cases (a == 10) <;> cases markB b <;> cases bareB a <;> rfl
theorem near_l0 (a b : Int) : ∀ (Q T : List S64) (k : Nat), Q.length ≤ 60 → Q.length + 20 ≤ k → Ln.spec_lbNear.l0 k (Q.reverse ++ T) a b ((Q.length : Int) - 1) = some (nearOut (near4 a b (cxQ Q).zs))
  | [], T, k, _, hkk => by
    obtain ⟨k, rfl⟩ : ∃ m, k = m + 12 := ⟨k - 12, by simp at hkk; omega⟩
    rw [Ln.spec_lbNear.l0, if_neg (by simp), Ln.spec_lbNear.j3, if_neg (by simp), near_j4]
    rfl
  | y :: Q, T, k, hl, hkk => by
    simp only [List.length_cons] at hl hkk
    obtain ⟨k, rfl⟩ : ∃ m, k = m + 12 := ⟨k - 12, by omega⟩
    have hrow : (y :: Q).reverse ++ T = Q.reverse ++ y :: T := by simp
    have hi : (((y :: Q).length : Nat) : Int) - 1 = (Q.length : Int) := by simp
    have hlen : (Q.length : Int) < ((Q.reverse ++ y :: T).length : Int) := by simp; omega
    rw [hrow, hi, Ln.spec_lbNear.l0, if_pos (by omega), if_pos (by omega), if_pos hlen, rd_mid, show k + 11 = (k + 10) + 1 from rfl, res_f, zs_cons]
    simp only [Option.bind_some]
    by_cases h7 : res y = 7
    · rw [if_pos h7, wrap_id (by omega), near_l0 a b Q (y :: T) _ (by omega) (by omega), h7]
      rfl
    · rw [if_neg h7, Ln.spec_lbNear.j3, if_pos (by omega), if_pos (by omega), if_pos hlen, rd_mid, show k + 10 = (k + 9) + 1 from rfl, res_f]
      simp only [Option.bind_some]
      rw [show k + 9 + 1 = k + 10 from rfl, near_j4, show (res y == 7) = false by rw [beq_eq_false_iff_ne]; exact h7, Bool.false_and, Bool.or_false]
theorem near_f (y x : S64) (Q S : List S64) (hl : Q.length ≤ 58) (k : Nat) (hkk : 100 ≤ k) :
    Ln.spec_lbNear.f k ((y :: Q).reverse ++ x :: S) (((y :: Q).length : Nat) : Int) = some (nearOut (nearB (res y) (cxQ (y :: Q)).zs (res x))) := by
  obtain ⟨k, rfl⟩ : ∃ m, k = m + 14 := ⟨k - 14, by omega⟩
  have hrow : (y :: Q).reverse ++ x :: S = Q.reverse ++ y :: (x :: S) := by simp
  have e1 : wrap64 ((((y :: Q).length : Nat) : Int) - 1) = (Q.length : Int) := by rw [wrap_id (by simp; omega)]; simp
  have hr : rd_T64 ((y :: Q).reverse ++ x :: S) (((y :: Q).length : Nat) : Int) = x := rd_mid (y :: Q) S x
  have hl' : rd_T64 ((y :: Q).reverse ++ x :: S) (Q.length : Int) = y := by rw [hrow]; exact rd_mid Q _ y
  have hn1 : (Q.length : Int) < (((y :: Q).reverse ++ x :: S).length : Int) := by simp; omega
  have hn2 : (((y :: Q).length : Nat) : Int) < (((y :: Q).reverse ++ x :: S).length : Int) := by simp; omega
  have hloop := fun k (hk : 90 ≤ k) => near_l0 (res y) (res x) (y :: Q) (x :: S) k (by simp; omega) (by simp; omega)
  generalize hp : (y :: Q).reverse ++ x :: S = p at hr hl' hn1 hn2 hloop
  generalize hat : (((y :: Q).length : Nat) : Int) = i at e1 hr hn2 hloop
  have hi0 : 0 ≤ i := by omega
  have hj1 : ∀ z, Ln.spec_lbNear.j1 (k + 13) p i (res y) (res x) z = some (nearOut (if z then some 0 else near4 (res y) (res x) (cxQ (y :: Q)).zs)) := by
    intro z
    rw [Ln.spec_lbNear.j1, e1, show (Q.length : Int) = i - 1 by simp at hat; omega, hloop _ (by omega)]
    cases z <;> rfl
  have hj0 : ∀ z, Ln.spec_lbNear.j0 (k + 14) p i (res y) (res x) z = some (nearOut (if z then some 0 else if hardB (res y) then some 2 else if hardB (res x) || oneOf [7, 9] (res x) then some 0 else near4 (res y) (res x) (cxQ (y :: Q)).zs)) := by
    intro z
    rw [Ln.spec_lbNear.j0, hj1, show k + 13 = (k + 4) + 9 from rfl, hard_f, hard_f, among_f _ _ _ (by decide)]
    simp only [Option.bind_some]
    rw [show k + 4 + 9 = k + 13 from rfl, hj1]
    cases z <;> cases hardB (res y) <;> cases hardB (res x) <;> cases oneOf [7, 9] (res x) <;> rfl
  unfold Ln.spec_lbNear.f
  rw [e1, if_pos (by omega), if_pos hn1, hl', show k + 14 = (k + 13) + 1 from rfl, res_f]
  simp only [Option.bind_some]
  rw [if_pos hi0, if_pos hn2, hr, res_f]
  simp only [Option.bind_some]
  rw [show k + 13 + 1 = k + 14 from rfl, hj0, hj0]
  unfold nearB near4
  simp only [beq_ite]
  cases (res y == 3) <;> cases (res x == 5) <;> rfl
theorem gate_3 (k : Int) : (gate k == 3) = (k == 3) := by
  unfold gate oneOf oneOf oneOf oneOf oneOf oneOf oneOf oneOf oneOf
  split <;> simp_all <;> omega
theorem gate_10 (k : Int) : (gate k == 10) = (k == 10) := by
  unfold gate oneOf oneOf oneOf oneOf oneOf oneOf oneOf oneOf oneOf
  split <;> simp_all <;> omega
theorem gate_7 (k : Int) : (gate k == 7) = (k == 7) := by
  unfold gate oneOf oneOf oneOf oneOf oneOf oneOf oneOf oneOf oneOf
  split <;> simp_all <;> omega
theorem gate_hard (k : Int) : hardB (gate k) = hardB k := by
  unfold gate
  cases h : oneOf [1, 2, 3, 5, 6, 7, 9, 10] k with
  | true => rfl
  | false =>
    simp only [oneOf, Bool.or_eq_false_iff] at h
    simp only [hardB, oneOf, h.1, h.2.2.1, h.2.2.2.1, h.2.2.2.2.1]
    rfl
theorem gate_mark (k : Int) : markB (gate k) = markB k := by
  unfold gate
  cases h : oneOf [1, 2, 3, 5, 6, 7, 9, 10] k with
  | true => rfl
  | false =>
    simp only [oneOf, Bool.or_eq_false_iff] at h
    simp only [markB, oneOf, h.2.1, h.2.2.2.2.2.2.2.1]
    rfl
theorem near_gate (a : Int) (z : Bool) (b : Int) : nearB (gate a) z b = nearB a z b := by
  unfold nearB
  rw [gate_3, gate_10, gate_hard, gate_bare]

/-! ### a mark behind a space -/
theorem loose_cons (y : S64) (Q : List S64) : (cxQ (y :: Q)).loose = looseB (cxQ Q) (res y) := by
  show (stepC (cxQ Q) (res y) (wideS y) (ukS y)).loose = _
  unfold stepC
  split <;> rfl
theorem raw_cons (y : S64) (Q : List S64) : (cxQ (y :: Q)).raw = gate (res y) := by
  show (stepC (cxQ Q) (res y) (wideS y) (ukS y)).raw = _
  unfold stepC
  split <;> rfl
theorem loose_l0 : ∀ (Q T : List S64) (k : Nat), Q.length ≤ 60 → 2 * Q.length + 20 ≤ k → Ln.spec_lbLoose.l0 k (Q.reverse ++ T) ((Q.length : Int) - 1) = some (cxQ Q).loose
  | [], T, k, _, hkk => by
    obtain ⟨k, rfl⟩ : ∃ m, k = m + 12 := ⟨k - 12, by simp at hkk; omega⟩
    rw [Ln.spec_lbLoose.l0, if_neg (by simp)]
    rfl
  | [y], T, k, _, hkk => by
    obtain ⟨k, rfl⟩ : ∃ m, k = m + 12 := ⟨k - 12, by simp at hkk; omega⟩
    rw [Ln.spec_lbLoose.l0, if_neg (by simp), loose_cons]
    show some false = some ((markB (res y) && ((-1 : Int) == 7 || false)) || (res y == 7 && false))
    rw [Bool.and_false]
    cases markB (res y) <;> rfl
  | y :: z :: Q, T, k, hl, hkk => by
    simp only [List.length_cons] at hl hkk
    obtain ⟨k, rfl⟩ : ∃ m, k = m + 12 := ⟨k - 12, by omega⟩
    have hi : ((((y :: z :: Q).length : Nat) : Int) - 1) = (((z :: Q).length : Nat) : Int) := by simp
    have hrow : (y :: z :: Q).reverse ++ T = (z :: Q).reverse ++ y :: T := by simp
    have hrow2 : (z :: Q).reverse ++ y :: T = Q.reverse ++ z :: (y :: T) := by simp
    have hz : rd_T64 ((z :: Q).reverse ++ y :: T) (Q.length : Int) = z := by rw [hrow2]; exact rd_mid Q _ z
    have hlen : (((z :: Q).length : Nat) : Int) < (((z :: Q).reverse ++ y :: T).length : Int) := by simp; omega
    have hlen2 : (Q.length : Int) < (((z :: Q).reverse ++ y :: T).length : Int) := by simp; omega
    have e1 : wrap64 ((((z :: Q).length : Nat) : Int) - 1) = (Q.length : Int) := by rw [wrap_id (by simp; omega)]; simp
    have ih := loose_l0 (z :: Q) (y :: T) (k + 10) (by simp; omega) (by simp; omega)
    rw [show (((z :: Q).length : Nat) : Int) - 1 = (Q.length : Int) by simp] at ih
    rw [hi, hrow, Ln.spec_lbLoose.l0, if_pos (by simp <;> omega), if_pos (by omega), if_pos hlen, rd_mid, show k + 11 = (k + 10) + 1 from rfl, res_f]
    simp only [Option.bind_some]
    rw [show k + 10 + 1 = (k + 2) + 9 from rfl, mark_f]
    simp only [Option.bind_some]
    rw [loose_cons]
    unfold looseB
    rw [raw_cons, gate_7]
    cases hm : markB (res y) with
    | true =>
      rw [if_pos rfl, show k + 2 + 9 = (k + 10) + 1 from rfl, Ln.spec_lbLoose.j1, if_neg (by simp), if_pos rfl, e1, if_pos (by omega), if_pos hlen2, hz, show k + 10 = (k + 9) + 1 from rfl, res_f]
      simp only [Option.bind_some]
      rw [show k + 9 + 1 = k + 10 from rfl, ih, beq_ite]
      have : (res y == 7) = false := by
        simp only [markB, oneOf, Bool.or_false, Bool.or_eq_true, beq_iff_eq] at hm
        rw [beq_eq_false_iff_ne]; omega
      rw [this]
      cases (res z == 7) <;> simp
    | false =>
      rw [if_neg (by simp), show k + 2 + 9 = (k + 10) + 1 from rfl, Ln.spec_lbLoose.j1, e1, ih]
      unfold bne
      cases (res y == 7) <;> simp
theorem loose_f (Q T : List S64) (k : Nat) (hl : Q.length ≤ 60) (hkk : 200 ≤ k) : Ln.spec_lbLoose.f k (Q.reverse ++ T) (Q.length : Int) = some (cxQ Q).loose := by
  unfold Ln.spec_lbLoose.f
  rw [wrap_id (by omega)]
  exact loose_l0 Q T k hl (by omega)

/-! ### the row -/
theorem rowQ_le : ∀ Q : List S64, (rowQ Q).length ≤ Q.length
  | [] => Nat.le_refl _
  | x :: Q => by
    have := rowQ_le Q
    rw [rowQ]
    split
    · simp; omega
    · simp; omega
theorem row_l0 (p : List S64) (hp : p.length ≤ 60) (i : Nat) (hi : i < p.length) : ∀ (S Q : List S64) (atv : Int) (k : Nat), Q.reverse ++ S = p → 2 * S.length + 30 ≤ k →
    Ln.spec_lbRow.l0 k p (i : Int) (rowQ Q).reverse atv p (p.length : Int) (Q.length : Int) = some ((rowQ Q).reverse ++ fwd (afterQ Q) S, if i < Q.length then atv else ((rowQ (p.take i).reverse).length : Int))
  | [], Q, atv, k, hQ, hkk => by
    obtain ⟨k, rfl⟩ : ∃ m, k = m + 12 := ⟨k - 12, by omega⟩
    have hlen : Q.length = p.length := by rw [← hQ]; simp
    rw [Ln.spec_lbRow.l0, if_neg (by omega), if_pos (by omega)]
    simp [fwd]
  | x :: S, Q, atv, k, hQ, hkk => by
    simp only [List.length_cons] at hkk
    obtain ⟨k, rfl⟩ : ∃ m, k = m + 12 := ⟨k - 12, by omega⟩
    have hlen : Q.length < p.length := by rw [← hQ]; simp
    have hx : rd_T64 p (Q.length : Int) = x := by rw [← hQ]; exact rd_mid Q S x
    have hq := rowQ_le Q
    have hstep := fun (atv : Int) => row_l0 p hp i hi S (x :: Q) atv (k + 10) (by rw [← hQ]; simp) (by omega)
    have hnx : wrap64 ((Q.length : Int) + 1) = (((x :: Q).length : Nat) : Int) := by rw [wrap_id (by omega)]; simp
    have hj1 : ∀ atv, Ln.spec_lbRow.j1 (k + 11) p (i : Int) (rowQ Q).reverse atv (Q.length : Int) p (p.length : Int) (Q.length : Int) x.f0 x.f1 x.f2 x.f3 = some ((rowQ Q).reverse ++ fwd (afterQ Q) (x :: S), if i < Q.length + 1 then atv else ((rowQ (p.take i).reverse).length : Int)) := by
      intro atv
      have hs := hstep atv
      rw [Ln.spec_lbRow.j1, hnx, show k + 10 = (k + 9) + 1 from rfl, res_f]
      simp only [Option.bind_some]
      rw [show k + 9 + 1 = (k + 1) + 9 from rfl, mark_f]
      simp only [Option.bind_some]
      rw [show fwd (afterQ Q) (x :: S) = if markB (res x) && afterQ Q then fwd (!bareB (res x)) S else elem x :: fwd (!bareB (res x)) S from rfl]
      rw [show rowQ (x :: Q) = if markB (res x) && afterQ Q then rowQ Q else elem x :: rowQ Q from rfl, show afterQ (x :: Q) = !bareB (res x) from rfl] at hs
      have happ : (elem x :: rowQ Q).reverse = (rowQ Q).reverse ++ [elem x] := by simp
      have hrl : (rowQ Q).reverse.length < 4398046511104 := by simp; omega
      cases hm : markB (res x) with
      | false =>
        rw [hm, Bool.false_and, if_neg (by simp), happ] at hs
        rw [if_neg (by simp), if_pos hrl, show (⟨res x, x.f1, x.f2, x.f3⟩ : S64) = elem x by unfold elem asRow; rw [hm]; rfl, show k + 1 + 9 = k + 10 from rfl, hs]
        simp
      | true =>
        have he : (⟨12, x.f1, x.f2, x.f3⟩ : S64) = elem x := by unfold elem asRow; rw [hm]; rfl
        rw [hm, Bool.true_and] at hs
        rw [if_pos rfl, he, Bool.true_and]
        cases Q with
        | nil =>
          rw [if_neg (by simp [afterQ]), happ] at hs
          rw [if_neg (by simp), if_pos hrl, show k + 1 + 9 = k + 10 from rfl, hs]
          simp [afterQ]
        | cons y Q =>
          have hy : rd_T64 p (Q.length : Int) = y := by rw [← hQ, show (y :: Q).reverse ++ x :: S = Q.reverse ++ y :: (x :: S) by simp]; exact rd_mid Q _ y
          have e1 : wrap64 ((((y :: Q).length : Nat) : Int) - 1) = (Q.length : Int) := by rw [wrap_id (by omega)]; simp
          simp only [List.length_cons] at hlen
          rw [if_pos (by simp <;> omega), e1, if_pos (by omega), if_pos (by omega), hy, show k + 1 + 9 = (k + 9) + 1 from rfl, res_f]
          simp only [Option.bind_some]
          rw [show k + 9 + 1 = (k + 1) + 9 from rfl, bare_f]
          simp only [Option.bind_some]
          rw [show afterQ (y :: Q) = !bareB (res y) from rfl] at hs ⊢
          cases hb : bareB (res y) with
          | true =>
            rw [hb, if_neg (by simp), happ] at hs
            rw [if_pos rfl, if_pos hrl, show k + 1 + 9 = k + 10 from rfl, hs]
            simp
          | false =>
            rw [hb, if_pos (by simp)] at hs
            rw [if_neg (by simp), show k + 1 + 9 = k + 10 from rfl, hs]
            simp
    rw [Ln.spec_lbRow.l0, if_pos (by omega), if_pos (by omega), if_pos (by omega), hx]
    by_cases he : (Q.length : Int) = (i : Int)
    · rw [if_pos he, hj1]
      have he' : Q.length = i := by omega
      have ht : (p.take i).reverse = Q := by rw [← hQ, ← he']; simp
      rw [if_pos (by omega), if_neg (by omega), ht]
      simp
    · rw [if_neg he, hj1]
      by_cases h2 : i < Q.length
      · rw [if_pos (by omega), if_pos h2]
      · rw [if_neg (by omega), if_neg h2]
theorem row_f (Q S : List S64) (x : S64) (hl : (Q.reverse ++ x :: S).length ≤ 60) (k : Nat) (hkk : 200 ≤ k) :
    Ln.spec_lbRow.f k (Q.reverse ++ x :: S) (Q.length : Int) = some ((rowQ Q).reverse ++ fwd (afterQ Q) (x :: S), ((rowQ Q).length : Int)) := by
  have h := row_l0 (Q.reverse ++ x :: S) hl Q.length (by simp) (Q.reverse ++ x :: S) [] 0 k rfl (by omega)
  have hs := fwd_split (Q.reverse ++ x :: S) []
  have hs2 := fwd_split (x :: S) Q
  have ht : ((Q.reverse ++ x :: S).take Q.length).reverse = Q := by simp
  rw [ht, if_neg (by simp)] at h
  unfold Ln.spec_lbRow.f
  rw [show ((rowQ []).reverse : List S64) = [] from rfl, List.nil_append] at h hs
  rw [show (([] : List S64).length : Int) = 0 from rfl] at h
  rw [h, hs, hs2]
  simp
end Go.Proofs.Ytnanfoahimccpaa.Lb
