/- The row of the line rules: LB1, LB9, LB10, and what contexts know of it. The reference's small functions. -/
import Derived.Test.YtnanfoahimccpaaLbCtx
import Derived.Test.YtnanfoahimccpaaLnx2
namespace Go.Proofs.Ytnanfoahimccpaa.Lb
open Go.RowKit Go.Proofs.YtnanfoahimccpaaW.PrintWords
open Ln (S64 rd_T64 z64)

theorem wrap_id {x : Int} (h : -9223372036854775808 ≤ x ∧ x ≤ 9223372036854775807) : wrap64 x = x := by unfold wrap64; omega

/-! ### small functions of the reference -/
theorem among_l (x : Int) (l : List Int) (hl : l.length ≤ 60) (d : Nat) : ∀ (i k : Nat), i ≤ l.length → l.length - i = d → d + 1 ≤ k → Ln.spec_among.l0 k x l (l.length : Int) (i : Int) = some (oneOf (l.drop i) x) := by
  induction d with
  | zero =>
    intro i k h1 h2 hk
    obtain ⟨k, rfl⟩ : ∃ m, k = m + 1 := ⟨k - 1, by omega⟩
    rw [Ln.spec_among.l0, if_neg (by omega), List.drop_eq_nil_of_le (by omega)]
    rfl
  | succ d ih =>
    intro i k h1 h2 hk
    obtain ⟨k, rfl⟩ : ∃ m, k = m + 1 := ⟨k - 1, by omega⟩
    have hi : i < l.length := by omega
    have hd : l.drop i = rd l i :: l.drop (i + 1) := by
      rw [List.drop_eq_getElem_cons hi]
      simp [rd, hi]
    rw [Ln.spec_among.l0, if_pos (by omega), if_pos (by omega), if_pos (by omega), hd, oneOf]
    by_cases h : x = rd l i
    · rw [if_pos h, ← h]; simp
    · rw [if_neg h, wrap_id (by omega), show (i : Int) + 1 = ((i + 1 : Nat) : Int) by omega, ih (i + 1) k (by omega) (by omega) (by omega)]
      have : (x == rd l i) = false := by rw [beq_eq_false_iff_ne]; exact h
      rw [this, Bool.false_or]
theorem among_f (k : Nat) (x : Int) (l : List Int) (hl : l.length ≤ 8) : Ln.spec_among.f (k + 9) x l = some (oneOf l x) := by
  unfold Ln.spec_among.f
  exact among_l x l (by omega) l.length 0 (k + 9) (by omega) (by omega) (by omega)

def res (x : S64) : Int := if x.f0 == 11 || x.f0 == 41 || x.f0 == 0 then 12 else if x.f0 == 40 then (if x.f1 == 1 then 2 else 12) else if x.f0 == 17 then 33 else x.f0
def wideS (x : S64) : Bool := oneOf [4, 5, 3] x.f2
def ukS (x : S64) : Bool := x.f3 && x.f1 == 2
theorem beq_ite {α : Type} (a b : Int) (x y : α) : (if a = b then x else y) = if (a == b) = true then x else y := by
  by_cases h : a = b
  · rw [if_pos h, if_pos (by rw [beq_iff_eq]; exact h)]
  · rw [if_neg h, if_neg (by rw [beq_iff_eq]; exact h)]
theorem res_j (k : Nat) (x : S64) (b : Bool) : Ln.spec_lbResolved.j0 (k + 1) x.f0 b x.f0 x.f1 x.f2 x.f3 = some (if b then 12 else if x.f0 == 40 then (if x.f1 == 1 then 2 else 12) else if x.f0 == 17 then 33 else x.f0) := by
  rw [Ln.spec_lbResolved.j0]
  simp only [beq_ite]
  cases b <;> cases (x.f0 == 40) <;> cases (x.f1 == 1) <;> cases (x.f0 == 17) <;> rfl
theorem res_f (k : Nat) (x : S64) : Ln.spec_lbResolved.f (k + 1) x.f0 x.f1 x.f2 x.f3 = some (res x) := by
  unfold Ln.spec_lbResolved.f res
  rw [res_j, res_j, res_j]
  simp only [beq_ite]
  cases (x.f0 == 11) <;> cases (x.f0 == 41) <;> cases (x.f0 == 0) <;> rfl
theorem mark_f (k : Nat) (x : Int) : Ln.spec_lbMark.f (k + 9) x = some (markB x) := by
  unfold Ln.spec_lbMark.f; rw [among_f _ _ _ (by decide)]; rfl
theorem hard_f (k : Nat) (x : Int) : Ln.spec_lbHard.f (k + 9) x = some (hardB x) := by
  unfold Ln.spec_lbHard.f; rw [among_f _ _ _ (by decide)]; rfl
theorem bare_f (k : Nat) (x : Int) : Ln.spec_lbBare.f (k + 9) x = some (bareB x) := by
  unfold Ln.spec_lbBare.f bareB; rw [hard_f, among_f _ _ _ (by decide)]
  simp only [Option.bind_some]
  cases hardB x <;> rfl
theorem let_f (k : Nat) (x : Int) : Ln.spec_lbLetter.f (k + 9) x = some (letB x) := by
  unfold Ln.spec_lbLetter.f; rw [among_f _ _ _ (by decide)]; rfl

/-! ### the row without marks -/
def elem (x : S64) : S64 := ⟨asRow (res x), x.f1, x.f2, x.f3⟩
/-- Forward: d: may a mark be dropped at the beginning? -/
def fwd (d : Bool) : List S64 → List S64
  | [] => []
  | x :: S => if markB (res x) && d then fwd (!bareB (res x)) S else elem x :: fwd (!bareB (res x)) S
/-- Of a row's beginning, the last element first. -/
def afterQ (P : List S64) : Bool := match P with | [] => false | y :: _ => !bareB (res y)
def rowQ : List S64 → List S64
  | [] => []
  | x :: Q => if markB (res x) && afterQ Q then rowQ Q else elem x :: rowQ Q
def cxQ : List S64 → Cx
  | [] => startC
  | x :: Q => stepC (cxQ Q) (res x) (wideS x) (ukS x)

theorem fwd_split : ∀ (S Q : List S64), (rowQ Q).reverse ++ fwd (afterQ Q) S = (rowQ (S.reverse ++ Q)).reverse
  | [], Q => by simp [fwd]
  | x :: S, Q => by
    have h := fwd_split S (x :: Q)
    rw [show afterQ (x :: Q) = !bareB (res x) from rfl] at h
    rw [List.reverse_cons, List.append_assoc, List.singleton_append, ← h]
    rw [show fwd (afterQ Q) (x :: S) = if markB (res x) && afterQ Q then fwd (!bareB (res x)) S else elem x :: fwd (!bareB (res x)) S from rfl,
      show rowQ (x :: Q) = if markB (res x) && afterQ Q then rowQ Q else elem x :: rowQ Q from rfl]
    cases (markB (res x) && afterQ Q) with
    | true => rfl
    | false => simp only [Bool.false_eq_true, if_false, List.reverse_cons, List.append_assoc, List.singleton_append]

/-! ### what a context knows -/
def hk (R : List S64) : Int := match R with | [] => -1 | y :: _ => y.f0
def isSp (y : S64) : Bool := y.f0 == 7
def isSign (y : S64) : Bool := signB y.f0
def riR : List S64 → Bool
  | [] => false
  | y :: R => y.f0 == 39 && !riR R
def huk (R : List S64) : Bool := match R with | [] => false | y :: _ => ukS y
def hwd (R : List S64) : Bool := match R with | [] => false | y :: _ => wideS y
def numR (R : List S64) : Bool := hk (R.dropWhile isSign) == 34

structure Feat (Q : List S64) (c : Cx) : Prop where
  raw : c.raw = match Q with | [] => -1 | y :: _ => gate (res y)
  a : c.a = hk (rowQ Q)
  aw : c.aw = (hk (rowQ Q) == 19 && hwd (rowQ Q))
  au : c.au = huk (rowQ Q)
  hl : c.hl = (oneOf [26, 14] (hk (rowQ Q)) && hk (rowQ Q).tail == 25)
  eb : c.eb = (hk (rowQ Q) == 21 && (hk (rowQ Q).tail == 20 || huk (rowQ Q).tail))
  ss : c.ss = (oneOf [29, 42, 18, 19] (hk (rowQ Q)) && signB (hk (rowQ Q).tail))
  sp2 : c.sp2 = (hk (rowQ Q) == 7 && hk (rowQ Q).tail == 7)
  so : c.so = cls (hk ((rowQ Q).dropWhile isSp))
  N : c.N = numR (rowQ Q)
  P : c.P = (oneOf [18, 19] (hk (rowQ Q)) && numR (rowQ Q).tail)
  r : c.r = riR (rowQ Q)

theorem gate_bare (k : Int) : bareB (gate k) = bareB k := by
  unfold gate
  cases h : oneOf [1, 2, 3, 5, 6, 7, 9, 10] k with
  | true => rfl
  | false =>
    simp only [oneOf, Bool.or_eq_false_iff] at h
    simp only [bareB, hardB, oneOf, h.1, h.2.2.1, h.2.2.2.1, h.2.2.2.2.1, h.2.2.2.2.2.1, h.2.2.2.2.2.2.1]
    rfl
theorem gate_ne (k : Int) (h : 0 ≤ k) : (gate k != -1) = true := by
  unfold gate
  split
  · rw [bne_iff_ne]; omega
  · rfl

theorem drop_eq {Q : List S64} {c : Cx} (hraw : c.raw = match Q with | [] => -1 | y :: _ => gate (res y)) (hQ : ∀ y ∈ Q, 0 ≤ res y) (k : Int) : dropB c k = (markB k && afterQ Q) := by
  unfold dropB
  rw [hraw]
  cases Q with
  | nil => simp [afterQ]
  | cons y Q =>
    show (markB k && gate (res y) != -1 && !bareB (gate (res y))) = _
    rw [gate_ne _ (hQ y List.mem_cons_self), gate_bare, Bool.and_true]
    rfl

theorem feat : ∀ (Q : List S64), (∀ y ∈ Q, 0 ≤ res y) → Feat Q (cxQ Q)
  | [], _ => ⟨rfl, rfl, rfl, rfl, rfl, rfl, rfl, rfl, rfl, rfl, rfl, rfl⟩
  | x :: Q, h => by
    have f := feat Q fun y hy => h y (List.mem_cons_of_mem _ hy)
    have hd := drop_eq f.raw (fun y hy => h y (List.mem_cons_of_mem _ hy)) (res x)
    show Feat (x :: Q) (stepC (cxQ Q) (res x) (wideS x) (ukS x))
    unfold stepC
    cases hm : (markB (res x) && afterQ Q) with
    | true =>
      rw [hm] at hd
      rw [hd, if_pos rfl]
      have hr : rowQ (x :: Q) = rowQ Q := by rw [rowQ, hm, if_pos rfl]
      exact ⟨rfl, by rw [hr]; exact f.a, by rw [hr]; exact f.aw, by rw [hr]; exact f.au, by rw [hr]; exact f.hl, by rw [hr]; exact f.eb, by rw [hr]; exact f.ss, by rw [hr]; exact f.sp2, by rw [hr]; exact f.so, by rw [hr]; exact f.N, by rw [hr]; exact f.P, by rw [hr]; exact f.r⟩
    | false =>
      rw [hm] at hd
      rw [hd, if_neg (by simp)]
      have hr : rowQ (x :: Q) = elem x :: rowQ Q := by rw [rowQ, hm, if_neg (by simp)]
      have ha := f.a
      have hau := f.au
      have hso := f.so
      have hN := f.N
      have hri := f.r
      generalize rowQ Q = R at hr ha hau hso hN hri
      refine ⟨rfl, by rw [hr]; rfl, by rw [hr]; rfl, by rw [hr]; rfl, ?_, ?_, ?_, ?_, ?_, ?_, ?_, ?_⟩
      · rw [hr, ha]; rfl
      · rw [hr, ha, hau]; rfl
      · rw [hr, ha]; rfl
      · rw [hr, ha]; rfl
      · rw [hr, hso]
        show (if asRow (res x) == 7 then cls (hk (R.dropWhile isSp)) else cls (asRow (res x))) = cls (hk ((elem x :: R).dropWhile isSp))
        rw [List.dropWhile_cons]
        show _ = cls (hk (if (asRow (res x) == 7) = true then _ else _))
        cases (asRow (res x) == 7) <;> rfl
      · rw [hr, hN]
        show (asRow (res x) == 34 || (signB (asRow (res x)) && numR R)) = (hk ((elem x :: R).dropWhile isSign) == 34)
        rw [List.dropWhile_cons]
        show _ = (hk (if signB (asRow (res x)) = true then R.dropWhile isSign else elem x :: R) == 34)
        cases hs : signB (asRow (res x)) with
        | true =>
          have : (asRow (res x) == 34) = false := by
            simp only [signB, oneOf, Bool.or_false, Bool.or_eq_true, beq_iff_eq] at hs
            rw [beq_eq_false_iff_ne]
            omega
          rw [this]; rfl
        | false => rw [Bool.false_and, Bool.or_false]; rfl
      · rw [hr, hN]; rfl
      · rw [hr, hri]; rfl
end Go.Proofs.Ytnanfoahimccpaa.Lb
