/- What LineBreak and LineOpen say of a place, by the context of what is ahead. -/
import Derived.Test.YtnanfoahimccpaaLbOp
import Derived.Test.YtnanfoahimccpaaLbLaw
namespace Go.Proofs.Ytnanfoahimccpaa.Lb
open Go.RowKit Go.Proofs.YtnanfoahimccpaaW.PrintWords
open Ln (S64 rd_T64 z64 k64)

theorem rowQ_ne : ∀ (y : S64) (Q : List S64), rowQ (y :: Q) ≠ []
  | y, [] => by
    rw [rowQ, show afterQ [] = false from rfl, Bool.and_false]
    simp
  | y, z :: Q => by
    have := rowQ_ne z Q
    rw [rowQ]
    split
    · exact this
    · simp

theorem brk_eq : Ln.brkB = brk := rfl
theorem opn_false {im si lo sp ma cp mk : Bool} {v1 v2 : Int} (h : Ln.opnB im si lo sp ma cp mk v1 v2 = false) : (((((im = false ∧ si = false) ∧ lo = false) ∧ sp = false) ∧ ma = false) ∧ (cp && mk) = false) ∧ (v1 != v2) = false := by
  unfold Ln.opnB at h
  cases im <;> cases si <;> cases lo <;> cases sp <;> cases ma <;> cases hc : (cp && mk) <;> simp_all

section
variable (A : Option Addr) (cc : Nat) (y x : S64) (Q S : List S64) (hl : ((y :: Q).reverse ++ x :: S).length ≤ 60) (hw : ∀ z ∈ y :: Q, 0 ≤ res z)
include hl hw

/-- What LineBreak says. -/
theorem break_at (nm : Bool) (w : World) (hr : Kd.C k64 w A ((y :: Q).reverse ++ x :: S).length ((y :: Q).reverse ++ x :: S)) (hc : ((y :: Q).reverse ++ x :: S).length ≤ cc) :
    Calls Try.prog 46 #[.slice A ((y :: Q).reverse ++ x :: S).length cc, .int .i64 (((y :: Q).length : Nat) : Int), .bool nm] w fun e w' =>
      e = .returned (.int .i64 (specB (cxQ (y :: Q)) (res x) (wideS x) (hk (fwd (!bareB (res x)) S) == 34) nm)) ∧ Below w.heap.size w w' := by
  have hQ : Q.length ≤ 58 := by simp at hl; omega
  have f := feat (y :: Q) hw
  have hnear := near_f y x Q S hQ 300 (by omega)
  have hgate := near_gate (res y) (cxQ (y :: Q)).zs (res x)
  unfold specB
  rw [raw_cons, hgate]
  cases hn : nearB (res y) (cxQ (y :: Q)).zs (res x) with
  | some v =>
    rw [hn] at hnear
    exact Ln.spec_LineBreak.said 300 A cc _ _ nm v w hr hc hnear
  | none =>
    rw [hn] at hnear
    have hrow := row_f (y :: Q) S x hl 300 (by omega)
    -- not dropped
    have hnd : (markB (res x) && afterQ (y :: Q)) = false := by
      show (markB (res x) && !bareB (res y)) = false
      cases hd : (markB (res x) && !bareB (res y)) with
      | false => rfl
      | true =>
        exfalso
        unfold nearB at hn
        rw [hd] at hn
        revert hn
        repeat' split
        all_goals (intro hn; first | exact absurd rfl ‹¬ (true = true)› | (cases hn; done))
    have hT : fwd (afterQ (y :: Q)) (x :: S) = elem x :: fwd (!bareB (res x)) S := by
      rw [show fwd (afterQ (y :: Q)) (x :: S) = if markB (res x) && afterQ (y :: Q) then fwd (!bareB (res x)) S else elem x :: fwd (!bareB (res x)) S from rfl, hnd, if_neg (by simp)]
    rw [hT] at hrow
    have hRl := rowQ_le (y :: Q)
    have hne := rowQ_ne y Q
    obtain ⟨fraw, fa, faw, fau, fhl, feb, fss, fsp2, fso, fN, fP, fr⟩ := f
    generalize hRR : rowQ (y :: Q) = R at hrow hRl hne fa faw fau fhl feb fss fsp2 fso fN fP fr
    have hR60 : R.length ≤ 59 := by simp at hRl hl; omega
    generalize fwd (!bareB (res x)) S = T at hrow
    have hat := at_f R (elem x :: T) (by omega) 300 (by omega)
    rw [fa, fso, fhl, faw, fau, fN, fP, fr]
    have hb : hk (elem x :: T) = asRow (res x) := rfl
    rw [hb] at hat
    have hnu := number_f R (elem x :: T) 300 (by omega) (by omega) (hk R.tail) (asRow (res x)) (hk T) (hk (R.dropWhile isSp)) hne _ rfl
    cases R with
    | nil => exact absurd rfl hne
    | cons l R =>
      have hla := last_f l (elem x) R T (by simp at hR60; omega) 300 (by omega) (hk (l :: R).tail) (hk (l :: R)) (asRow (res x)) (hk T) (hk ((l :: R).dropWhile isSp)) _ rfl
      have hm := Ln.spec_LineBreak.calls 300 A cc _ _ nm 0 _ _ _ _ _ _ _ _ _ _ _ _ _ (if nm then numberB (hk (l :: R)) (asRow (res x)) (hk T == 34) (numR (l :: R)) (oneOf [18, 19] (hk (l :: R)) && numR (l :: R).tail) else pairsB (hk (l :: R)) (asRow (res x))) w hr hc hnear hrow hat
        (glue_f 288 _ _ _ _ _ _ _) (pairs_f 289 _ _ _ _ _ _ _) hnu (hyph_f 284 _ _ _ _ _ _ _) (hang_f 288 _ _ _ _ _ _ _) hla rfl
      rw [brk_eq] at hm
      exact hm

/-- Where LineOpen says that nothing is said. -/
theorem open_at : ∃ o : Bool, (∀ w : World, Kd.C k64 w A ((y :: Q).reverse ++ x :: S).length ((y :: Q).reverse ++ x :: S) → ((y :: Q).reverse ++ x :: S).length ≤ cc →
    Calls Try.prog 47 #[.slice A ((y :: Q).reverse ++ x :: S).length cc, .int .i64 (((y :: Q).length : Nat) : Int)] w fun e w' => e = .returned (.bool o) ∧ Below w.heap.size w w') ∧
    (o = false → openB (cxQ (y :: Q)) (res x) (wideS x) (hk (fwd (!bareB (res x)) S) == 34) (mbL S) = false) := by
  have hQ : Q.length ≤ 58 := by simp at hl; omega
  have f := feat (y :: Q) hw
  have hdrop := drop_eq f.raw hw (res x)
  have hbr := break_at A cc y x Q S hl hw
  have hrow := row_f (y :: Q) S x hl 300 (by omega)
  have hRl := rowQ_le (y :: Q)
  have hne := rowQ_ne y Q
  have hlo := loose_f (y :: Q) (x :: S) 300 (by simp; omega) (by omega)
  have hj : wrap64 ((((y :: Q).length : Nat) : Int) - 1) = (Q.length : Int) := by rw [wrap_id (by simp; omega)]; simp
  have hj1 : (Q.length : Int) < (((y :: Q).reverse ++ x :: S).length : Int) := by simp; omega
  have hy : rd_T64 ((y :: Q).reverse ++ x :: S) (Q.length : Int) = y := by rw [show (y :: Q).reverse ++ x :: S = Q.reverse ++ y :: (x :: S) by simp]; exact rd_mid Q _ y
  have hrk := res_f 299 y
  have hmk := mark_f 291 (res y)
  have hma := fun row at_ a2 a b b2 so => marked_f (y :: Q) S x (by simp; omega) 291 row at_ a2 a b b2 so
  have hraw := raw_cons y Q
  obtain ⟨fraw, fa, faw, fau, fhl, feb, fss, fsp2, fso, fN, fP, fr⟩ := f
  generalize hv1 : specB (cxQ (y :: Q)) (res x) (wideS x) (hk (fwd (!bareB (res x)) S) == 34) false = v1
  generalize hv2 : specB (cxQ (y :: Q)) (res x) (wideS x) (hk (fwd (!bareB (res x)) S) == 34) true = v2
  have hB : ∀ (nm : Bool) (w1 : World), Kd.C k64 w1 A ((y :: Q).reverse ++ x :: S).length ((y :: Q).reverse ++ x :: S) → ((y :: Q).reverse ++ x :: S).length ≤ cc → Calls Try.prog 46 #[.slice A ((y :: Q).reverse ++ x :: S).length cc, .int .i64 (((y :: Q).length : Nat) : Int), .bool nm] w1 fun e w' =>
      e = .returned (.int .i64 (if nm then v2 else v1)) ∧ Below w1.heap.size w1 w' := by
    intro nm w1 h1 h2
    have := hbr nm w1 h1 h2
    cases nm with
    | true => rw [hv2] at this; exact this
    | false => rw [hv1] at this; exact this
  have hTn : (markB (res x) && afterQ (y :: Q)) = false → fwd (afterQ (y :: Q)) (x :: S) = elem x :: fwd (!bareB (res x)) S := by
    intro h
    rw [show fwd (afterQ (y :: Q)) (x :: S) = if markB (res x) && afterQ (y :: Q) then fwd (!bareB (res x)) S else elem x :: fwd (!bareB (res x)) S from rfl, h, if_neg (by simp)]
  unfold openB
  rw [hdrop]
  generalize fwd (afterQ (y :: Q)) (x :: S) = T at hrow hTn
  generalize hRR : rowQ (y :: Q) = R at hrow hRl hne fa faw fau fhl feb fss fsp2 fso fN fP fr
  have hR60 : R.length ≤ 59 := by simp at hRl hl; omega
  have hat := at_f R T (by omega) 300 (by omega)
  cases R with
  | nil => exact absurd rfl hne
  | cons l R =>
    have him := images_f l R T (by simp at hR60; omega) 291 (hk (l :: R)) (hk T) (hk T.tail) (hk ((l :: R).dropWhile isSp))
    refine ⟨_, fun w hr hc => Ln.spec_LineOpen.calls 300 A cc _ _ (Q.length : Int) _ _ _ _ _ _ _ (res y) _ _ _ _ _ _ _ (fun nm => if nm then v2 else v1) _ w hr hc hj (by omega) hj1 hrow hat him (signed_f 291 _ _ _ _ _ _ _) hlo (spaced_f 299 _ _ _ _ _ _ _) (hma _ _ _ _ _ _ _) rfl (by rw [hy]; exact hrk) hmk (fun nm w1 h1 => hB nm w1 h1 hc) rfl, ?_⟩
    intro ho
    obtain ⟨⟨⟨⟨⟨⟨him0, hsi0⟩, hlo0⟩, hsp0⟩, hma0⟩, hcp0⟩, ho12⟩ := opn_false ho
    rw [Bool.or_eq_false_iff] at him0
    have heb0 : (cxQ (y :: Q)).eb = false := by rw [feb]; exact him0.2
    cases hd : (markB (res x) && afterQ (y :: Q)) with
    | true => rw [if_pos rfl]; exact heb0
    | false =>
      have hT := hTn hd
      subst hT
      rw [if_neg (by simp), heb0, hlo0, fau, fa, fss, fsp2, fso, hraw, gate_mark]
      have hb : hk (elem x :: fwd (!bareB (res x)) S) = asRow (res x) := rfl
      rw [hb] at him0 hsi0 hsp0 hma0
      have e1 : (huk (l :: R) && (asRow (res x) == 21 || asRow (res x) == 36)) = false := by
        have := him0.1
        unfold oneOf oneOf oneOf at this
        rw [Bool.or_false] at this
        exact this
      have e2 : (if asRow (res x) == 34 then signB (hk (l :: R)) && (oneOf [29, 42, 18, 19] (hk (l :: R)) && signB (hk (l :: R).tail)) else if oneOf [37, 36] (asRow (res x)) then oneOf [18, 19] (hk (l :: R)) && (oneOf [29, 42, 18, 19] (hk (l :: R)) && signB (hk (l :: R).tail)) else asRow (res x) == 26 && hk (fwd (!bareB (res x)) S) == 34) = false := by
        rw [← hsi0]
        have s1 : (signB (hk (l :: R)) && (oneOf [29, 42, 18, 19] (hk (l :: R)) && signB (hk (l :: R).tail))) = (signB (hk (l :: R)) && signB (hk (l :: R).tail)) := by
          unfold signB oneOf oneOf oneOf oneOf oneOf
          cases (hk (l :: R) == 29) <;> cases (hk (l :: R) == 42) <;> cases (hk (l :: R) == 18) <;> cases (hk (l :: R) == 19) <;> rfl
        have s2 : (oneOf [18, 19] (hk (l :: R)) && (oneOf [29, 42, 18, 19] (hk (l :: R)) && signB (hk (l :: R).tail))) = (oneOf [18, 19] (hk (l :: R)) && signB (hk (l :: R).tail)) := by
          unfold oneOf oneOf oneOf oneOf oneOf
          cases (hk (l :: R) == 29) <;> cases (hk (l :: R) == 42) <;> cases (hk (l :: R) == 18) <;> cases (hk (l :: R) == 19) <;> rfl
        rw [s1, s2]
        rfl
      have e3 : ((hk (l :: R) == 7 && hk (l :: R).tail == 7) && ((cls (hk ((l :: R).dropWhile isSp)) == 38 && asRow (res x) == 35) || (cls (hk ((l :: R).dropWhile isSp)) == 18 && asRow (res x) == 33) || (cls (hk ((l :: R).dropWhile isSp)) == 13 && asRow (res x) == 13))) = false := by
        rw [← hsp0, cls_38, cls_18, cls_13]
        generalize hk ((l :: R).dropWhile isSp) = so
        cases h38 : (so == 38) with
        | true =>
          rw [beq_iff_eq] at h38
          subst h38
          simp [oneOf]
        | false =>
          cases h18 : oneOf [18, 19] so with
          | true =>
            have : (so == 13) = false := by
              simp only [oneOf, Bool.or_false, Bool.or_eq_true, beq_iff_eq] at h18
              rw [beq_eq_false_iff_ne]; omega
            rw [this]
            simp
          | false => simp
      rw [e1, e2, e3, hma0, hcp0, hv1, hv2]
      show (false || false || false || false || false || false || false || v1 != v2) = false
      have hne12 : (v1 != v2) = false := ho12
      rw [hne12]
      rfl
end
end Go.Proofs.Ytnanfoahimccpaa.Lb
