/- The plain law of FnSentenceRow. No program in sight. -/
import Derived.Test.YtnanfoahimccpaaSbCtx
import Derived.Test.YtnanfoahimccpaaSbLaw
namespace Go.Proofs.Ytnanfoahimccpaa.Sb
open Go.RowKit Go.Proofs.YtnanfoahimccpaaW.PrintWords Sn
open Wd (laws_row.l0 laws_row.f)

theorem wrap_id {x : Int} (h : -9223372036854775808 ≤ x ∧ x ≤ 9223372036854775807) : wrap64 x = x := by unfold wrap64; omega
/-! ### the row of kinds -/
theorem row_ends (l : List Int) (hl : l.length ≤ 140737488351232) (hw : ∀ x ∈ l, 0 ≤ x ∧ x ≤ 255) (m : Int) (h0 : 0 < m) (hm : m ≤ 256) (d : Nat) :
    ∀ (k : Nat) (out : List Int) (i : Nat), i ≤ l.length → l.length - i = d → d < k → out.length ≤ i → out.length ≤ 60 → (∀ x ∈ out, 0 ≤ x ∧ x < m) →
      ∃ p, Wd.laws_row.l0 k m out l (l.length : Int) (i : Int) = some p ∧ p.length ≤ 60 ∧ ∀ x ∈ p, 0 ≤ x ∧ x < m := by
  induction d with
  | zero =>
    intro k out i h1 h2 hk _ h4 h5
    obtain ⟨k, rfl⟩ : ∃ m, k = m + 1 := ⟨k - 1, by omega⟩
    refine ⟨out, ?_, h4, h5⟩
    simp only [Wd.laws_row.l0]
    rw [if_neg (by omega)]
  | succ d ih =>
    intro k out i h1 h2 hk h3 h4 h5
    obtain ⟨k, rfl⟩ : ∃ m, k = m + 1 := ⟨k - 1, by omega⟩
    have hlt : i < l.length := by omega
    have hx : 0 ≤ rd l i ∧ rd l i ≤ 255 := by
      have e : rd l i = l[i] := by simp [rd, hlt]
      rw [e]
      exact hw _ (List.getElem_mem hlt)
    have hwi : wrap64 ((i : Int) + 1) = ((i + 1 : Nat) : Int) := by rw [wrap_id (by omega)]; omega
    simp only [Wd.laws_row.l0]
    rw [if_pos (by omega), if_pos (by omega), if_pos (by omega)]
    by_cases h60 : (i : Int) < 60
    · rw [if_pos h60, if_neg (by omega), if_pos (by omega), hwi]
      refine ih k _ (i + 1) (by omega) (by omega) (by omega) (by simp; omega) (by simp; omega) ?_
      intro x hxm
      rcases List.mem_append.1 hxm with h | h
      · exact h5 x h
      · rw [List.mem_singleton.1 h, wrap_id (by omega), Int.tmod_eq_emod_of_nonneg hx.1]
        exact ⟨Int.emod_nonneg _ (by omega), Int.emod_lt_of_pos _ h0⟩
    · rw [if_neg h60, hwi]
      exact ih k out (i + 1) (by omega) (by omega) (by omega) (by omega) h4 h5


/-! ### small letters behind -/
def lowF : List Int → Bool
  | [] => false
  | x :: l => if decB x then x == 7 else lowF l
theorem lowF_skip (x : Int) (h : decB x = false) (B : List Int) : ∀ A : List Int, lowF (A ++ x :: B) = lowF (A ++ B)
  | [] => by
    show (if decB x then x == 7 else lowF B) = lowF B
    rw [h]; rfl
  | y :: A => by
    show (if decB y then y == 7 else lowF (A ++ x :: B)) = if decB y then y == 7 else lowF (A ++ B)
    rw [lowF_skip x h B A]

theorem next_norm (s p e : Int) : next s p e = next s p (if (e == 35) then 35 else 1) := by
  have e1 : (e == 35) = ((if (e == 35) then (35 : Int) else 1) == 35) := by split <;> simp_all
  unfold next
  rw [← e1]
theorem kind_facts : ∀ k : Fin 15, stops (numOf k.val) = decB k.val ∧ (numOf k.val == 35) = ((k.val : Int) == 7) ∧ (decB k.val = false → ((k.val : Int) == 7) = false) := by decide +kernel
theorem kind_fact {x : Int} (h : 0 ≤ x ∧ x < 15) : stops (numOf x) = decB x ∧ (numOf x == 35) = (x == 7) ∧ (decB x = false → (x == 7) = false) := by
  have := kind_facts ⟨x.toNat, by omega⟩
  simpa [Int.toNat_of_nonneg h.1] using this
theorem fin_low : ∀ (l : List Int) (x : Int), (0 ≤ x ∧ x < 15) → (∀ y ∈ l, 0 ≤ y ∧ y < 15) → (fin (numOf x) (nums l) == 35) = lowF (x :: l)
  | [], x, hx, _ => by
    have h := kind_fact hx
    show (numOf x == 35) = if decB x then x == 7 else false
    rw [h.2.1]
    cases hd : decB x with
    | true => rfl
    | false => rw [h.2.2 hd]; rfl
  | y :: l, x, hx, hl => by
    have h := kind_fact hx
    show ((if stops (numOf x) then numOf x else fin (numOf y) (nums l)) == 35) = if decB x then x == 7 else lowF (y :: l)
    rw [h.1]
    cases hd : decB x with
    | true => rw [if_pos rfl, if_pos rfl]; exact h.2.1
    | false => rw [if_neg (by simp), if_neg (by simp)]; exact fin_low l y (hl y List.mem_cons_self) fun z hz => hl z (List.mem_cons_of_mem _ hz)

/-! ### what is heard, the last first -/
def stepR (R : List Int) (x : Int) : List Int := if muteB x && R.headD (-1) != -1 && !sepB (R.headD (-1)) then R else x :: R
def hrd (p : List Int) (i : Nat) : List Int := (p.take i).foldl stepR []
theorem hrd_succ (p : List Int) (i : Nat) (hi : i < p.length) : hrd p (i + 1) = stepR (hrd p i) (rd p i) := by
  unfold hrd
  rw [List.take_succ_eq_append_getElem hi, List.foldl_append]
  simp [rd, hi]
def termHead : List Int → Int
  | [] => 0
  | y :: _ => if termB y then y else 0
def isSp (x : Int) : Bool := x == 6
def isCl (x : Int) : Bool := x == 13
def tR (R : List Int) : Int := termHead ((R.dropWhile isSp).dropWhile isCl)
def vR (R : List Int) : Int := termHead (R.dropWhile isCl)
def uR : List Int → Bool
  | _ :: y :: _ => y == 7 || y == 8
  | _ => false
def lastK (p : List Int) (i : Nat) : Int := if i = 0 then -1 else rd p ((i : Int) - 1)
def qA (p : List Int) : Nat → Bool
  | 0 => false
  | i + 1 => rd p i == 1 && tR (hrd p i) != 0
def cxA (p : List Int) (i : Nat) : Cx := ⟨lastK p i, (hrd p i).headD (-1), uR (hrd p i), tR (hrd p i), vR (hrd p i), qA p i⟩

theorem uR_cons (x : Int) (R : List Int) : uR (x :: R) = (R.headD (-1) == 7 || R.headD (-1) == 8) := by
  cases R <;> rfl
theorem vR_cons (x : Int) (R : List Int) : vR (x :: R) = if termB x then x else if x == 13 then vR R else 0 := by
  unfold vR
  by_cases h : x = 13
  · subst h; rfl
  · have h1 : (x == 13) = false := by rw [beq_eq_false_iff_ne]; exact h
    rw [List.dropWhile_cons, show isCl x = false from h1, h1]
    rfl
theorem tR_cons (x : Int) (R : List Int) : tR (x :: R) = if termB x then x else if x == 13 then vR R else if x == 6 then tR R else 0 := by
  unfold tR
  by_cases h : x = 6
  · subst h; rfl
  · have h1 : (x == 6) = false := by rw [beq_eq_false_iff_ne]; exact h
    rw [List.dropWhile_cons, show isSp x = false from h1, h1]
    have := vR_cons x R
    unfold vR at this ⊢
    simpa using this

theorem cx_succ (p : List Int) (i : Nat) (hi : i < p.length) : cxA p (i + 1) = stepC (cxA p i) (rd p i) := by
  have hk : lastK p (i + 1) = rd p i := by
    unfold lastK
    rw [if_neg (by omega)]
    congr 1
    omega
  unfold cxA stepC
  dsimp only
  rw [hk, hrd_succ p i hi, show qA p (i + 1) = (rd p i == 1 && tR (hrd p i) != 0) from rfl]
  generalize rd p (i : Int) = x
  generalize hrd p i = R
  unfold stepR
  split
  · rfl
  · rw [uR_cons, tR_cons, vR_cons]
    rfl

theorem kind_mem {x : Int} (h : 0 ≤ x ∧ x < 15) : x ∈ kindsN := by
  have : ∀ k : Fin 15, ((k.val : Int)) ∈ kindsN := by decide +kernel
  have := this ⟨x.toNat, by omega⟩
  simpa [Int.toNat_of_nonneg h.1] using this
theorem bool_mem (b : Bool) : b ∈ bools := by cases b <;> simp [bools]

theorem mem_allC {c : Cx} (h1 : c.a ∈ (-1) :: kindsN) (h2 : c.h ∈ (-1) :: kindsN) (h3 : c.t ∈ terms) (h4 : c.v ∈ terms) (h : goodC c = true) : c ∈ allC := by
  obtain ⟨a, hh, u, t, v, q⟩ := c
  exact List.mem_filter.2 ⟨List.mem_flatMap.2 ⟨a, h1, List.mem_flatMap.2 ⟨hh, h2, List.mem_flatMap.2 ⟨u, bool_mem u, List.mem_flatMap.2 ⟨t, h3, List.mem_flatMap.2 ⟨v, h4, List.mem_map.2 ⟨q, bool_mem q, rfl⟩⟩⟩⟩⟩⟩, h⟩
theorem mem_parts {c : Cx} (h : c ∈ allC) : c.a ∈ (-1) :: kindsN ∧ c.h ∈ (-1) :: kindsN ∧ c.t ∈ terms ∧ c.v ∈ terms := by
  obtain ⟨h, _⟩ := List.mem_filter.1 h
  obtain ⟨a, h1, h⟩ := List.mem_flatMap.1 h
  obtain ⟨hh, h2, h⟩ := List.mem_flatMap.1 h
  obtain ⟨u, _, h⟩ := List.mem_flatMap.1 h
  obtain ⟨t, h3, h⟩ := List.mem_flatMap.1 h
  obtain ⟨v, h4, h⟩ := List.mem_flatMap.1 h
  obtain ⟨q, _, rfl⟩ := List.mem_map.1 h
  exact ⟨h1, h2, h3, h4⟩
theorem term_mem {x : Int} (h : termB x = true) : x ∈ terms := by
  simp only [termB, Bool.or_eq_true, beq_iff_eq] at h
  rcases h with rfl | rfl <;> simp [terms]
theorem stepC_mem {c : Cx} {x : Int} (hc : c ∈ allC) (hx : 0 ≤ x ∧ x < 15) : stepC c x ∈ allC := by
  have hg := List.all_eq_true.1 (List.all_eq_true.1 good_step c hc) x (kind_mem hx)
  obtain ⟨h1, h2, h3, h4⟩ := mem_parts hc
  have hk := List.mem_cons_of_mem (-1 : Int) (kind_mem hx)
  have h0 : (0 : Int) ∈ terms := by simp [terms]
  refine mem_allC ?_ ?_ ?_ ?_ hg
  · unfold stepC; split <;> exact hk
  · unfold stepC; split
    · exact h2
    · exact hk
  · unfold stepC; split
    · exact h3
    · show (if termB x then x else if x == 13 then c.v else if x == 6 then c.t else 0) ∈ terms
      split
      · rename_i h; exact term_mem h
      · split
        · exact h4
        · split
          · exact h3
          · exact h0
  · unfold stepC; split
    · exact h4
    · show (if termB x then x else if x == 13 then c.v else 0) ∈ terms
      split
      · rename_i h; exact term_mem h
      · split
        · exact h4
        · exact h0
theorem start_mem : startC ∈ allC := mem_allC (by decide) (by decide) (by decide) (by decide) (by decide +kernel)

section
variable {p : List Int} (hp : ∀ x ∈ p, 0 ≤ x ∧ x < 15)
include hp
theorem cx_mem : ∀ i, i ≤ p.length → cxA p i ∈ allC
  | 0, _ => start_mem
  | i + 1, h => by
    rw [cx_succ p i (by omega)]
    exact stepC_mem (cx_mem i (by omega)) (rd_kind hp i (by omega))

omit hp in
theorem drop_cons (i : Nat) (hi : i < p.length) : p.drop i = rd p i :: p.drop (i + 1) := by
  rw [List.drop_eq_getElem_cons hi]
  simp [rd, hi]
omit hp in
theorem drop_low (i : Nat) (hi : i < p.length) : (if decB (rd p i) then lowF (p.drop i) != (rd p i == 7) else lowF (p.drop i) != lowF (p.drop (i + 1))) = false := by
  rw [drop_cons i hi]
  generalize rd p (i : Int) = x
  rw [show lowF (x :: p.drop (i + 1)) = if decB x then x == 7 else lowF (p.drop (i + 1)) from rfl]
  split <;> simp_all

theorem next_fin (i : Nat) (hi : i < p.length) (s : Int) : next s (numOf (rd p i)) (fin (numOf (rd p i)) ((nums p).drop (i + 1))) = next s (numOf (rd p i)) (if lowF (p.drop i) then 35 else 1) := by
  rw [next_norm]
  have : (nums p).drop (i + 1) = nums (p.drop (i + 1)) := by simp [nums, List.map_drop]
  rw [this, fin_low _ _ (rd_kind hp i hi) (fun x hx => hp x (List.mem_of_mem_drop hx)), ← drop_cons i hi]

theorem step_ok (i : Nat) (hi : i < p.length) (hs : stS p i ∈ stsC (cxA p i) (lowF (p.drop i))) :
    okC (cxA p i) (lowF (p.drop i)) (stS p i) (rd p i) (lowF (p.drop (i + 1))) = true := by
  have h := List.all_eq_true.1 (List.all_eq_true.1 (List.all_eq_true.1 (List.all_eq_true.1 (List.all_eq_true.1 ok_step _ (cx_mem hp i (by omega))) _ (bool_mem (lowF (p.drop i)))) _ hs) _ (kind_mem (rd_kind hp i hi))) _ (bool_mem (lowF (p.drop (i + 1))))
  rwa [drop_low i hi, Bool.false_or] at h

theorem st_ok : ∀ i, i ≤ p.length → stS p i ∈ stsC (cxA p i) (lowF (p.drop i))
  | 0, _ => by simp [stS, cxA, lastK, stsC]
  | i + 1, h => by
    have h1 := step_ok hp i (by omega) (st_ok i (by omega))
    unfold okC at h1
    simp only [Bool.and_eq_true, List.any_eq_true, beq_iff_eq] at h1
    obtain ⟨⟨t, ht, he⟩, _⟩ := h1
    show (next (stS p i) (numOf (rd p i)) (fin (numOf (rd p i)) ((nums p).drop (i + 1)))).1 ∈ _
    rw [next_fin hp i (by omega), he, cx_succ p i (by omega)]
    exact ht

/-- The cut and the reference. -/
theorem cut_spec (i : Nat) (hi : i + 1 < p.length) (ho : openB (cxA p (i + 1)) (rd p (i + 1 : Nat)) = false) : cutS p (i + 1) = specB (cxA p (i + 1)) (rd p (i + 1 : Nat)) (lowF (p.drop (i + 1))) := by
  have h1 := step_ok hp (i + 1) hi (st_ok hp (i + 1) (by omega))
  unfold okC at h1
  rw [Bool.and_eq_true, ho, Bool.or_false] at h1
  have hl : ((cxA p (i + 1)).a == -1) = false := by
    rw [beq_eq_false_iff_ne]
    show lastK p (i + 1) ≠ -1
    unfold lastK
    rw [if_neg (by omega), show ((i + 1 : Nat) : Int) - 1 = (i : Int) by omega]
    have := rd_kind hp i (by omega)
    omega
  rw [hl, Bool.false_or, beq_iff_eq] at h1
  unfold cutS
  rw [next_fin hp (i + 1) hi]
  exact h1.2
end

/-! ### the reference -/
theorem among1 (k : Nat) (x a : Int) : Sn.spec_among.f (k + 2) x [a] = some (x == a) := by
  unfold Sn.spec_among.f
  by_cases h : x = a
  · subst h; simp [Sn.spec_among.l0, rd]
  · have e1 : (x == a) = false := by rw [beq_eq_false_iff_ne]; exact h
    simp [Sn.spec_among.l0, rd, h, wrap64]
theorem among2 (k : Nat) (x a b : Int) : Sn.spec_among.f (k + 3) x [a, b] = some (x == a || x == b) := by
  unfold Sn.spec_among.f
  by_cases h : x = a
  · subst h; simp [Sn.spec_among.l0, rd]
  · by_cases h2 : x = b
    · subst h2; simp [Sn.spec_among.l0, rd, h, wrap64]
    · simp [Sn.spec_among.l0, rd, h, h2, wrap64]
theorem among3 (k : Nat) (x a b c : Int) : Sn.spec_among.f (k + 4) x [a, b, c] = some (x == a || x == b || x == c) := by
  unfold Sn.spec_among.f
  by_cases h : x = a
  · subst h; simp [Sn.spec_among.l0, rd]
  · by_cases h2 : x = b
    · subst h2; simp [Sn.spec_among.l0, rd, h, wrap64]
    · by_cases h3 : x = c
      · subst h3; simp [Sn.spec_among.l0, rd, h, h2, wrap64]
      · simp [Sn.spec_among.l0, rd, h, h2, h3, wrap64]
theorem sep_f (k : Nat) (x : Int) : Sn.spec_sbSep.f (k + 4) x = some (sepB x) := by
  unfold Sn.spec_sbSep.f; rw [among3]; rfl
theorem mute_f (k : Nat) (x : Int) : Sn.spec_sbMute.f (k + 4) x = some (muteB x) := by
  unfold Sn.spec_sbMute.f; rw [among2]; rfl
theorem term_f (k : Nat) (x : Int) : Sn.spec_sbTerm.f (k + 4) x = some (termB x) := by
  unfold Sn.spec_sbTerm.f; rw [among2]; rfl

theorem rd_mid (A S : List Int) (y : Int) : rd (A ++ y :: S).reverse (S.length : Int) = y := by
  simp [rd]

theorem mem_fold (q : List Int) : ∀ (R : List Int) (y : Int), y ∈ q.foldl stepR R → y ∈ R ∨ y ∈ q := by
  induction q with
  | nil => intro R y h; exact .inl h
  | cons x q ih =>
    intro R y h
    rcases ih _ y h with h | h
    · unfold stepR at h
      split at h
      · exact .inl h
      · rcases List.mem_cons.1 h with h | h
        · exact .inr (by rw [h]; exact List.mem_cons_self)
        · exact .inl h
    · exact .inr (List.mem_cons_of_mem _ h)

theorem heard_f (q : List Int) (hl : q.length ≤ 60) (hq : ∀ x ∈ q, 0 ≤ x) (d : Nat) : ∀ (i k : Nat), i ≤ q.length → q.length - i = d → d + 6 ≤ k → ((q.take i).foldl stepR []).length ≤ i →
    Sn.spec_sbHeard.l0 k ((q.take i).foldl stepR []).reverse q (q.length : Int) (i : Int) = some (q.foldl stepR []).reverse := by
  induction d with
  | zero =>
    intro i k h1 h2 hk _
    obtain ⟨k, rfl⟩ : ∃ m, k = m + 1 := ⟨k - 1, by omega⟩
    rw [Sn.spec_sbHeard.l0, if_neg (by omega), List.take_of_length_le (by omega)]
  | succ d ih =>
    intro i k h1 h2 hk hlen
    obtain ⟨k, rfl⟩ : ∃ m, k = m + 4 + 1 := ⟨k - 5, by omega⟩
    have hi : i < q.length := by omega
    have hnext : (q.take (i + 1)).foldl stepR [] = stepR ((q.take i).foldl stepR []) (rd q i) := by
      rw [List.take_succ_eq_append_getElem hi, List.foldl_append]
      simp [rd, hi]
    have hstep := ih (i + 1) (k + 4) (by omega) (by omega) (by omega)
    rw [hnext] at hstep
    have hmem : ∀ y, y ∈ (q.take i).foldl stepR [] → 0 ≤ y := by
      intro y hy
      rcases mem_fold _ _ _ hy with h | h
      · exact absurd h (by simp)
      · exact hq y (List.mem_of_mem_take h)
    rw [Sn.spec_sbHeard.l0]
    generalize (q.take i).foldl stepR [] = R at hlen hstep hmem ⊢
    generalize rd q (i : Int) = x at hstep ⊢
    rw [if_pos (by omega), if_pos (by omega), if_pos (by omega), mute_f, wrap_id (x := (i : Int) + 1) (by omega), show (i : Int) + 1 = ((i + 1 : Nat) : Int) by omega]
    simp only [Option.bind_some, List.length_reverse]
    rw [stepR] at hstep
    cases hm : muteB x with
    | false =>
      rw [if_neg (by simp), if_pos (by omega)]
      rw [hm] at hstep
      simp only [Bool.false_and, Bool.false_eq_true, if_false, List.reverse_cons] at hstep
      exact hstep (by simp; omega)
    | true =>
      rw [if_pos rfl]
      rw [hm] at hstep
      cases R with
      | nil =>
        rw [if_neg (by simp), if_pos (by simp)]
        exact hstep (Nat.succ_le_succ (Nat.zero_le _))
      | cons y R =>
        have hy := hmem y List.mem_cons_self
        have hy1 : (y != -1) = true := by rw [bne_iff_ne]; omega
        simp only [List.length_cons] at hlen
        rw [if_pos (by simp), wrap_id (by simp; omega), show (((y :: R).length : Nat) : Int) - 1 = (R.length : Int) by simp, if_pos (by omega), if_pos (by simp; omega)]
        rw [show rd (y :: R).reverse (R.length : Int) = y from rd_mid [] R y, sep_f]
        simp only [Option.bind_some]
        simp only [List.headD_cons, hy1, Bool.true_and] at hstep
        cases hs : sepB y with
        | true =>
          rw [hs] at hstep
          rw [if_pos rfl, if_pos (by simp; omega)]
          simp only [Bool.not_true, Bool.false_eq_true, if_false, List.reverse_cons] at hstep ⊢
          exact hstep (by simp; omega)
        | false =>
          rw [hs] at hstep
          rw [if_neg (by simp)]
          simp only [Bool.not_false, if_true] at hstep
          exact hstep (by simp; omega)

theorem heard_all (q : List Int) (hl : q.length ≤ 60) (hq : ∀ x ∈ q, 0 ≤ x) (k : Nat) (hk : 70 ≤ k) : Sn.spec_sbHeard.f k q = some (q.foldl stepR []).reverse :=
  heard_f q hl hq q.length 0 k (by omega) (by omega) (by omega) (by simp)

theorem lower_f (l : List Int) (hl : l.length ≤ 60) (d : Nat) : ∀ (i k : Nat), i ≤ l.length → l.length - i = d → d + 6 ≤ k → Sn.spec_sbLower.l0 k l (l.length : Int) (i : Int) = some (lowF (l.drop i)) := by
  induction d with
  | zero =>
    intro i k h1 h2 hk
    obtain ⟨k, rfl⟩ : ∃ m, k = m + 1 := ⟨k - 1, by omega⟩
    rw [Sn.spec_sbLower.l0, if_neg (by omega), List.drop_eq_nil_of_le (by omega)]
    rfl
  | succ d ih =>
    intro i k h1 h2 hk
    obtain ⟨k, rfl⟩ : ∃ m, k = m + 4 + 1 := ⟨k - 5, by omega⟩
    have hstep := ih (i + 1) (k + 4) (by omega) (by omega) (by omega)
    rw [Sn.spec_sbLower.l0, drop_cons i (by omega)]
    rw [show lowF (rd l i :: l.drop (i + 1)) = if decB (rd l i) then rd l i == 7 else lowF (l.drop (i + 1)) from rfl]
    generalize rd l (i : Int) = x
    rw [if_pos (by omega), if_pos (by omega), if_pos (by omega), show k + 4 = (k + 1) + 3 by omega, among2, show k + 1 + 3 = k + 4 by omega, sep_f, term_f]
    simp only [Option.bind_some]
    rw [wrap_id (by omega), show (i : Int) + 1 = ((i + 1 : Nat) : Int) by omega, hstep]
    unfold decB
    by_cases h7 : x = 7
    · subst h7; simp
    · have e7 : (x == 7) = false := by rw [beq_eq_false_iff_ne]; exact h7
      rw [if_neg h7, e7]
      cases (x == 9 || x == 8) <;> cases sepB x <;> cases termB x <;> simp

theorem mute_dec {x : Int} (h : muteB x = true) : decB x = false := by
  simp only [muteB, Bool.or_eq_true, beq_iff_eq] at h
  rcases h with rfl | rfl <;> rfl
theorem low_heard (q : List Int) : ∀ R : List Int, lowF (q.foldl stepR R).reverse = lowF (R.reverse ++ q) := by
  induction q with
  | nil => intro R; simp
  | cons x q ih =>
    intro R
    rw [List.foldl_cons, ih]
    unfold stepR
    split
    · rename_i h
      simp only [Bool.and_eq_true] at h
      rw [lowF_skip x (mute_dec h.1.1)]
    · simp

theorem before_f (s : Int) (g : Int → Bool) (hg : ∀ x, g x = (x == s)) (S : List Int) : ∀ (A : List Int) (k : Nat), (A ++ S).length ≤ 60 → S.length + 4 ≤ k →
    Sn.spec_before.l0 k (A ++ S).reverse ((S.length : Int) - 1) [s] = some (((S.dropWhile g).length : Int) - 1) := by
  induction S with
  | nil =>
    intro A k _ hk
    obtain ⟨k, rfl⟩ : ∃ m, k = m + 1 := ⟨k - 1, by omega⟩
    rw [Sn.spec_before.l0, if_neg (by simp)]
    rfl
  | cons y S ih =>
    intro A k hl hk
    simp only [List.length_cons] at hk
    obtain ⟨k, rfl⟩ : ∃ m, k = m + 2 + 1 := ⟨k - 3, by omega⟩
    have h1 := ih (A ++ [y]) (k + 2) (by simpa using hl) (by omega)
    simp only [List.append_assoc, List.singleton_append] at h1
    have hlen : S.length ≤ 60 := by simp at hl; omega
    rw [Sn.spec_before.l0, show (((y :: S).length : Nat) : Int) - 1 = (S.length : Int) by simp, if_pos (by omega), if_pos (by omega), if_pos (by simp; omega), rd_mid, among1]
    simp only [Option.bind_some]
    rw [wrap_id (by omega), h1, List.dropWhile_cons, hg]
    cases y == s with
    | true => rfl
    | false => simp

theorem suffix_of (g : Int → Bool) (R : List Int) : ∃ A, R = A ++ R.dropWhile g := ⟨R.takeWhile g, List.takeWhile_append_dropWhile.symm⟩

theorem behind_true (R : List Int) (hl : R.length ≤ 60) (k : Nat) (hk : 70 ≤ k) : Sn.spec_sbBehind.f k R.reverse true = some ((((R.dropWhile isSp).dropWhile isCl).length : Int) - 1) := by
  unfold Sn.spec_sbBehind.f Sn.spec_before.f
  have h1 := before_f 6 isSp (fun _ => rfl) R [] k (by simpa using hl) (by omega)
  simp only [List.nil_append] at h1
  rw [if_pos rfl, List.length_reverse, wrap_id (by omega), h1]
  simp only [Option.bind_some]
  obtain ⟨A, hA⟩ := suffix_of isSp R
  have hle : (R.dropWhile isSp).length ≤ 60 := by
    have := congrArg List.length hA
    rw [List.length_append] at this
    omega
  have h2 := before_f 13 isCl (fun _ => rfl) (R.dropWhile isSp) A k (by rw [← hA]; exact hl) (by omega)
  rw [← hA] at h2
  rw [wrap_id (x := _ - 1 + 1) (by omega), Int.sub_add_cancel, wrap_id (by omega), h2]
  rfl
theorem behind_false (R : List Int) (hl : R.length ≤ 60) (k : Nat) (hk : 70 ≤ k) : Sn.spec_sbBehind.f k R.reverse false = some (((R.dropWhile isCl).length : Int) - 1) := by
  unfold Sn.spec_sbBehind.f Sn.spec_before.f
  have h1 := before_f 13 isCl (fun _ => rfl) R [] k (by simpa using hl) (by omega)
  simp only [List.nil_append] at h1
  rw [if_neg (by simp), List.length_reverse, wrap_id (by omega), h1]
  rfl

theorem term_ne (y : Int) : ((if termB y then y else 0) != 0) = termB y := by
  split
  · rename_i h
    simp only [termB, Bool.or_eq_true, beq_iff_eq] at h
    rcases h with rfl | rfl <;> rfl
  · rename_i h
    rw [Bool.not_eq_true] at h
    rw [h]; rfl

theorem j4_f (x : Int) (R : List Int) (hl : R.length ≤ 60) (b : Bool) (k : Nat) (hk : 80 ≤ k) :
    Sn.spec_SentenceBreak.j4 k x R.reverse b = some (if b then false else if vR R != 0 && (x == 13 || x == 6 || sepB x) then false else x != 6 && !sepB x) := by
  obtain ⟨k, rfl⟩ : ∃ m, k = m + 4 + 1 := ⟨k - 5, by omega⟩
  rw [Sn.spec_SentenceBreak.j4]
  cases b with
  | true => rfl
  | false =>
    simp only [Bool.false_eq_true, if_false]
    rw [behind_false R hl _ (by omega)]
    simp only [Option.bind_some]
    obtain ⟨A, hA⟩ := suffix_of isCl R
    unfold vR
    have e6 : (x = 6) = ((x == 6) = true) := by simp
    rw [show k + 4 = (k + 1) + 3 by omega, among2, show k + 1 + 3 = k + 4 by omega, sep_f, show (x != 6) = !(x == 6) from rfl]
    simp only [e6]
    cases hS : R.dropWhile isCl with
    | nil =>
      rw [if_neg (by simp)]
      simp only [Option.bind_some, termHead]
      generalize (x == 6) = e, sepB x = t, (x == 13) = c
      cases e <;> cases t <;> cases c <;> rfl
    | cons y S =>
      rw [hS] at hA
      have hS60 : S.length ≤ 60 := by
        have := congrArg List.length hA
        simp at this
        omega
      rw [show (((y :: S).length : Nat) : Int) - 1 = (S.length : Int) by simp, if_pos (by omega), if_pos (by omega)]
      have hlt : (S.length : Int) < (R.reverse.length : Int) := by
        rw [hA]; simp; omega
      have hrd : rd R.reverse (S.length : Int) = y := by
        conv => lhs; rw [hA]
        exact rd_mid A S y
      rw [if_pos hlt, hrd, term_f]
      simp only [Option.bind_some, termHead, term_ne]
      generalize (x == 6) = e, sepB x = t, (x == 13) = c, termB y = r
      cases e <;> cases t <;> cases c <;> cases r <;> rfl

theorem j3_f (x : Int) (R : List Int) (hl : R.length ≤ 60) (b : Bool) (k : Nat) (hk : 90 ≤ k) :
    Sn.spec_SentenceBreak.j3 k x R.reverse b = some (if b then false else if x == 14 || termB x then false else if vR R != 0 && (x == 13 || x == 6 || sepB x) then false else x != 6 && !sepB x) := by
  obtain ⟨k, rfl⟩ : ∃ m, k = m + 4 + 1 := ⟨k - 5, by omega⟩
  rw [Sn.spec_SentenceBreak.j3]
  cases b with
  | true => rfl
  | false =>
    simp only [Bool.false_eq_true, if_false]
    rw [term_f]
    simp only [Option.bind_some]
    rw [j4_f x R hl _ _ (by omega), j4_f x R hl _ _ (by omega)]
    by_cases h : x = 14
    · rw [if_pos h, h]; rfl
    · have e : (x == 14) = false := by rw [beq_eq_false_iff_ne]; exact h
      rw [if_neg h, e, Bool.false_or]

/-- The terminal ahead of closings and spaces. -/
theorem t_at (R : List Int) :
    ((((R.dropWhile isSp).dropWhile isCl).length : Int) - 1 < 0 ∧ tR R = 0) ∨
      (0 ≤ (((R.dropWhile isSp).dropWhile isCl).length : Int) - 1 ∧ (((R.dropWhile isSp).dropWhile isCl).length : Int) - 1 < (R.reverse.length : Int) ∧
        tR R = if termB (rd R.reverse ((((R.dropWhile isSp).dropWhile isCl).length : Int) - 1)) then rd R.reverse ((((R.dropWhile isSp).dropWhile isCl).length : Int) - 1) else 0) := by
  obtain ⟨A, hA⟩ := suffix_of isSp R
  obtain ⟨B, hB⟩ := suffix_of isCl (R.dropWhile isSp)
  unfold tR
  cases hS : (R.dropWhile isSp).dropWhile isCl with
  | nil => exact .inl ⟨by simp, rfl⟩
  | cons y S =>
    rw [hS] at hB
    rw [hB, ← List.append_assoc] at hA
    refine .inr ?_
    rw [show (((y :: S).length : Nat) : Int) - 1 = (S.length : Int) by simp]
    have hrd : rd R.reverse (S.length : Int) = y := by
      conv => lhs; rw [hA]
      exact rd_mid _ S y
    rw [hrd]
    refine ⟨by omega, ?_, rfl⟩
    rw [hA]; simp; omega

theorem j2_f (p : List Int) (hp : ∀ x ∈ p, 0 ≤ x ∧ x < 15) (hl : p.length ≤ 60) (j : Nat) (hj : j ≤ p.length) (x y z : Int) (R : List Int) (hR : R.length ≤ 60) (b : Bool) (k : Nat) (hk : 100 ≤ k)
    (h0 : b = false → 0 ≤ z ∧ z < (R.reverse.length : Int)) (hy : b = false → rd R.reverse z = y) :
    Sn.spec_SentenceBreak.j2 k p (j : Int) x R.reverse z b = some (if b then false else if y == 11 && lowF (p.drop j) then false else if x == 14 || termB x then false else if vR R != 0 && (x == 13 || x == 6 || sepB x) then false else x != 6 && !sepB x) := by
  obtain ⟨k, rfl⟩ : ∃ m, k = m + 1 := ⟨k - 1, by omega⟩
  rw [Sn.spec_SentenceBreak.j2]
  cases b with
  | true => rfl
  | false =>
    simp only [Bool.false_eq_true, if_false]
    rw [if_pos (h0 rfl).1, if_pos (h0 rfl).2, hy rfl]
    have hlen : ((p.drop j).foldl stepR []).length ≤ 60 := by
      have h2 : ∀ (q R : List Int), (q.foldl stepR R).length ≤ R.length + q.length := by
        intro q
        induction q with
        | nil => intro R; simp
        | cons a q ih =>
          intro R
          rw [List.foldl_cons]
          have := ih (stepR R a)
          have h3 : (stepR R a).length ≤ R.length + 1 := by
            unfold stepR
            split <;> simp
          simp only [List.length_cons]
          omega
      have := h2 (p.drop j) []
      simp at this
      omega
    have h4 := lower_f ((p.drop j).foldl stepR []).reverse (by simpa using hlen) _ 0 k (by omega) rfl (by simp; omega)
    simp only [List.drop_zero, low_heard, List.reverse_nil, List.nil_append, Int.cast_ofNat_Int] at h4
    by_cases h : y = 11
    · rw [if_pos h, if_pos (by omega), if_pos (by omega), Int.toNat_natCast, heard_all (p.drop j) (by simp; omega) (fun q hq => (hp q (List.mem_of_mem_drop hq)).1) k (by omega), h]
      simp only [Option.bind_some]
      unfold Sn.spec_sbLower.f
      rw [h4]
      simp only [Option.bind_some]
      rw [j3_f x R hR _ _ (by omega)]
      rfl
    · have e : (y == 11) = false := by rw [beq_eq_false_iff_ne]; exact h
      rw [if_neg h, e, j3_f x R hR _ _ (by omega)]
      rfl

theorem j1_f (p : List Int) (hp : ∀ x ∈ p, 0 ≤ x ∧ x < 15) (hl : p.length ≤ 60) (j : Nat) (hj : j ≤ p.length) (x : Int) (R : List Int) (hR : R.length ≤ 60) (k : Nat) (hk : 110 ≤ k) :
    Sn.spec_SentenceBreak.j1 k p (j : Int) x R.reverse = some (if tR R == 0 then false else if tR R == 11 && lowF (p.drop j) then false else if x == 14 || termB x then false else if vR R != 0 && (x == 13 || x == 6 || sepB x) then false else x != 6 && !sepB x) := by
  obtain ⟨k, rfl⟩ : ∃ m, k = m + 4 + 1 := ⟨k - 5, by omega⟩
  rw [Sn.spec_SentenceBreak.j1, behind_true R hR _ (by omega)]
  simp only [Option.bind_some]
  rcases t_at R with ⟨h1, h2⟩ | ⟨h1, h2, h3⟩
  · rw [if_pos h1, h2, j2_f p hp hl j hj x 0 _ R hR true _ (by omega) (by simp) (by simp)]
    rfl
  · rw [if_neg (by omega), if_pos h1, if_pos h2, term_f, h3]
    simp only [Option.bind_some]
    rw [j2_f p hp hl j hj x _ _ R hR _ _ (by omega) (fun _ => ⟨h1, h2⟩) (fun _ => rfl)]
    generalize rd R.reverse ((((R.dropWhile isSp).dropWhile isCl).length : Int) - 1) = y
    cases ht : termB y with
    | false => rfl
    | true =>
      have hn : (y == 0) = false := by
        simp only [termB, Bool.or_eq_true, beq_iff_eq] at ht
        rcases ht with rfl | rfl <;> rfl
      simp only [if_true, hn]
      rfl

theorem stepR_ne (R : List Int) (x : Int) : stepR R x ≠ [] := by
  unfold stepR
  split
  · rename_i h
    cases R with
    | nil => simp at h
    | cons y R => simp
  · simp
theorem hrd_ne (p : List Int) (i : Nat) (hi : i < p.length) : hrd p (i + 1) ≠ [] := by
  rw [hrd_succ p i hi]
  exact stepR_ne _ _
theorem hrd_le (p : List Int) : ∀ i, i ≤ p.length → (hrd p i).length ≤ i
  | 0, _ => by simp [hrd]
  | i + 1, h => by
    rw [hrd_succ p i (by omega)]
    have := hrd_le p i (by omega)
    unfold stepR
    split
    · omega
    · simp; omega

theorem or_and (a b c : Bool) : (a && (b || c)) = (a && b || a && c) := by cases a <;> rfl

theorem spec_f (p : List Int) (hp : ∀ x ∈ p, 0 ≤ x ∧ x < 15) (hl : p.length ≤ 60) (i : Nat) (hi : i + 1 < p.length) (k : Nat) (hk : 200 ≤ k) :
    Sn.spec_SentenceBreak.f k p ((i : Int) + 1) = some (specB (cxA p (i + 1)) (rd p (i + 1 : Nat)) (lowF (p.drop (i + 1)))) := by
  obtain ⟨k, rfl⟩ : ∃ m, k = m + 4 + 1 := ⟨k - 5, by omega⟩
  have e1 : (i : Int) + 1 = ((i + 1 : Nat) : Int) := by omega
  have e0 : wrap64 (((i + 1 : Nat) : Int) - 1) = (i : Int) := by rw [wrap_id (by omega)]; omega
  rw [e1]
  unfold Sn.spec_SentenceBreak.f
  rw [e0, if_pos (by omega), if_pos (by omega), if_pos (by omega), if_pos (by omega)]
  have hj0 : ∀ b, Sn.spec_SentenceBreak.j0 (k + 4 + 1) p ((i + 1 : Nat) : Int) (rd p i) (rd p (i + 1 : Nat)) b = some (if b then false else if sepB (rd p i) then true else if muteB (rd p (i + 1 : Nat)) then false
      else if (hrd p (i + 1)).headD (-1) == 11 && (rd p (i + 1 : Nat) == 10 || (rd p (i + 1 : Nat) == 8 && uR (hrd p (i + 1)))) then false
      else if tR (hrd p (i + 1)) == 0 then false
      else if tR (hrd p (i + 1)) == 11 && lowF (p.drop (i + 1)) then false
      else if rd p (i + 1 : Nat) == 14 || termB (rd p (i + 1 : Nat)) then false
      else if vR (hrd p (i + 1)) != 0 && (rd p (i + 1 : Nat) == 13 || rd p (i + 1 : Nat) == 6 || sepB (rd p (i + 1 : Nat))) then false
      else rd p (i + 1 : Nat) != 6 && !sepB (rd p (i + 1 : Nat))) := by
    intro b
    rw [Sn.spec_SentenceBreak.j0, sep_f, mute_f]
    have hR := hrd_le p (i + 1) (by omega)
    have hne := hrd_ne p i (by omega)
    have hh := heard_all (p.take (i + 1)) (by simp; omega) (fun q hq => (hp q (List.mem_of_mem_take hq)).1) (k + 4) (by omega)
    rw [show (p.take (i + 1)).foldl stepR [] = hrd p (i + 1) from rfl] at hh
    rw [Int.toNat_natCast, hh]
    generalize rd p (i : Int) = a
    generalize rd p ((i + 1 : Nat) : Int) = x
    have hj1 := j1_f p hp hl (i + 1) (by omega) x (hrd p (i + 1)) (by omega) (k + 4) (by omega)
    simp only [Option.bind_some]
    rw [hj1]
    generalize hrd p (i + 1) = R at hR hne ⊢
    cases b with
    | true => rfl
    | false =>
      simp only [Bool.false_eq_true, if_false]
      cases sepB a with
      | true => rfl
      | false =>
        simp only [Bool.false_eq_true, if_false]
        cases muteB x with
        | true => rfl
        | false =>
          simp only [Bool.false_eq_true, if_false]
          rw [if_pos (by omega), if_pos (by omega)]
          cases R with
          | nil => exact absurd rfl hne
          | cons h R =>
            simp only [List.length_cons] at hR
            have g1 : (((h :: R).reverse.length : Nat) : Int) = (R.length : Int) + 1 := by simp
            rw [g1, wrap_id (x := (R.length : Int) + 1 - 1) (by omega), show (R.length : Int) + 1 - 1 = (R.length : Int) by omega, if_pos (by omega), if_pos (by omega), show rd (h :: R).reverse (R.length : Int) = h from rd_mid [] R h]
            rw [List.headD_cons]
            by_cases h11 : h = 11
            · rw [if_pos h11, h11, show ((11 : Int) == 11) = true from rfl, Bool.true_and]
              by_cases h10 : x = 10
              · rw [if_pos h10, h10]; rfl
              · have e10 : (x == 10) = false := by rw [beq_eq_false_iff_ne]; exact h10
                rw [if_neg h10, e10, Bool.false_or]
                by_cases h8 : x = 8
                · rw [if_pos h8, h8, show ((8 : Int) == 8) = true from rfl, Bool.true_and]
                  cases R with
                  | nil => rw [if_neg (by simp)]; rfl
                  | cons y R =>
                    have g2 : (((y :: R).length : Nat) : Int) = (R.length : Int) + 1 := by simp
                    have hRl : R.length ≤ 60 := by simp at hR; omega
                    rw [g2, if_pos (by omega), wrap_id (by omega), show (R.length : Int) + 1 + 1 - 2 = (R.length : Int) by omega, if_pos (by omega), if_pos (by omega), show rd (11 :: y :: R).reverse (R.length : Int) = y from rd_mid [11] R y]
                    rw [show k + 4 = (k + 1) + 3 by omega, among2]
                    simp only [Option.bind_some]
                    rw [show uR (11 :: y :: R) = (y == 7 || y == 8) from rfl, Bool.or_comm (y == 8)]
                    cases (y == 7 || y == 8) <;> rfl
                · have e8 : (x == 8) = false := by rw [beq_eq_false_iff_ne]; exact h8
                  rw [if_neg h8, e8]; rfl
            · have e11 : (h == 11) = false := by rw [beq_eq_false_iff_ne]; exact h11
              rw [if_neg h11, e11]; rfl
  rw [hj0, hj0]
  unfold specB
  rw [show (cxA p (i + 1)).a = rd p i by
    show lastK p (i + 1) = _
    unfold lastK
    rw [if_neg (by omega), show ((i + 1 : Nat) : Int) - 1 = (i : Int) by omega]]
  by_cases h1 : rd p i = 1
  · rw [if_pos h1, h1]; rfl
  · have e : (rd p i == 1) = false := by rw [beq_eq_false_iff_ne]; exact h1
    rw [if_neg h1, e]; rfl

theorem open_f (p : List Int) (hp : ∀ x ∈ p, 0 ≤ x ∧ x < 15) (hl : p.length ≤ 60) (i : Nat) (hi : i + 1 < p.length) (k : Nat) (hk : 200 ≤ k) :
    Sn.spec_SentenceOpen.f k p ((i : Int) + 1) = some (openB (cxA p (i + 1)) (rd p (i + 1 : Nat))) := by
  obtain ⟨k, rfl⟩ : ∃ m, k = m + 1 + 1 := ⟨k - 2, by omega⟩
  have hterm : ∀ x, Sn.spec_sbTerm.f (k + 1) x = some (termB x) := by
    intro x
    obtain ⟨m, hm⟩ : ∃ m, k + 1 = m + 4 := ⟨k - 3, by omega⟩
    rw [hm, term_f]
  have hsep : ∀ x, Sn.spec_sbSep.f (k + 1) x = some (sepB x) := by
    intro x
    obtain ⟨m, hm⟩ : ∃ m, k + 1 = m + 4 := ⟨k - 3, by omega⟩
    rw [hm, sep_f]
  have e1 : (i : Int) + 1 = ((i + 1 : Nat) : Int) := by omega
  have e0 : wrap64 (((i + 1 : Nat) : Int) - 1) = (i : Int) := by rw [wrap_id (by omega)]; omega
  rw [e1]
  unfold Sn.spec_SentenceOpen.f
  rw [e0, if_pos (by omega), if_pos (by omega), if_pos (by omega), if_pos (by omega)]
  have hj1 : ∀ b, Sn.spec_SentenceOpen.j1 (k + 1) p ((i + 1 : Nat) : Int) b = some (if b then false else (hrd p (i + 1)).headD (-1) == 6 && tR (hrd p (i + 1)) == 12) := by
    intro b
    rw [Sn.spec_SentenceOpen.j1]
    cases b with
    | true => rfl
    | false =>
      have hR := hrd_le p (i + 1) (by omega)
      have hne := hrd_ne p i (by omega)
      have hh := heard_all (p.take (i + 1)) (by simp; omega) (fun q hq => (hp q (List.mem_of_mem_take hq)).1) k (by omega)
      rw [show (p.take (i + 1)).foldl stepR [] = hrd p (i + 1) from rfl] at hh
      simp only [Bool.false_eq_true, if_false]
      rw [if_pos (by omega), if_pos (by omega), Int.toNat_natCast, hh]
      generalize hrd p (i + 1) = R at hR hne ⊢
      simp only [Option.bind_some]
      rw [behind_true R (by omega) _ (by omega)]
      simp only [Option.bind_some]
      have ht := t_at R
      generalize (((R.dropWhile isSp).dropWhile isCl).length : Int) - 1 = z at ht ⊢
      cases R with
      | nil => exact absurd rfl hne
      | cons h R =>
        simp only [List.length_cons] at hR
        have g1 : (((h :: R).reverse.length : Nat) : Int) = (R.length : Int) + 1 := by simp
        rw [g1] at ht ⊢
        rw [wrap_id (x := (R.length : Int) + 1 - 1) (by omega), show (R.length : Int) + 1 - 1 = (R.length : Int) by omega, if_pos (by omega), if_pos (by omega), show rd (h :: R).reverse (R.length : Int) = h from rd_mid [] R h]
        rw [List.headD_cons]
        by_cases h6 : h = 6
        · rw [if_pos h6, h6, show ((6 : Int) == 6) = true from rfl, Bool.true_and]
          rw [h6] at ht
          rcases ht with ⟨h1, h2⟩ | ⟨h1, h2, h3⟩
          · rw [if_neg (by omega), h2]; rfl
          · rw [if_pos h1, if_pos h1, if_pos h2, h3]
            generalize rd (6 :: R).reverse z = y
            by_cases hy : termB y = true
            · rw [if_pos hy]
            · rw [if_neg hy]
              rw [Bool.not_eq_true] at hy
              have : (y == 12) = false := by
                simp only [termB, Bool.or_eq_false_iff] at hy
                exact hy.2
              rw [this]; rfl
        · have e6 : (h == 6) = false := by rw [beq_eq_false_iff_ne]; exact h6
          rw [if_neg h6, e6]; rfl
  have hj0 : ∀ b, Sn.spec_SentenceOpen.j0 (k + 1 + 1) p ((i + 1 : Nat) : Int) (rd p i) (rd p (i + 1 : Nat)) b = some (if b then tR (hrd p i) != 0 else if !sepB (rd p (i + 1 : Nat)) || sepB (rd p i) then false else (hrd p (i + 1)).headD (-1) == 6 && tR (hrd p (i + 1)) == 12) := by
    intro b
    rw [Sn.spec_SentenceOpen.j0]
    cases b with
    | true =>
      have hR := hrd_le p i (by omega)
      have hh := heard_all (p.take i) (by simp; omega) (fun q hq => (hp q (List.mem_of_mem_take hq)).1) (k + 1) (by omega)
      rw [show (p.take i).foldl stepR [] = hrd p i from rfl] at hh
      rw [if_pos rfl, e0, if_pos (by omega), if_pos (by omega), Int.toNat_natCast, hh]
      generalize hrd p i = R at hR ⊢
      simp only [Option.bind_some]
      rw [behind_true R (by omega) _ (by omega)]
      simp only [Option.bind_some]
      have ht := t_at R
      generalize (((R.dropWhile isSp).dropWhile isCl).length : Int) - 1 = z at ht ⊢
      rcases ht with ⟨h1, h2⟩ | ⟨h1, h2, h3⟩
      · rw [if_neg (by omega), h2]; rfl
      · rw [if_pos h1, if_pos h1, if_pos h2, h3, hterm]
        simp only [Option.bind_some, term_ne, if_true]
    | false =>
      simp only [Bool.false_eq_true, if_false]
      simp only [hj1, hsep, Option.bind_some]
      cases sepB (rd p (i + 1 : Nat)) <;> cases sepB (rd p i) <;> rfl
  rw [hj0, hj0]
  unfold openB
  rw [show (cxA p (i + 1)).a = rd p i by
    show lastK p (i + 1) = _
    unfold lastK
    rw [if_neg (by omega), show ((i + 1 : Nat) : Int) - 1 = (i : Int) by omega]]
  by_cases h1 : rd p i = 1
  · rw [if_pos h1]
    show _ = some (if (rd p i == 1 && rd p (i + 1 : Nat) == 2) = true then (rd p i == 1 && tR (hrd p i) != 0) else _)
    rw [h1]; rfl
  · have e : (rd p i == 1) = false := by rw [beq_eq_false_iff_ne]; exact h1
    rw [if_neg h1, e]; rfl

/-- All that the walk of the law wants. -/
theorem all (l : List Int) (hl : l.length ≤ 140737488351232) (hw : ∀ x ∈ l, 0 ≤ x ∧ x ≤ 255) :
    ∃ (p : List Int) (k : Nat), Wd.laws_row.f k l 15 = some p ∧ p.length ≤ 60 ∧ (∀ x ∈ p, 0 ≤ x ∧ x < 15) ∧
      (∀ i : Nat, i + 1 < p.length → ∃ o b, Sn.spec_SentenceOpen.f k p ((i : Int) + 1) = some o ∧ Sn.spec_SentenceBreak.f k p ((i : Int) + 1) = some b ∧ (o = false → b = cutS p (i + 1))) := by
  obtain ⟨p, h1, h2, h3⟩ := row_ends l hl hw 15 (by omega) (by omega) l.length (l.length + 200) [] 0 (by omega) (by omega) (by omega) (by simp) (by simp) (by simp)
  refine ⟨p, l.length + 200, h1, h2, h3, fun i hi => ⟨_, _, open_f p h3 h2 i hi _ (by omega), spec_f p h3 h2 i hi _ (by omega), fun ho => ?_⟩⟩
  rw [cut_spec h3 i hi ho]
end Go.Proofs.Ytnanfoahimccpaa.Sb
