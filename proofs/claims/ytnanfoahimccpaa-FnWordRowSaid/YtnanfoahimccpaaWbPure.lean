/- The plain law of FnWordRow. No program in sight. -/
import Derived.Test.YtnanfoahimccpaaWbCtx
import Derived.Test.YtnanfoahimccpaaWbLaw
namespace Go.Proofs.Ytnanfoahimccpaa.Wb
open Go.RowKit Go.Proofs.YtnanfoahimccpaaW.PrintWords Go.Proofs.Ytnanfoahimccpaa.Wd

/-! ### the row of kinds -/
theorem row_ends (l : List Int) (hl : l.length ≤ 140737488351232) (hw : ∀ x ∈ l, 0 ≤ x ∧ x ≤ 255) (m : Int) (h0 : 0 < m) (hm : m ≤ 256) (d : Nat) :
    ∀ (k : Nat) (out : List Int) (i : Nat), i ≤ l.length → l.length - i = d → d < k → out.length ≤ i → out.length ≤ 60 → (∀ x ∈ out, 0 ≤ x ∧ x < m) →
      ∃ p, laws_row.l0 k m out l (l.length : Int) (i : Int) = some p ∧ p.length ≤ 60 ∧ ∀ x ∈ p, 0 ≤ x ∧ x < m := by
  induction d with
  | zero =>
    intro k out i h1 h2 hk _ h4 h5
    obtain ⟨k, rfl⟩ : ∃ m, k = m + 1 := ⟨k - 1, by omega⟩
    refine ⟨out, ?_, h4, h5⟩
    simp only [laws_row.l0]
    rw [if_neg (by omega)]
  | succ d ih =>
    intro k out i h1 h2 hk h3 h4 h5
    obtain ⟨k, rfl⟩ : ∃ m, k = m + 1 := ⟨k - 1, by omega⟩
    have hlt : i < l.length := by omega
    have hx : 0 ≤ rd l i ∧ rd l i ≤ 255 := by
      have e : rd l i = l[i] := by simp [rd, hlt]
      rw [e]
      exact hw _ (List.getElem_mem hlt)
    have hwi : wrap64 ((i : Int) + 1) = ((i + 1 : Nat) : Int) := by rw [wrap_id (by omega)]; omega
    simp only [laws_row.l0]
    rw [if_pos (by omega), if_pos (by omega), if_pos (by omega)]
    by_cases h60 : (i : Int) < 60
    · rw [if_pos h60, if_neg (by omega), if_pos (by omega), hwi]
      refine ih k _ (i + 1) (by omega) (by omega) (by omega) (by simp; omega) (by simp; omega) ?_
      intro x hxm
      rcases List.mem_append.1 hxm with h | h
      · exact h5 x h
      · rw [List.mem_singleton.1 h, wrap_id (by omega), Int.tmod_eq_emod_of_nonneg hx.1]
        exact ⟨Int.emod_nonneg _ (by omega), Int.emod_lt_of_pos _ h0⟩
    · rw [if_neg h60, hwi]
      exact ih k out (i + 1) (by omega) (by omega) (by omega) (by omega) h4 h5

/-! ### what counts of a kind -/
theorem cls_let (x : Int) : letB (repr (clsB x)) = letB x := by
  unfold clsB letB; (repeat' split) <;> simp_all [repr]
theorem cls_9 (x : Int) : (repr (clsB x) == 9) = (x == 9) := by
  unfold clsB; (repeat' split) <;> simp_all [repr]
theorem cls_16 (x : Int) : (repr (clsB x) == 16) = (x == 16) := by
  unfold clsB; (repeat' split) <;> simp_all [repr]
theorem cls_lt (x : Int) : clsB x ∈ ([0, 1, 2, 3] : List Nat) := by
  unfold clsB; (repeat' split) <;> simp

/-- The row's kinds behind the element. -/
def fcl : List Int → Nat
  | [] => 0
  | x :: l => if muteB x then fcl l else clsB x
theorem fcl_lt : ∀ l, fcl l ∈ ([0, 1, 2, 3] : List Nat)
  | [] => by simp [fcl]
  | x :: l => by
    unfold fcl
    split
    · exact fcl_lt l
    · exact cls_lt x

def norm (f : Int) : Int := if f == 25 || f == 27 || f == 21 then f else -1
theorem next_norm (s p f : Int) : next s p f = next s p (norm f) := by
  have e1 : (f == 25) = (norm f == 25) := by unfold norm; split <;> simp_all
  have e2 : (f == 27) = (norm f == 27) := by unfold norm; split <;> simp_all
  have e3 : (f == 21) = (norm f == 21) := by unfold norm; split <;> simp_all
  unfold next
  rw [e1, e2, e3]
theorem kind_facts : ∀ k : Fin 20, ign (numOf k.val) = muteB k.val ∧ norm (numOf k.val) = numC (clsB k.val) := by decide +kernel
theorem kind_fact {x : Int} (h : 0 ≤ x ∧ x < 20) : ign (numOf x) = muteB x ∧ norm (numOf x) = numC (clsB x) := by
  have := kind_facts ⟨x.toNat, by omega⟩
  simpa [Int.toNat_of_nonneg h.1] using this
theorem far_norm : ∀ (l : List Int), (∀ x ∈ l, 0 ≤ x ∧ x < 20) → norm (far (nums l)) = numC (fcl l)
  | [], _ => rfl
  | x :: l, h => by
    have hx := kind_fact (h x List.mem_cons_self)
    show norm (far (numOf x :: nums l)) = _
    unfold far fcl
    rw [hx.1]
    split
    · exact far_norm l fun y hy => h y (List.mem_cons_of_mem _ hy)
    · exact hx.2

/-! ### the contexts of a row -/
def cxA (p : List Int) : Nat → Cx
  | 0 => startC
  | i + 1 => stepC (cxA p i) (rd p i)
/-- The place of what stands last, one too great; 0: none. -/
def jA (p : List Int) : Nat → Nat
  | 0 => 0
  | i + 1 => if standsB (cxA p i) (rd p i) then i + 1 else jA p i

theorem kind_mem {x : Int} (h : 0 ≤ x ∧ x < 20) : x ∈ kindsN := by
  have : ∀ k : Fin 20, ((k.val : Int)) ∈ kindsN := by decide +kernel
  have := this ⟨x.toNat, by omega⟩
  simpa [Int.toNat_of_nonneg h.1] using this

theorem mem_allC {c : Cx} (h1 : c.a ∈ (-1) :: kindsN) (h2 : c.a2 ∈ ([0, 1, 2, 3] : List Nat)) (h3 : c.l ∈ (-1) :: kindsN) (h : goodC c = true) : c ∈ allC := by
  obtain ⟨a, a2, r, l, z⟩ := c
  refine List.mem_filter.2 ⟨List.mem_flatMap.2 ⟨a, h1, List.mem_flatMap.2 ⟨a2, h2, List.mem_flatMap.2 ⟨r, ?_, List.mem_flatMap.2 ⟨l, h3, List.mem_map.2 ⟨z, ?_, rfl⟩⟩⟩⟩⟩, h⟩
  · cases r <;> simp [bools]
  · cases z <;> simp [bools]

theorem mem_parts {c : Cx} (h : c ∈ allC) : c.a ∈ (-1) :: kindsN ∧ c.a2 ∈ ([0, 1, 2, 3] : List Nat) ∧ c.l ∈ (-1) :: kindsN := by
  obtain ⟨h, _⟩ := List.mem_filter.1 h
  obtain ⟨a, h1, h⟩ := List.mem_flatMap.1 h
  obtain ⟨a2, h2, h⟩ := List.mem_flatMap.1 h
  obtain ⟨r, _, h⟩ := List.mem_flatMap.1 h
  obtain ⟨l, h3, h⟩ := List.mem_flatMap.1 h
  obtain ⟨z, _, rfl⟩ := List.mem_map.1 h
  exact ⟨h1, h2, h3⟩

theorem stepC_mem {c : Cx} {x : Int} (hc : c ∈ allC) (hx : 0 ≤ x ∧ x < 20) : stepC c x ∈ allC := by
  have hg := List.all_eq_true.1 (List.all_eq_true.1 good_step c hc) x (kind_mem hx)
  obtain ⟨h1, h2, h3⟩ := mem_parts hc
  have hk := List.mem_cons_of_mem (-1 : Int) (kind_mem hx)
  refine mem_allC ?_ ?_ ?_ hg
  · unfold stepC; split
    · exact hk
    · exact h1
  · unfold stepC; split
    · show (if midB x then clsB c.a else 0) ∈ _
      split
      · exact cls_lt _
      · simp
    · exact h2
  · unfold stepC; split <;> exact hk
theorem start_mem : startC ∈ allC := mem_allC (by decide) (by decide) (by decide) (by decide +kernel)

theorem last_kind (p : List Int) (i : Nat) : (cxA p (i + 1)).l = rd p i := by
  show (stepC (cxA p i) (rd p i)).l = _
  unfold stepC
  split <;> rfl

section
variable {p : List Int} (hp : ∀ x ∈ p, 0 ≤ x ∧ x < 20)
include hp
theorem cx_mem : ∀ i, i ≤ p.length → cxA p i ∈ allC
  | 0, _ => start_mem
  | i + 1, h => stepC_mem (cx_mem i (by omega)) (rd_kind hp i (by omega))

omit hp in
theorem drop_fcl (i : Nat) (hi : i < p.length) : (if muteB (rd p i) then fcl (p.drop i) != fcl (p.drop (i + 1)) else fcl (p.drop i) != clsB (rd p i)) = false := by
  have e : p.drop i = rd p i :: p.drop (i + 1) := by
    rw [List.drop_eq_getElem_cons hi]
    simp [rd, hi]
  rw [e]
  generalize rd p i = x
  rw [show fcl (x :: p.drop (i + 1)) = if muteB x then fcl (p.drop (i + 1)) else clsB x from rfl]
  split <;> simp_all

theorem next_far (s : Int) (x : Int) (j : Nat) : next s x (far ((nums p).drop j)) = next s x (numC (fcl (p.drop j))) := by
  rw [next_norm]
  have : (nums p).drop j = nums (p.drop j) := by simp [nums, List.map_drop]
  rw [this, far_norm _ (fun x hx => hp x (List.mem_of_mem_drop hx))]

theorem step_ok (i : Nat) (hi : i < p.length) (hs : stW p i ∈ stsC (cxA p i) (fcl (p.drop i))) :
    okC (cxA p i) (fcl (p.drop i)) (stW p i) (rd p i) (fcl (p.drop (i + 1))) = true := by
  have h := List.all_eq_true.1 (List.all_eq_true.1 (List.all_eq_true.1 (List.all_eq_true.1 (List.all_eq_true.1 ok_step _ (cx_mem hp i (by omega))) _ (fcl_lt (p.drop i))) _ hs) _ (kind_mem (rd_kind hp i hi))) _ (fcl_lt (p.drop (i + 1)))
  rwa [drop_fcl i hi, Bool.false_or] at h

theorem st_ok : ∀ i, i ≤ p.length → stW p i ∈ stsC (cxA p i) (fcl (p.drop i))
  | 0, _ => by simp [stW, cxA, startC, stsC]
  | i + 1, h => by
    have h1 := step_ok hp i (by omega) (st_ok i (by omega))
    unfold okC at h1
    simp only [Bool.and_eq_true, List.any_eq_true, beq_iff_eq] at h1
    obtain ⟨⟨t, ht, he⟩, _⟩ := h1
    show (next (stW p i) (numOf (rd p i)) (far ((nums p).drop (i + 1)))).1 ∈ stsC (stepC (cxA p i) (rd p i)) _
    rw [next_far hp, he]
    exact ht

/-- The cut and the reference. -/
theorem cut_spec (i : Nat) (hi : i + 1 < p.length) (ho : openB (cxA p (i + 1)) (rd p (i + 1 : Nat)) = false) : cutW p (i + 1) = specB (cxA p (i + 1)) (rd p (i + 1 : Nat)) (repr (fcl (p.drop (i + 2)))) := by
  have h1 := step_ok hp (i + 1) hi (st_ok hp (i + 1) (by omega))
  unfold okC at h1
  rw [Bool.and_eq_true, ho, Bool.or_false] at h1
  have hl : ((cxA p (i + 1)).l == -1) = false := by
    rw [beq_eq_false_iff_ne, last_kind]
    have := rd_kind hp i (by omega)
    omega
  rw [hl, Bool.false_or, beq_iff_eq] at h1
  unfold cutW
  rw [next_far hp]
  exact h1.2
end

/-! ### the reference -/
theorem rd_q (p : List Int) (i : Int) : rd_T32 (qOf p) i = pt (rd p i) := by
  show (p.map pt).getD i.toNat z32 = pt (p.getD i.toNat 0)
  rw [List.getD_eq_getElem?_getD, List.getD_eq_getElem?_getD, List.getElem?_map]
  cases p[i.toNat]? <;> rfl
theorem len_q (p : List Int) : (qOf p).length = p.length := by simp [qOf]

theorem jA_le (p : List Int) : ∀ i, jA p i ≤ i
  | 0 => Nat.le_refl _
  | i + 1 => by
    unfold jA
    have := jA_le p i
    split <;> omega
theorem jA_pos (p : List Int) : ∀ i, 0 < jA p (i + 1)
  | 0 => by
    have : standsB (cxA p 0) (rd p (0 : Nat)) = true := by simp [cxA, startC, standsB]
    show 0 < if standsB (cxA p 0) (rd p (0 : Nat)) then 0 + 1 else jA p 0
    rw [if_pos this]
    omega
  | i + 1 => by
    show 0 < if standsB (cxA p (i + 1)) (rd p (i + 1 : Nat)) then i + 1 + 1 else jA p (i + 1)
    have := jA_pos p i
    split <;> omega

theorem last_at (p : List Int) : ∀ i, (cxA p i).l = if i = 0 then -1 else rd p ((i : Int) - 1)
  | 0 => rfl
  | i + 1 => by
    rw [last_kind, if_neg (by omega), show ((i + 1 : Nat) : Int) - 1 = (i : Int) by omega]

theorem a_at (p : List Int) : ∀ i, (cxA p i).a = if jA p i = 0 then -1 else rd p ((jA p i : Int) - 1)
  | 0 => rfl
  | i + 1 => by
    show (stepC (cxA p i) (rd p i)).a = _
    unfold stepC jA
    split
    · show rd p i = if i + 1 = 0 then -1 else rd p (((i + 1 : Nat) : Int) - 1)
      rw [if_neg (by omega), show ((i + 1 : Nat) : Int) - 1 = (i : Int) by omega]
    · exact a_at p i
theorem a2_at (p : List Int) : ∀ i, (cxA p i).a2 = if midB (cxA p i).a then clsB (cxA p (jA p i - 1)).a else 0
  | 0 => rfl
  | i + 1 => by
    show (stepC (cxA p i) (rd p i)).a2 = if midB (stepC (cxA p i) (rd p i)).a then _ else 0
    unfold stepC jA
    split
    · rfl
    · exact a2_at p i
theorem r_at (p : List Int) : ∀ i, (cxA p i).r = ((cxA p i).a == 7 && !(cxA p (jA p i - 1)).r)
  | 0 => rfl
  | i + 1 => by
    show (stepC (cxA p i) (rd p i)).r = ((stepC (cxA p i) (rd p i)).a == 7 && _)
    unfold stepC jA
    split
    · rfl
    · exact r_at p i
theorem z_at (p : List Int) (i : Nat) : (cxA p (i + 1)).z = (muteB (rd p i) && (rd p i == 5 || (cxA p i).z)) := by
  show (stepC (cxA p i) (rd p i)).z = _
  unfold stepC
  split <;> rfl

theorem ahead_f (p : List Int) (hp : ∀ x ∈ p, 0 ≤ x ∧ x < 20) (hl : p.length ≤ 60) : ∀ i k, i ≤ p.length → i + 6 ≤ k → spec_wbAhead.l0 k (qOf p) ((i : Int) - 1) = some ((jA p i : Int) - 1) := by
  intro i
  induction i with
  | zero =>
    intro k _ hk
    obtain ⟨k, rfl⟩ : ∃ m, k = m + 1 := ⟨k - 1, by omega⟩
    simp only [spec_wbAhead.l0]
    rw [if_neg (by omega)]
    rfl
  | succ i ih =>
    intro k hi hk
    obtain ⟨k, rfl⟩ : ∃ m, k = m + 4 + 1 := ⟨k - 5, by omega⟩
    have e : ((i + 1 : Nat) : Int) - 1 = (i : Int) := by omega
    rw [e]
    rw [spec_wbAhead.l0]
    simp only [rd_q, len_q, pt]
    rw [if_pos (by omega), if_pos (by omega), if_pos (by omega), mute_f]
    simp only [Option.bind_some]
    have hla := last_at p i
    unfold jA standsB
    rw [hla]
    cases hm : muteB (rd p i) with
    | false =>
      rw [if_neg (by simp), if_pos (by simp)]
      congr 1; omega
    | true =>
      rw [if_pos rfl]
      by_cases h0 : i = 0
      · subst h0
        rw [if_pos (by omega)]
        simp
      · rw [if_neg (by omega), if_neg h0, wrap_id (by omega), if_pos (by omega), if_pos (by omega), newline_f]
        simp only [Option.bind_some]
        have hne : (rd p ((i : Int) - 1) == -1 || nlB (rd p ((i : Int) - 1))) = nlB (rd p ((i : Int) - 1)) := by
          have e2 : (i : Int) - 1 = ((i - 1 : Nat) : Int) := by omega
          have h := rd_kind hp (i - 1) (by omega)
          rw [e2]
          have : (rd p ((i - 1 : Nat) : Int) == -1) = false := by rw [beq_eq_false_iff_ne]; omega
          rw [this, Bool.false_or]
        simp only [Bool.not_true, Bool.false_or, hne]
        cases hn : nlB (rd p ((i : Int) - 1)) with
        | true => simp only [if_true]; congr 1; omega
        | false => simp only [Bool.false_eq_true, if_false]; exact ih (k + 4) (by omega) (by omega)

theorem kind_ahead (p : List Int) (hp : ∀ x ∈ p, 0 ≤ x ∧ x < 20) (hl : p.length ≤ 60) (i k : Nat) (hi : i ≤ p.length) (hk : 66 ≤ k) : spec_wbKindAhead.f k (qOf p) (i : Int) = some ((cxA p i).a, (jA p i : Int) - 1) := by
  unfold spec_wbKindAhead.f spec_wbAhead.f
  rw [wrap_id (by omega), ahead_f p hp hl i k hi (by omega)]
  simp only [Option.bind_some]
  rw [a_at]
  have := jA_le p i
  by_cases h : jA p i = 0
  · rw [if_pos (by omega), if_pos h, h]
    try rfl
  · rw [if_neg (by omega), if_neg h, if_pos (by omega), len_q, if_pos (by omega), rd_q]
    try rfl

theorem run_f (p : List Int) (hp : ∀ x ∈ p, 0 ≤ x ∧ x < 20) (hl : p.length ≤ 60) : ∀ (d i : Nat), i < d → ∀ (k n : Nat), i ≤ p.length → i + 68 ≤ k → n + i ≤ 200 →
    ∃ m : Nat, spec_WordBreak.l0 k (qOf p) (n : Int) (cxA p i).a ((jA p i : Int) - 1) = some (Int.tmod ((n + m : Nat) : Int) 2 == 0) ∧ (m % 2 == 1) = (cxA p i).r := by
  intro d
  induction d with
  | zero => intro i h; omega
  | succ d ih =>
    intro i hd k n hi hk hn
    obtain ⟨k, rfl⟩ : ∃ m, k = m + 1 := ⟨k - 1, by omega⟩
    simp only [spec_WordBreak.l0]
    by_cases h7 : (cxA p i).a = 7
    · rw [if_pos h7]
      have h0 : jA p i ≠ 0 := by
        intro h
        have := a_at p i
        rw [if_pos h, h7] at this
        omega
      have hle := jA_le p i
      have e : (jA p i : Int) - 1 = ((jA p i - 1 : Nat) : Int) := by omega
      rw [e, kind_ahead p hp hl _ _ (by omega) (by omega)]
      simp only [Option.bind_some]
      rw [wrap_id (by omega)]
      obtain ⟨m, h1, h2⟩ := ih (jA p i - 1) (by omega) k (n + 1) (by omega) (by omega) (by omega)
      refine ⟨m + 1, ?_, ?_⟩
      · rw [show (n : Int) + 1 = ((n + 1 : Nat) : Int) by omega, h1]
        congr 4
        omega
      · rw [r_at, ← h2, h7]
        rcases Nat.mod_two_eq_zero_or_one m with h | h
        · have : (m + 1) % 2 = 1 := by omega
          rw [h, this]; rfl
        · have : (m + 1) % 2 = 0 := by omega
          rw [h, this]; rfl
    · rw [if_neg h7]
      refine ⟨0, rfl, ?_⟩
      rw [r_at]
      have : ((cxA p i).a == 7) = false := by rw [beq_eq_false_iff_ne]; exact h7
      rw [this]; rfl

theorem behind_f (p : List Int) (hl : p.length ≤ 60) (d : Nat) : ∀ (j k : Nat), j ≤ p.length → p.length - j = d → 1 ≤ j → d + 6 ≤ k → nlB (rd p ((j : Int) - 1)) = false →
    ∃ b, spec_wbBehind.l0 k (qOf p) (j : Int) = some b ∧ clsB b = fcl (p.drop j) := by
  induction d with
  | zero =>
    intro j k h1 h2 h3 hk hn
    obtain ⟨k, rfl⟩ : ∃ m, k = m + 1 := ⟨k - 1, by omega⟩
    simp only [spec_wbBehind.l0, len_q]
    rw [if_neg (by omega), List.drop_eq_nil_of_le (by omega)]
    exact ⟨_, rfl, rfl⟩
  | succ d ih =>
    intro j k h1 h2 h3 hk hn
    obtain ⟨k, rfl⟩ : ∃ m, k = m + 4 + 1 := ⟨k - 5, by omega⟩
    have e : p.drop j = rd p j :: p.drop (j + 1) := by
      rw [List.drop_eq_getElem_cons (by omega)]
      simp [rd, show j < p.length by omega]
    rw [spec_wbBehind.l0]
    simp only [len_q, rd_q, pt]
    rw [if_pos (by omega), if_pos (by omega), mute_f, e]
    simp only [Option.bind_some]
    rw [show fcl (rd p j :: p.drop (j + 1)) = if muteB (rd p j) then fcl (p.drop (j + 1)) else clsB (rd p j) from rfl]
    cases hm : muteB (rd p j) with
    | true =>
      rw [wrap_id (by omega), wrap_id (by omega), if_pos rfl, if_pos (by omega), if_pos (by omega), newline_f, hn]
      simp only [Option.bind_some, Bool.false_eq_true, if_false, if_true]
      refine ih (j + 1) (k + 4) (by omega) (by omega) (by omega) (by omega) ?_
      rw [show ((j + 1 : Nat) : Int) - 1 = (j : Int) by omega]
      generalize rd p (j : Int) = x at hm
      simp only [muteB, Bool.or_eq_true, beq_iff_eq] at hm
      rcases hm with (rfl | rfl) | rfl <;> rfl
    | false => exact ⟨_, rfl, rfl⟩
theorem behind_nl (p : List Int) (hl : p.length ≤ 60) (j k : Nat) (h1 : 1 ≤ j) (h2 : j ≤ p.length) (hk : 6 ≤ k) (hn : nlB (rd p ((j : Int) - 1)) = true) :
    ∃ b, spec_wbBehind.l0 k (qOf p) (j : Int) = some b := by
  obtain ⟨k, rfl⟩ : ∃ m, k = m + 4 + 1 := ⟨k - 5, by omega⟩
  rw [spec_wbBehind.l0]
  simp only [len_q, rd_q, pt]
  by_cases h : j < p.length
  · rw [if_pos (by omega), if_pos (by omega), mute_f]
    simp only [Option.bind_some]
    split
    · rw [wrap_id (by omega), if_pos (by omega), if_pos (by omega), newline_f, hn]
      exact ⟨_, rfl⟩
    · exact ⟨_, rfl⟩
  · rw [if_neg (by omega)]
    exact ⟨_, rfl⟩

theorem lettersB_cls (a2 a b b2 : Int) : lettersB a2 a b b2 = lettersB (repr (if midB a then clsB a2 else 0)) a b (repr (clsB b2)) := by
  unfold lettersB
  rw [cls_let, cls_9]
  split
  · rw [cls_let, cls_9]
  · rename_i h
    have h1 : (a == 14 || quoB a) = false := by
      rw [Bool.eq_false_iff]; intro h'
      apply h
      simp only [quoB, Bool.or_eq_true, beq_iff_eq] at h'
      rcases h' with rfl | rfl | rfl <;> rfl
    have h2 : (a == 12) = false := by
      rw [beq_eq_false_iff_ne]; rintro rfl
      exact h rfl
    rw [h1, h2]
    simp
theorem numbersB_cls (a2 a b b2 : Int) : numbersB a2 a b b2 = numbersB (repr (if midB a then clsB a2 else 0)) a b (repr (clsB b2)) := by
  unfold numbersB
  rw [cls_16]
  split
  · rw [cls_16]
  · rename_i h
    have h1 : (a == 15 || quoB a) = false := by
      rw [Bool.eq_false_iff]; intro h'
      apply h
      simp only [quoB, Bool.or_eq_true, beq_iff_eq] at h'
      rcases h' with rfl | rfl | rfl <;> rfl
    rw [h1]
    simp

theorem near_nl (a b : Int) (bp : Bool) (h1 : (nearB a b bp).1 = false) (h2 : (nearB a b bp).2 = false) : nlB b = false := by
  unfold nearB at h1 h2
  split at h1
  · simp at h1
  · rename_i h
    rw [if_neg h] at h2
    split at h1
    · rename_i h3
      rw [if_pos h3] at h2
      simp at h2
    · rename_i h3
      simp only [Bool.or_eq_true, not_or] at h3
      simpa using h3.2

theorem word_f (p : List Int) (hp : ∀ x ∈ p, 0 ≤ x ∧ x < 20) (hl : p.length ≤ 60) (i : Nat) (hi : i + 1 < p.length) (k : Nat) (hk : 200 ≤ k) :
    spec_WordBreak.f k (qOf p) ((i : Int) + 1) = some (specB (cxA p (i + 1)) (rd p (i + 1 : Nat)) (repr (fcl (p.drop (i + 2))))) := by
  obtain ⟨k, rfl⟩ : ∃ m, k = m + 11 := ⟨k - 11, by omega⟩
  have e1 : (i : Int) + 1 = ((i + 1 : Nat) : Int) := by omega
  have e0 : wrap64 (((i + 1 : Nat) : Int) - 1) = (i : Int) := by rw [wrap_id (by omega)]; omega
  rw [e1]
  unfold spec_WordBreak.f
  rw [e0, len_q, if_pos (by omega), if_pos (by omega), if_pos (by omega), if_pos (by omega), rd_q, rd_q]
  simp only [pt]
  rw [show k + 11 = (k + 3) + 8 by omega, near_f]
  simp only [Option.bind_some]
  unfold specB
  rw [last_kind]
  have hnl := near_nl (rd p i) (rd p (i + 1 : Nat)) (rd p (i + 1 : Nat) == 19)
  generalize nearB (rd p i) (rd p (i + 1 : Nat)) (rd p (i + 1 : Nat) == 19) = n at hnl ⊢
  obtain ⟨n1, n2⟩ := n
  rw [show k + 3 + 8 = k + 10 + 1 by omega]
  cases n1 with
  | true => simp [spec_WordBreak.j0]
  | false =>
    cases n2 with
    | true => simp [spec_WordBreak.j0]
    | false =>
      have hn := hnl rfl rfl
      simp only [Bool.false_eq_true, if_false]
      rw [spec_WordBreak.j0]
      simp only [Bool.false_eq_true, if_false]
      rw [kind_ahead p hp hl _ _ (by omega) (by omega)]
      simp only [Option.bind_some]
      have hj := jA_pos p i
      have hjl := jA_le p (i + 1)
      have e2 : (jA p (i + 1) : Int) - 1 = ((jA p (i + 1) - 1 : Nat) : Int) := by omega
      rw [e2, kind_ahead p hp hl _ _ (by omega) (by omega)]
      simp only [Option.bind_some]
      rw [if_pos (by omega), len_q, if_pos (by omega)]
      unfold spec_wbBehind.f
      rw [wrap_id (by omega)]
      obtain ⟨b2, hb, hc⟩ := behind_f p hl (p.length - (i + 2)) (i + 2) (k + 10) (by omega) rfl (by omega) (by omega) (by rw [show ((i + 2 : Nat) : Int) - 1 = ((i + 1 : Nat) : Int) by omega]; exact hn)
      rw [show ((i + 1 : Nat) : Int) + 1 = ((i + 2 : Nat) : Int) by omega, hb]
      simp only [Option.bind_some]
      rw [rd_q]
      simp only [pt]
      rw [show k + 10 = (k + 2) + 8 by omega, letters_f]
      simp only [Option.bind_some]
      rw [numbers_f, wideB_f]
      simp only [Option.bind_some]
      rw [lettersB_cls, numbersB_cls, ← a2_at, hc]
      have e3 : ∀ x, spec_WordBreak.j1 (k + 2 + 8) (qOf p) (cxA p (i + 1)).a ((jA p (i + 1) - 1 : Nat) : Int) (rd p (i + 1 : Nat)) x = some (if x = true then false else if ((cxA p (i + 1)).a == 7 && rd p (i + 1 : Nat) == 7) = true then !(cxA p (i + 1)).r else true) := by
        intro x
        rw [show k + 2 + 8 = k + 8 + 1 + 1 by omega]
        simp only [spec_WordBreak.j1, spec_WordBreak.j2]
        cases x with
        | true => rfl
        | false =>
          simp only [Bool.false_eq_true, if_false]
          by_cases h7 : (cxA p (i + 1)).a = 7
          · rw [if_pos h7]
            by_cases h8 : rd p (i + 1 : Nat) = 7
            · rw [h8, if_neg (by simp), h7]
              obtain ⟨m, hm, hr⟩ := run_f p hp hl (i + 2) (i + 1) (by omega) (k + 8) 0 (by omega) (by omega) (by omega)
              rw [← e2]
              rw [h7] at hm
              simp only [Int.cast_ofNat_Int, Nat.zero_add] at hm
              rw [hm, ← hr]
              rw [show Int.tmod (m : Int) 2 = ((m % 2 : Nat) : Int) from rfl]
              rcases Nat.mod_two_eq_zero_or_one m with h | h <;> rw [h] <;> rfl
            · have : (rd p (i + 1 : Nat) == 7) = false := by rw [beq_eq_false_iff_ne]; exact h8
              rw [if_pos (show (rd p (i + 1 : Nat) != 7) = true by rw [bne, this]; rfl), this]
              simp
          · have : ((cxA p (i + 1)).a == 7) = false := by rw [beq_eq_false_iff_ne]; exact h7
            rw [if_neg h7, this]
            simp
      simp only [e3]
      generalize lettersB _ _ _ _ = x1
      generalize numbersB _ _ _ _ = x2
      generalize wideB _ _ = x3
      cases x1 <;> cases x2 <;> cases x3 <;> simp

theorem openl_f (p : List Int) (hl : p.length ≤ 60) : ∀ i k, i ≤ p.length → 2 * i + 8 ≤ k → spec_WordOpen.l0 k (qOf p) ((i : Int) - 1) = some (cxA p i).z := by
  intro i
  induction i with
  | zero =>
    intro k _ hk
    obtain ⟨k, rfl⟩ : ∃ m, k = m + 1 + 1 := ⟨k - 2, by omega⟩
    simp only [spec_WordOpen.l0, spec_WordOpen.j2]
    rw [if_neg (by omega), if_neg (by simp)]
    rfl
  | succ i ih =>
    intro k hi hk
    obtain ⟨k, rfl⟩ : ∃ m, k = m + 4 + 1 + 1 := ⟨k - 6, by omega⟩
    have e : ((i + 1 : Nat) : Int) - 1 = (i : Int) := by omega
    rw [e, z_at]
    rw [spec_WordOpen.l0]
    simp only [len_q, rd_q, pt]
    rw [if_pos (by omega), if_pos (by omega), if_pos (by omega), show k + 4 + 1 = (k + 1) + 4 by omega, mute_f]
    simp only [Option.bind_some]
    rw [show k + 1 + 4 = k + 4 + 1 by omega]
    rw [spec_WordOpen.j2]
    simp only [len_q, rd_q, pt]
    cases muteB (rd p i) with
    | false => rfl
    | true =>
      rw [if_pos rfl, if_pos (by omega), if_pos (by omega), wrap_id (by omega), ih (k + 4) (by omega) (by omega)]
      by_cases h5 : rd p i = 5
      · rw [if_pos h5, h5]; rfl
      · have : (rd p i == 5) = false := by rw [beq_eq_false_iff_ne]; exact h5
        rw [if_neg h5, this]; rfl

theorem open_f (p : List Int) (hl : p.length ≤ 60) (i : Nat) (hi : i + 1 < p.length) (k : Nat) (hk : 200 ≤ k) :
    spec_WordOpen.f k (qOf p) ((i : Int) + 1) = some (openB (cxA p (i + 1)) (rd p (i + 1 : Nat))) := by
  obtain ⟨k, rfl⟩ : ∃ m, k = m + 1 := ⟨k - 1, by omega⟩
  have e1 : (i : Int) + 1 = ((i + 1 : Nat) : Int) := by omega
  have e0 : wrap64 (((i + 1 : Nat) : Int) - 1) = ((i + 1 : Nat) : Int) - 1 := by rw [wrap_id (by omega)]
  rw [e1]
  unfold spec_WordOpen.f openB
  simp only [spec_WordOpen.j0, e0, openl_f p hl (i + 1) k (by omega) (by omega), rd_q, len_q, pt]
  have g1 : (0 ≤ ((i + 1 : Nat) : Int)) = True := by rw [eq_iff_iff, iff_true]; omega
  have g2 : (((i + 1 : Nat) : Int) < p.length) = True := by rw [eq_iff_iff, iff_true]; omega
  have g3 : (0 ≤ ((i + 1 : Nat) : Int) - 1) = True := by rw [eq_iff_iff, iff_true]; omega
  have g4 : (((i + 1 : Nat) : Int) - 1 < p.length) = True := by rw [eq_iff_iff, iff_true]; omega
  simp only [g1, g2, g3, g4, if_true]
  rw [last_kind, show ((i + 1 : Nat) : Int) - 1 = (i : Int) by omega]
  generalize rd p (i + 1 : Nat) = x
  generalize rd p (i : Int) = l
  generalize (cxA p (i + 1)).z = z
  by_cases h18 : x = 18
  · subst h18; simp
  · by_cases h19 : x = 19
    · subst h19
      by_cases h5 : l = 5
      · subst h5; simp
      · simp [h5]
    · simp [h18, h19]

/-- All that the walk of the law wants. -/
theorem all (l : List Int) (hl : l.length ≤ 140737488351232) (hw : ∀ x ∈ l, 0 ≤ x ∧ x ≤ 255) :
    ∃ (p : List Int) (k : Nat), laws_row.f k l 20 = some p ∧ p.length ≤ 60 ∧ (∀ x ∈ p, 0 ≤ x ∧ x < 20) ∧
      (∀ i : Nat, i + 1 < p.length → ∃ o, spec_WordOpen.f k (qOf p) ((i : Int) + 1) = some o ∧ (o = false → spec_WordBreak.f k (qOf p) ((i : Int) + 1) = some (cutW p (i + 1)))) := by
  obtain ⟨p, h1, h2, h3⟩ := row_ends l hl hw 20 (by omega) (by omega) l.length (l.length + 200) [] 0 (by omega) (by omega) (by omega) (by simp) (by simp) (by simp)
  refine ⟨p, l.length + 200, h1, h2, h3, fun i hi => ⟨_, open_f p h2 i hi _ (by omega), fun ho => ?_⟩⟩
  rw [word_f p h3 h2 i hi _ (by omega), cut_spec h3 i hi ho]
end Go.Proofs.Ytnanfoahimccpaa.Wb
