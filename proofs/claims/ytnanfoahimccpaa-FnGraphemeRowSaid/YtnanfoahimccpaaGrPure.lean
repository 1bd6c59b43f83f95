/- The plain law of FnGraphemeRow: what the walks compute answers true for every row of kinds. No condition. -/
import Derived.Test.YtnanfoahimccpaaGrWalk
namespace Go.Proofs.Ytnanfoahimccpaa.GrPure
open Go.RowKit Go.Proofs.YtnanfoahimccpaaW.PrintWords Go.Proofs.Ytnanfoahimccpaa.PFnGraphemeRow

theorem wrap_id {x : Int} (h : -9223372036854775808 ≤ x ∧ x ≤ 9223372036854775807) : wrap64 x = x := by unfold wrap64; omega

/-! ### the row of kinds -/
theorem row_ends (l : List Int) (hl : l.length ≤ 140737488351232) (hw : ∀ x ∈ l, 0 ≤ x ∧ x ≤ 255) (m : Int) (h0 : 0 < m) (hm : m ≤ 256) (d : Nat) :
    ∀ (k : Nat) (out : List Int) (i : Nat), i ≤ l.length → l.length - i = d → d < k → out.length ≤ i → out.length ≤ 60 → (∀ x ∈ out, 0 ≤ x ∧ x < m) →
      ∃ p, laws_row.l0 k m out l (l.length : Int) (i : Int) = some p ∧ p.length ≤ 60 ∧ ∀ x ∈ p, 0 ≤ x ∧ x < m := by
  induction d with
  | zero =>
    intro k out i h1 h2 hk _ h4 h5
    obtain ⟨k, rfl⟩ : ∃ m, k = m + 1 := ⟨k - 1, by omega⟩
    refine ⟨out, ?_, h4, h5⟩
    simp only [laws_row.l0]
    rw [if_neg (by omega)]
  | succ d ih =>
    intro k out i h1 h2 hk h3 h4 h5
    obtain ⟨k, rfl⟩ : ∃ m, k = m + 1 := ⟨k - 1, by omega⟩
    have hlt : i < l.length := by omega
    have hx : 0 ≤ rd l i ∧ rd l i ≤ 255 := by
      have e : rd l i = l[i] := by simp [rd, hlt]
      rw [e]
      exact hw _ (List.getElem_mem hlt)
    have hwi : wrap64 ((i : Int) + 1) = ((i + 1 : Nat) : Int) := by rw [wrap_id (by omega)]; omega
    simp only [laws_row.l0]
    rw [if_pos (by omega), if_pos (by omega), if_pos (by omega)]
    by_cases h60 : (i : Int) < 60
    · rw [if_pos h60, if_neg (by omega), if_pos (by omega), hwi]
      refine ih k _ (i + 1) (by omega) (by omega) (by omega) (by simp; omega) (by simp; omega) ?_
      intro x hxm
      rcases List.mem_append.1 hxm with h | h
      · exact h5 x h
      · rw [List.mem_singleton.1 h, wrap_id (by omega), Int.tmod_eq_emod_of_nonneg hx.1]
        exact ⟨Int.emod_nonneg _ (by omega), Int.emod_lt_of_pos _ h0⟩
    · rw [if_neg h60, hwi]
      exact ih k out (i + 1) (by omega) (by omega) (by omega) (by omega) h4 h5

/-! ### what is known of a row's beginning -/
/-- It ends with a pictograph and extending marks. -/
def eA (p : List Int) : Nat → Bool
  | 0 => false
  | i + 1 => rd p i == 14 || (rd p i == 5 && eA p i)
/-- Regional indicators end it, an odd number of them. -/
def rP (p : List Int) : Nat → Bool
  | 0 => false
  | i + 1 => rd p i == 6 && !rP p i
/-- A pictograph, extending marks, a joiner end it. -/
def zA (p : List Int) : Nat → Bool
  | 0 => false
  | i + 1 => rd p i == 13 && eA p i

def joins (a b : Nat) : Bool :=
  if a == 2 && b == 3 then true
  else if a == 4 || a == 2 || a == 3 then false
  else if b == 4 || b == 2 || b == 3 then false
  else if a == 8 && (b == 8 || b == 9 || b == 11 || b == 12) then true
  else if (a == 11 || a == 9) && (b == 9 || b == 10) then true
  else if (a == 12 || a == 10) && b == 10 then true
  else b == 5 || b == 13 || b == 7 || a == 1

theorem joins_f : ∀ a : Fin 15, ∀ b : Fin 15, spec_gbJoins.f 20 (a.val : Int) (b.val : Int) = some (joins a.val b.val) := by decide +kernel

/-- Is there a break: the last kind, what is known of the beginning, the next kind. -/
def brk (a : Nat) (z r : Bool) (b : Nat) : Bool :=
  if joins a b then false
  else if a == 13 && b == 14 then !z
  else if a == 6 && b == 6 then !r
  else true

/-- The state. -/
def stOf (a : Nat) (e z r : Bool) : Int :=
  match a with
  | 0 => 0 | 1 => 6 | 2 => 1 | 3 => 2 | 4 => 2
  | 5 => if e then 7 else 0
  | 6 => if r then 9 else 10
  | 7 => 0 | 8 => 3 | 9 => 4 | 10 => 5 | 11 => 4 | 12 => 5
  | 13 => if z then 8 else 0
  | _ => 7

/-- One step, as Bools: what e, z, r may be is a little more than what they can be. -/
theorem next_f : ∀ a : Fin 15, ∀ e z r : Bool, ∀ b : Fin 15, (a.val = 14 → e = true) → (a.val ≠ 14 → a.val ≠ 5 → e = false) → (a.val ≠ 13 → z = false) → (a.val ≠ 6 → r = false) →
    uniseg_ZzGraphemeNext.f 3 (stOf a.val e z r) ((b.val : Int) + 1) =
      some (stOf b.val (b.val == 14 || (b.val == 5 && e)) (b.val == 13 && e) (b.val == 6 && !r), brk a.val z r b.val) := by decide +kernel
theorem next_first : ∀ b : Fin 15, (uniseg_ZzGraphemeNext.f 3 (-1) ((b.val : Int) + 1)).map (·.1) = some (stOf b.val (b.val == 14) false (b.val == 6)) := by decide +kernel
theorem number_f : ∀ b : Fin 15, impl_numberOf.f [1, 2, 3, 4, 5, 6, 7, 8, 9, 10, 11, 12, 13, 14, 15] (b.val : Int) = some ((b.val : Int) + 1) := by decide +kernel

theorem zzNext_mono (k j : Nat) (a b : Int) {r : Int × Bool} (h : uniseg_ZzGraphemeNext.f k a b = some r) : uniseg_ZzGraphemeNext.f (k + j) a b = some r :=
  more_rounds (g := fun k => uniseg_ZzGraphemeNext.f k a b) (fun k => uniseg_ZzGraphemeNext.mono a b k) k j r h

theorem fin_of {x : Int} (h : 0 ≤ x ∧ x < 15) : ∃ a : Fin 15, (a.val : Int) = x := ⟨⟨x.toNat, by omega⟩, by simp; omega⟩

/-- What break there is ahead of the element i + 1. -/
def brkAt (p : List Int) (i : Nat) : Bool := brk (rd p i).toNat (zA p (i + 1)) (rP p (i + 1)) (rd p (i + 1 : Nat)).toNat
def stAt (p : List Int) : Nat → Int
  | 0 => -1
  | i + 1 => stOf (rd p i).toNat (eA p (i + 1)) (zA p (i + 1)) (rP p (i + 1))

theorem rd_kind {p : List Int} (hp : ∀ x ∈ p, 0 ≤ x ∧ x < 15) (i : Nat) (hi : i < p.length) : 0 ≤ rd p i ∧ rd p i < 15 := by
  have e : rd p i = p[i] := by simp [rd, hi]
  rw [e]
  exact hp _ (List.getElem_mem hi)

theorem cast_beq (b : Fin 15) (n : Nat) : ((b.val : Int) == (n : Int)) = (b.val == n) := by
  rw [Bool.eq_iff_iff, beq_iff_eq, beq_iff_eq]
  omega

theorem step_f (p : List Int) (hp : ∀ x ∈ p, 0 ≤ x ∧ x < 15) (k i : Nat) (hi : i < p.length) :
    ∃ b, uniseg_ZzGraphemeNext.f (3 + k) (stAt p i) (rd p i + 1) = some (stAt p (i + 1), b) ∧ (∀ j, i = j + 1 → b = brkAt p j) := by
  obtain ⟨b, hb⟩ := fin_of (rd_kind hp i hi)
  cases i with
  | zero =>
    have h := next_first b
    obtain ⟨⟨s, c⟩, h1, h2⟩ := Option.map_eq_some_iff.1 h
    dsimp only at h2
    subst h2
    refine ⟨c, ?_, fun j hj => by omega⟩
    rw [← hb]
    have := zzNext_mono 3 k _ _ h1
    rw [show stAt p 0 = -1 from rfl, this]
    have c14 := cast_beq b 14
    have c6 := cast_beq b 6
    simp only [Int.cast_ofNat_Int] at c14 c6
    simp only [stAt, eA, zA, rP, ← hb]
    simp [c14, c6]
  | succ i =>
    obtain ⟨a, ha⟩ := fin_of (rd_kind hp i (by omega))
    have h := next_f a (eA p (i + 1)) (zA p (i + 1)) (rP p (i + 1)) b (by intro h; simp [eA, ← ha, h]) (by
        intro h h'
        simp only [eA, ← ha]
        have h1 : ((a.val : Int) == 14) = false := by rw [beq_eq_false_iff_ne]; omega
        have h2 : ((a.val : Int) == 5) = false := by rw [beq_eq_false_iff_ne]; omega
        simp [h1, h2]) (by
        intro h
        simp only [zA, ← ha]
        have h1 : ((a.val : Int) == 13) = false := by rw [beq_eq_false_iff_ne]; omega
        simp [h1]) (by
        intro h
        simp only [rP, ← ha]
        have h1 : ((a.val : Int) == 6) = false := by rw [beq_eq_false_iff_ne]; omega
        simp [h1])
    refine ⟨brkAt p i, ?_, fun j hj => by rw [Nat.succ.inj hj]⟩
    have h2 := zzNext_mono 3 k _ _ h
    have e1 : stAt p (i + 1) = stOf a.val (eA p (i + 1)) (zA p (i + 1)) (rP p (i + 1)) := by
      show stOf (rd p i).toNat _ _ _ = _
      rw [← ha, Int.toNat_natCast]
    have e2 : brkAt p i = brk a.val (zA p (i + 1)) (rP p (i + 1)) b.val := by
      unfold brkAt
      rw [← ha, ← hb, Int.toNat_natCast, Int.toNat_natCast]
    rw [e1, ← hb, h2, e2]
    congr 2
    show _ = stOf (rd p (i + 1 : Nat)).toNat (eA p (i + 1 + 1)) (zA p (i + 1 + 1)) (rP p (i + 1 + 1))
    have c := cast_beq b
    have c14 := c 14
    have c5 := c 5
    have c13 := c 13
    have c6 := c 6
    simp only [Int.cast_ofNat_Int] at c14 c5 c13 c6
    rw [eA.eq_2 p (i + 1), zA.eq_2 p (i + 1), rP.eq_2 p (i + 1), ← hb, Int.toNat_natCast, c14, c5, c13, c6]

theorem breaks_ends (p : List Int) (hp : ∀ x ∈ p, 0 ≤ x ∧ x < 15) (hl : p.length ≤ 60) (d : Nat) :
    ∀ (k : Nat) (cuts : List Bool) (i : Nat), i ≤ p.length → p.length - i = d → d + 3 < k → cuts.length = i - 1 → (∀ j, j < cuts.length → cuts.getD j false = brkAt p j) →
      ∃ lb, impl_GraphemeBreaks.l0 k cuts (stAt p i) [1, 2, 3, 4, 5, 6, 7, 8, 9, 10, 11, 12, 13, 14, 15] p (p.length : Int) (i : Int) = some lb ∧ lb.length = p.length - 1 ∧ ∀ j, j < lb.length → lb.getD j false = brkAt p j := by
  induction d with
  | zero =>
    intro k cuts i h1 h2 hk h3 h4
    obtain ⟨k, rfl⟩ : ∃ m, k = m + 1 := ⟨k - 1, by omega⟩
    refine ⟨cuts, ?_, by omega, h4⟩
    simp only [impl_GraphemeBreaks.l0]
    rw [if_neg (by omega)]
  | succ d ih =>
    intro k cuts i h1 h2 hk h3 h4
    obtain ⟨k, rfl⟩ : ∃ m, k = 3 + m + 1 := ⟨k - 4, by omega⟩
    have hlt : i < p.length := by omega
    obtain ⟨b, hb, hbj⟩ := step_f p hp k i hlt
    obtain ⟨c, hc⟩ := fin_of (rd_kind hp i hlt)
    have hn := number_f c
    rw [hc] at hn
    have hwi : wrap64 ((i : Int) + 1) = ((i + 1 : Nat) : Int) := by rw [wrap_id (by omega)]; omega
    simp only [impl_GraphemeBreaks.l0]
    rw [if_pos (by omega), if_pos (by omega), if_pos (by omega), hn]
    simp only [Option.bind_some]
    rw [hb]
    simp only [Option.bind_some]
    by_cases h0 : (i : Int) > 0
    · rw [if_pos h0, if_pos (by omega), hwi]
      refine ih _ _ (i + 1) (by omega) (by omega) (by omega) (by simp; omega) ?_
      intro j hj
      simp only [List.length_append, List.length_singleton] at hj
      by_cases hjl : j < cuts.length
      · rw [List.getD_eq_getElem?_getD, List.getElem?_append_left hjl, ← List.getD_eq_getElem?_getD]
        exact h4 j hjl
      · have : j = cuts.length := by omega
        subst this
        rw [List.getD_eq_getElem?_getD, List.getElem?_append_right (Nat.le_refl _)]
        simp only [Nat.sub_self, List.getElem?_cons_zero, Option.getD_some]
        exact hbj _ (by omega)
    · rw [if_neg h0, hwi]
      have : i = 0 := by omega
      subst this
      exact ih _ cuts 1 (by omega) (by omega) (by omega) (by omega) h4

/-! ### the reference -/
theorem run_ends (p : List Int) (hl : p.length ≤ 60) (i : Nat) : ∀ (k : Nat) (n : Nat), i ≤ p.length → i < k → n + i ≤ 200 →
    ∃ m : Nat, spec_run.l0 k p ((i : Int) - 1) 6 (n : Int) = some ((n + m : Nat) : Int) ∧ (m % 2 == 1) = rP p i ∧ m ≤ i := by
  induction i with
  | zero =>
    intro k n h1 hk hn
    obtain ⟨k, rfl⟩ : ∃ m, k = m + 1 := ⟨k - 1, by omega⟩
    refine ⟨0, ?_, rfl, by omega⟩
    simp only [spec_run.l0]
    rw [if_neg (by omega)]
    rfl
  | succ i ih =>
    intro k n h1 hk hn
    obtain ⟨k, rfl⟩ : ∃ m, k = m + 1 := ⟨k - 1, by omega⟩
    have e : ((i + 1 : Nat) : Int) - 1 = (i : Int) := by omega
    rw [e]
    simp only [spec_run.l0]
    rw [if_pos (by omega), if_pos (by omega), if_pos (by omega)]
    by_cases h6 : rd p i = 6
    · rw [if_pos h6, wrap_id (by omega), wrap_id (by omega)]
      obtain ⟨m, h2, h3, h4⟩ := ih k (n + 1) (by omega) (by omega) (by omega)
      refine ⟨m + 1, ?_, ?_, by omega⟩
      · have e2 : ((n : Int) + 1) = ((n + 1 : Nat) : Int) := by omega
        rw [e2, h2]
        congr 1
        omega
      · simp only [rP, h6, beq_self_eq_true, Bool.true_and, ← h3]
        rw [Bool.eq_iff_iff]
        simp
        omega
    · rw [if_neg h6]
      refine ⟨0, rfl, ?_, by omega⟩
      have : (rd p i == 6) = false := by rw [beq_eq_false_iff_ne]; exact h6
      simp [rP, this]

theorem among5 (x : Int) (k : Nat) : spec_among.f (k + 2) x [5] = some (x == 5) := by
  unfold spec_among.f
  by_cases h : x = 5
  · subst h; simp [spec_among.l0, rd]
  · have : (x == 5) = false := by rw [beq_eq_false_iff_ne]; exact h
    simp [spec_among.l0, rd, h, wrap64, this]

theorem before_ends (p : List Int) (hl : p.length ≤ 60) (i : Nat) : ∀ (k : Nat), i ≤ p.length → i + 2 < k →
    ∃ j : Int, spec_before.l0 k p ((i : Int) - 1) [5] = some j ∧ j < i ∧ ((j < 0 ∧ eA p i = false) ∨ (0 ≤ j ∧ eA p i = (rd p j == 14))) := by
  induction i with
  | zero =>
    intro k h1 hk
    obtain ⟨k, rfl⟩ : ∃ m, k = m + 1 := ⟨k - 1, by omega⟩
    refine ⟨-1, ?_, by omega, .inl ⟨by omega, rfl⟩⟩
    simp only [spec_before.l0]
    rw [if_neg (by omega)]
    rfl
  | succ i ih =>
    intro k h1 hk
    obtain ⟨k, rfl⟩ : ∃ m, k = m + 2 + 1 := ⟨k - 3, by omega⟩
    have e : ((i + 1 : Nat) : Int) - 1 = (i : Int) := by omega
    rw [e]
    simp only [spec_before.l0]
    rw [if_pos (by omega), if_pos (by omega), if_pos (by omega), among5]
    simp only [Option.bind_some]
    by_cases h5 : rd p i = 5
    · have h5' : (rd p i == 5) = true := by rw [beq_iff_eq]; exact h5
      have h14 : (rd p i == 14) = false := by rw [beq_eq_false_iff_ne]; omega
      rw [h5', if_pos rfl, wrap_id (by omega)]
      obtain ⟨j, h2, h3, h4⟩ := ih (k + 2) (by omega) (by omega)
      refine ⟨j, h2, by omega, ?_⟩
      simpa [eA, h5', h14] using h4
    · have h5' : (rd p i == 5) = false := by rw [beq_eq_false_iff_ne]; exact h5
      rw [h5', if_neg (by simp)]
      exact ⟨i, rfl, by omega, .inr ⟨by omega, by simp [eA, h5']⟩⟩

theorem joins_mono (k j : Nat) (a b : Int) {r : Bool} (h : spec_gbJoins.f k a b = some r) : spec_gbJoins.f (k + j) a b = some r :=
  more_rounds (g := fun k => spec_gbJoins.f k a b) (fun k => spec_gbJoins.mono a b k) k j r h

theorem rule_f (p : List Int) (hp : ∀ x ∈ p, 0 ≤ x ∧ x < 15) (hl : p.length ≤ 60) (i : Nat) (hi : i + 1 < p.length) : spec_GraphemeBreak.f 100 p ((i : Int) + 1) = some (brkAt p i) := by
  obtain ⟨a, ha⟩ := fin_of (rd_kind hp i (by omega))
  obtain ⟨b, hb⟩ := fin_of (rd_kind hp (i + 1) hi)
  have hj := joins_mono 20 80 _ _ (joins_f a b)
  unfold spec_GraphemeBreak.f
  have e : wrap64 ((i : Int) + 1 - 1) = (i : Int) := by rw [wrap_id (by omega)]; omega
  have e1 : ((i : Int) + 1) = ((i + 1 : Nat) : Int) := by omega
  rw [e, e1, if_pos (by omega), if_pos (by omega), if_pos (by omega), if_pos (by omega), ← ha, ← hb, hj]
  simp only [Option.bind_some]
  have ea : brkAt p i = brk a.val (zA p (i + 1)) (rP p (i + 1)) b.val := by
    unfold brkAt
    rw [← ha, ← hb, Int.toNat_natCast, Int.toNat_natCast]
  rw [ea]
  have c13 := cast_beq a 13
  have c14 := cast_beq b 14
  have a6 := cast_beq a 6
  have b6 := cast_beq b 6
  simp only [Int.cast_ofNat_Int] at c13 c14 a6 b6
  cases hjj : joins a.val b.val with
  | true => simp [brk, hjj]
  | false =>
    simp only [Bool.false_eq_true, if_false]
    unfold brk
    rw [hjj]
    simp only [Bool.false_eq_true, if_false]
    have hz : zA p (i + 1) = ((a.val == 13) && eA p i) := by simp only [zA, ← ha, c13]
    by_cases h13 : (a.val : Int) = 13
    · have h13' : (a.val == 13) = true := by rw [← c13, beq_iff_eq]; exact h13
      rw [if_pos h13, h13', hz, h13']
      simp only [spec_GraphemeBreak.j0]
      by_cases h14 : (b.val : Int) = 14
      · have h14' : (b.val == 14) = true := by rw [← c14, beq_iff_eq]; exact h14
        rw [c14, h14', if_pos rfl, if_pos (by simp)]
        have ew : wrap64 (((i + 1 : Nat) : Int) - 1) = (i : Int) := by rw [wrap_id (by omega)]; omega
        unfold spec_before.f
        rw [ew, wrap_id (by omega)]
        obtain ⟨j, h2, h3, h4⟩ := before_ends p hl i 99 (by omega) (by omega)
        rw [h2]
        simp only [Option.bind_some, Bool.true_and]
        rcases h4 with ⟨h4, h5⟩ | ⟨h4, h5⟩
        · rw [if_pos h4, h5]; rfl
        · rw [if_neg (by omega), if_pos h4, if_pos (by omega), h5]; rfl
      · have h14' : (b.val == 14) = false := by rw [← c14, beq_eq_false_iff_ne]; exact h14
        rw [c14, h14', if_neg (by simp), if_neg (by omega), if_neg (by simp), if_neg (by
          intro h
          simp only [Bool.and_eq_true, beq_iff_eq] at h
          omega)]
    · have h13' : (a.val == 13) = false := by rw [← c13, beq_eq_false_iff_ne]; exact h13
      rw [if_neg h13, h13', if_neg (by simp)]
      simp only [spec_GraphemeBreak.j0]
      rw [if_neg (by simp)]
      by_cases h6 : (a.val : Int) = 6
      · have h6' : (a.val == 6) = true := by rw [← a6, beq_iff_eq]; exact h6
        by_cases h6b : (b.val : Int) = 6
        · have h6b' : (b.val == 6) = true := by rw [← b6, beq_iff_eq]; exact h6b
          rw [if_pos h6, if_pos h6b, h6', h6b', if_pos (show (true && true) = true from rfl)]
          unfold spec_run.f
          have ew : wrap64 (((i + 1 : Nat) : Int) - 1) = ((i + 1 : Nat) : Int) - 1 := by rw [wrap_id (by omega)]
          rw [ew]
          obtain ⟨m, h2, h3, _⟩ := run_ends p hl (i + 1) 99 0 (by omega) (by omega) (by omega)
          simp only [Int.cast_ofNat_Int] at h2
          rw [h2]
          simp only [Option.bind_some, ← h3, Nat.zero_add]
          rw [show Int.tmod (m : Int) 2 = ((m % 2 : Nat) : Int) from rfl]
          congr 1
          rcases Nat.mod_two_eq_zero_or_one m with h | h <;> rw [h] <;> rfl
        · have h6b' : (b.val == 6) = false := by rw [← b6, beq_eq_false_iff_ne]; exact h6b
          rw [if_pos h6, if_neg h6b, h6b']
          simp
      · have h6' : (a.val == 6) = false := by rw [← a6, beq_eq_false_iff_ne]; exact h6
        rw [if_neg h6, h6']
        simp

theorem two : ∃ b, impl_GraphemeBreaks.f 100 [0, 0] = some [b] := ⟨true, by decide +kernel⟩

/-- All that the walk of the law wants. -/
theorem all (l : List Int) (hl : l.length ≤ 140737488351232) (hw : ∀ x ∈ l, 0 ≤ x ∧ x ≤ 255) :
    ∃ (p : List Int) (lb : List Bool) (b : Bool) (k : Nat), laws_row.f k l 15 = some p ∧ p.length ≤ 60 ∧ impl_GraphemeBreaks.f k p = some lb ∧ lb.length = p.length - 1 ∧
      (∀ i : Int, 0 ≤ i → i < lb.length → spec_GraphemeBreak.f k p (i + 1) = some (lb.getD i.toNat false)) ∧ impl_GraphemeBreaks.f k [0, 0] = some [b] := by
  obtain ⟨p, h1, h2, h3⟩ := row_ends l hl hw 15 (by omega) (by omega) l.length (l.length + 1) [] 0 (by omega) (by omega) (by omega) (by simp) (by simp) (by simp)
  obtain ⟨lb, h4, h5, h6⟩ := breaks_ends p h3 h2 p.length (p.length + 4) [] 0 (by omega) (by omega) (by omega) (by simp) (by simp)
  obtain ⟨b, h7⟩ := two
  have hk : ∀ k, l.length + 1 ≤ k → laws_row.f k l 15 = some p := fun k h => at_rounds (g := fun k => laws_row.f k l 15) (fun k => laws_row.mono l 15 k) h h1
  refine ⟨p, lb, b, l.length + 100, hk _ (by omega), h2, ?_, h5, ?_, ?_⟩
  · refine at_rounds (g := fun k => impl_GraphemeBreaks.f k p) (fun k => impl_GraphemeBreaks.mono p k) (k := p.length + 4) (by omega) ?_
    exact h4
  · intro i h0 hi
    obtain ⟨n, rfl⟩ := Int.eq_ofNat_of_zero_le h0
    rw [Int.toNat_natCast, h6 n (by omega)]
    exact at_rounds (g := fun k => spec_GraphemeBreak.f k p ((n : Int) + 1)) (fun k => spec_GraphemeBreak.mono p _ k) (k := 100) (by omega) (rule_f p h3 h2 n (by omega))
  · exact at_rounds (g := fun k => impl_GraphemeBreaks.f k [0, 0]) (fun k => impl_GraphemeBreaks.mono [0, 0] k) (k := 100) (by omega) h7
end Go.Proofs.Ytnanfoahimccpaa.GrPure
