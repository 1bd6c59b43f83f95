/- What the reference of words computes, as Bools of kinds. No program in sight. -/
import Derived.Test.YtnanfoahimccpaaWdx6
import Derived.Test.YtnanfoahimccpaaWdx8
namespace Go.Proofs.Ytnanfoahimccpaa.Wb
open Go.RowKit Go.Proofs.YtnanfoahimccpaaW.PrintWords Go.Proofs.Ytnanfoahimccpaa.Wd

theorem wrap_id {x : Int} (h : -9223372036854775808 ≤ x ∧ x ≤ 9223372036854775807) : wrap64 x = x := by unfold wrap64; omega

def letB (x : Int) : Bool := x == 10 || x == 9
def quoB (x : Int) : Bool := x == 13 || x == 11
def muteB (x : Int) : Bool := x == 4 || x == 6 || x == 5
def nlB (x : Int) : Bool := x == 1 || x == 2 || x == 3
def wordB (x : Int) : Bool := letB x || (x == 16 || x == 8)
def lettersB (a2 a b b2 : Int) : Bool :=
  (letB a && letB b) || (letB a && (b == 14 || quoB b) && letB b2) || (letB a2 && (a == 14 || quoB a) && letB b) || (a == 9 && b == 11) || (a == 9 && b == 12 && b2 == 9) || (a2 == 9 && a == 12 && b == 9)
def numbersB (a2 a b b2 : Int) : Bool :=
  (a == 16 && (b == 16 || letB b)) || (letB a && b == 16) || (a2 == 16 && (a == 15 || quoB a) && b == 16) || (a == 16 && (b == 15 || quoB b) && b2 == 16)
def wideB (a b : Int) : Bool := (a == 8 && b == 8) || (b == 17 && (wordB a || a == 17)) || (a == 17 && wordB b)
def nearB (a b : Int) (bp : Bool) : Bool × Bool :=
  if a == 1 && b == 2 then (true, false) else if nlB a || nlB b then (false, true) else if a == 5 && bp then (true, false)
  else if a == 18 && b == 18 then (true, false) else if muteB b then (true, false) else (false, false)

theorem among2 (k : Nat) (x a b : Int) : spec_among.f (k + 3) x [a, b] = some (x == a || x == b) := by
  unfold spec_among.f
  by_cases h : x = a
  · subst h; simp [spec_among.l0, rd]
  · by_cases h2 : x = b
    · subst h2; simp [spec_among.l0, rd, h, wrap64]
    · have e1 : (x == a) = false := by rw [beq_eq_false_iff_ne]; exact h
      have e2 : (x == b) = false := by rw [beq_eq_false_iff_ne]; exact h2
      simp [spec_among.l0, rd, h, h2, wrap64]
theorem among3 (k : Nat) (x a b c : Int) : spec_among.f (k + 4) x [a, b, c] = some (x == a || x == b || x == c) := by
  unfold spec_among.f
  by_cases h : x = a
  · subst h; simp [spec_among.l0, rd]
  · by_cases h2 : x = b
    · subst h2; simp [spec_among.l0, rd, h, wrap64]
    · by_cases h3 : x = c
      · subst h3; simp [spec_among.l0, rd, h, h2, wrap64]
      · simp [spec_among.l0, rd, h, h2, h3, wrap64]

theorem letter_f (k : Nat) (x : Int) : spec_wbLetter.f (k + 4) x = some (letB x) := by
  unfold spec_wbLetter.f; rw [among2]; rfl
theorem quote_f (k : Nat) (x : Int) : spec_wbQuote.f (k + 4) x = some (quoB x) := by
  unfold spec_wbQuote.f; rw [among2]; rfl
theorem mute_f (k : Nat) (x : Int) : spec_wbMute.f (k + 4) x = some (muteB x) := by
  unfold spec_wbMute.f; rw [among3]; rfl
theorem newline_f (k : Nat) (x : Int) : spec_wbNewline.f (k + 4) x = some (nlB x) := by
  unfold spec_wbNewline.f; rw [among3]; rfl
theorem wide1_f (k : Nat) (x : Int) : spec_wbWide_1.f (k + 4) x = some (wordB x) := by
  unfold spec_wbWide_1.f; rw [letter_f, among2]
  simp only [Option.bind_some, wordB]
  cases letB x <;> simp

theorem eq_bool (x y : Int) : (x = y) = ((x == y) = true) := by simp
set_option maxRecDepth 100000 in
theorem letters_f (k : Nat) (a2 a b b2 : Int) : spec_wbLetters.f (k + 8) a2 a b b2 = some (lettersB a2 a b b2) := by
  unfold spec_wbLetters.f lettersB
  simp only [letter_f, quote_f, Option.bind_some, spec_wbLetters.j0, spec_wbLetters.j1, spec_wbLetters.j2, spec_wbLetters.j3, eq_bool]
  generalize letB a = la, letB b = lb, letB a2 = la2, letB b2 = lb2, quoB a = qa, quoB b = qb
  generalize (a == 14) = e1, (b == 14) = e2, (a == 9) = e3, (b == 11) = e4, (b == 12) = e5, (b2 == 9) = e6, (a2 == 9) = e7, (a == 12) = e8, (b == 9) = e9
  cases la <;> cases lb <;> revert la2 lb2 qa qb e1 e2 e3 e4 e5 e6 e7 e8 e9 <;> decide +kernel
theorem numbers_f (k : Nat) (a2 a b b2 : Int) : spec_wbNumbers.f (k + 8) a2 a b b2 = some (numbersB a2 a b b2) := by
  unfold spec_wbNumbers.f numbersB
  simp only [letter_f, quote_f, Option.bind_some, spec_wbNumbers.j0, spec_wbNumbers.j1, eq_bool]
  generalize letB a = la, letB b = lb, quoB a = qa, quoB b = qb
  generalize (a == 16) = e1, (b == 16) = e2, (a == 15) = e3, (b == 15) = e4, (a2 == 16) = e5, (b2 == 16) = e6
  revert la lb qa qb e1 e2 e3 e4 e5 e6
  decide +kernel
theorem wideB_f (k : Nat) (a b : Int) : spec_wbWide.f (k + 8) a b = some (wideB a b) := by
  unfold spec_wbWide.f wideB
  simp only [wide1_f, Option.bind_some, spec_wbWide.j0, eq_bool]
  generalize wordB a = la, wordB b = lb
  generalize (a == 8) = e1, (b == 8) = e2, (a == 17) = e3, (b == 17) = e4
  revert la lb e1 e2 e3 e4
  decide +kernel
theorem near_f (k : Nat) (a b : Int) (ap bp : Bool) : spec_wbNear.f (k + 8) a ap b bp = some (nearB a b bp) := by
  unfold spec_wbNear.f nearB
  simp only [mute_f, newline_f, Option.bind_some, spec_wbNear.j0, spec_wbNear.j1, spec_wbNear.j2, spec_wbNear.j3, eq_bool]
  generalize nlB a = na, nlB b = nb, muteB b = mb
  generalize (a == 1) = e1, (b == 2) = e2, (a == 5) = e3, (a == 18) = e4, (b == 18) = e5
  revert na nb mb e1 e2 e3 e4 e5 bp
  decide +kernel
end Go.Proofs.Ytnanfoahimccpaa.Wb
