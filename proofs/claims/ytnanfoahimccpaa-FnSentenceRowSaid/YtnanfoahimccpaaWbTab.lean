/- The step of words as a plain function of numbers: the table of transitions and what is done around it. No program in sight. -/
namespace Go.Proofs.Ytnanfoahimccpaa.Wb

/-- The table: state and property in one number; the new state, whether there is a break, the rule's number. -/
def tab : List (Nat × Int × Bool × Int) := [(144, 3, true, 32), (131, 1, true, 32), (132, 2, true, 32), (513, 0, true, 31), (257, 0, true, 31), (385, 0, true, 31), (260, 2, false, 30), (145, 4, true, 9990), (657, 4, false, 34), (153, 6, true, 9990), (155, 5, true, 9990), (921, 6, false, 50), (923, 5, false, 50), (793, 6, false, 50), (795, 5, false, 50), (1049, 6, false, 70), (1051, 5, false, 70), (787, 0, false, 71), (1179, 5, false, 73), (149, 9, true, 9990), (1301, 9, false, 80), (917, 9, false, 90), (789, 9, false, 90), (1305, 6, false, 100), (1307, 5, false, 100), (1429, 9, false, 110), (156, 11, true, 9990), (1564, 11, false, 130), (152, 12, true, 9990), (920, 12, false, 131), (792, 12, false, 131), (1304, 12, false, 131), (1560, 12, false, 131), (1688, 12, false, 131), (1689, 6, false, 132), (1691, 5, false, 132), (1685, 9, false, 132), (1692, 11, false, 132)]
def look (l : List (Nat × Int × Bool × Int)) (n : Nat) : Int × Bool × Int := match l with
  | [] => (-1, false, -1)
  | x :: l => bif Nat.beq x.1 n then x.2 else look l n
def tr (s p : Int) : Int × Bool × Int := look tab ((s + 1).toNat * 128 + p.toNat)

/-- The state without the joiner's bit. -/
def bare (s : Int) : Int := if 16 ≤ s then s - 16 else s

def mix (s p : Int) : Int × Bool × Int :=
  let a := tr s p
  if 0 ≤ a.1 then a else
  let b := tr s 1
  let c := tr 0 p
  if 0 ≤ b.1 ∧ 0 ≤ c.1 then (if b.2.2 < c.2.2 then (c.1, b.2.1, b.2.2) else c)
  else if 0 ≤ b.1 then b
  else if 0 ≤ c.1 then c
  else (0, true, 9990)

/-- Is the property further on asked for? -/
def needs (s p : Int) : Bool :=
  (bare s == 5 || bare s == 6 || bare s == 9) && (p == 18 || p == 19 || p == 20 || p == 22 || p == 23)

/-- One step: the state, a property, the property further on that counts. -/
def next (s p far : Int) : Int × Bool :=
  if p == 14 then
    (if s == 3 || s == 1 || s == 2 then (16, true) else if s < 0 then (16, false) else if 16 ≤ s then (s, false) else (s + 16, false))
  else if p == 6 || p == 26 then
    (if s == 3 || s == 1 || s == 2 then (0, true) else if s == 4 || s == 16 then (0, false) else if s < 0 then (0, false) else (s, false))
  else if p == 15 && decide (16 ≤ s) then (0, false)
  else
    let t := bare s
    let m := mix t p
    if decide (60 < m.2.2) && (t == 6 || t == 5) && (p == 22 || p == 20 || p == 19) && (far == 25 || far == 27) then (7, false)
    else if decide (72 < m.2.2) && t == 5 && p == 18 && far == 27 then (8, false)
    else if decide (120 < m.2.2) && t == 9 && (p == 23 || p == 20 || p == 19) && far == 21 then (10, false)
    else if m.1 == 0 && p == 7 then (if !(t == 13) && !(t == 14) then (13, true) else if t == 13 then (14, false) else (13, true))
    else (m.1, m.2.1)

/-- Properties that are passed over. -/
def ign (p : Int) : Bool := p == 6 || p == 26 || p == 14
/-- The property further on that counts: the first one that isn't passed over; -1: there is none. -/
def far : List Int → Int
  | [] => -1
  | p :: l => if ign p then far l else p

def states : List Int := [-1, 0, 1, 2, 3, 4, 5, 6, 7, 8, 9, 10, 11, 12, 13, 14, 16, 17, 18, 19, 20, 21, 22, 23, 24, 25, 26, 27, 28, 29, 30]
def bares : List Int := [-1, 0, 1, 2, 3, 4, 5, 6, 7, 8, 9, 10, 11, 12, 13, 14]
def props : List Int := [0, 1, 3, 4, 6, 7, 14, 15, 16, 17, 18, 19, 20, 21, 22, 23, 24, 25, 26, 27, 28]
end Go.Proofs.Ytnanfoahimccpaa.Wb
