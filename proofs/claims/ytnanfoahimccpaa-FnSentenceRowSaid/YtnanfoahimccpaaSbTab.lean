/- The step of sentences as a plain function of numbers: the table of transitions and what is done around it. No program in sight. -/
namespace Go.Proofs.Ytnanfoahimccpaa.Sb

/-- The table: state and property in one number; the new state, whether there is a break, the rule's number. -/
def tab : List (Nat × Int × Bool × Int) := [(131, 1, false, 9990), (260, 2, false, 30), (164, 2, false, 9990), (132, 2, false, 9990), (385, 0, true, 40), (257, 0, true, 40), (161, 3, false, 9990), (533, 0, false, 60), (917, 0, false, 60), (162, 4, false, 9990), (163, 5, false, 9990), (673, 6, false, 70), (801, 6, false, 70), (930, 4, false, 70), (158, 9, false, 9990), (544, 0, false, 81), (545, 3, false, 81), (542, 9, false, 81), (928, 0, false, 81), (929, 3, false, 81), (926, 9, false, 81), (1056, 0, false, 81), (1057, 3, false, 81), (1054, 9, false, 81), (1184, 0, false, 81), (1185, 3, false, 81), (1182, 9, false, 81), (1312, 0, false, 81), (1313, 3, false, 81), (1310, 9, false, 81), (1440, 0, false, 81), (1441, 3, false, 81), (1438, 9, false, 81), (1568, 0, false, 81), (1569, 3, false, 81), (1566, 9, false, 81), (543, 7, false, 90), (927, 7, false, 90), (1055, 7, false, 90), (541, 8, false, 90), (925, 8, false, 90), (1053, 8, false, 90), (1311, 10, false, 90), (1439, 10, false, 90), (1309, 11, false, 90), (1437, 11, false, 90), (548, 2, false, 90), (515, 2, false, 90), (516, 2, false, 90), (932, 2, false, 90), (899, 2, false, 90), (900, 2, false, 90), (1060, 2, false, 90), (1027, 2, false, 90), (1028, 2, false, 90), (1316, 2, false, 90), (1283, 2, false, 90), (1284, 2, false, 90), (1444, 2, false, 90), (1411, 2, false, 90), (1412, 2, false, 90), (1181, 8, false, 100), (1565, 11, false, 100), (1188, 2, false, 100), (1155, 2, false, 100), (1156, 2, false, 100), (513, 0, true, 110), (897, 0, true, 110), (1025, 0, true, 110), (1153, 0, true, 110), (1281, 0, true, 110), (1409, 0, true, 110), (1537, 0, true, 110)]
def look (l : List (Nat × Int × Bool × Int)) (n : Nat) : Int × Bool × Int := match l with
  | [] => (-1, false, -1)
  | x :: l => bif Nat.beq x.1 n then x.2 else look l n
def tr (s p : Int) : Int × Bool × Int := look tab ((s + 1).toNat * 128 + p.toNat)

def mix (s p : Int) : Int × Bool × Int :=
  let a := tr s p
  if 0 ≤ a.1 then a else
  let b := tr s 1
  let c := tr 0 p
  if 0 ≤ b.1 ∧ 0 ≤ c.1 then (if b.2.2 < c.2.2 then (c.1, b.2.1, b.2.2) else c)
  else if 0 ≤ b.1 then b
  else if 0 ≤ c.1 then c
  else (0, false, 9990)

def ign (p : Int) : Bool := p == 6 || p == 26
/-- Is it asked on? -/
def needs (s p : Int) : Bool := !ign p && decide (80 < (mix s p).2.2) && (s == 3 || s == 7 || s == 8 || s == 6)

/-- One step: the state, a property, the property at which the asking ends. -/
def next (s p e : Int) : Int × Bool :=
  if ign p then (if s == 2 || s == 1 then (0, true) else if s < 0 then (0, true) else (s, false))
  else
    let m := mix s p
    if decide (80 < m.2.2) && (s == 3 || s == 7 || s == 8 || s == 6) && e == 35 then (5, false) else (m.1, m.2.1)

/-- Properties at which the asking ends. -/
def stops (p : Int) : Bool := p == 37 || p == 34 || p == 35 || p == 36 || p == 3 || p == 4 || p == 33 || p == 30
/-- The property at which the asking ends. -/
def fin (p : Int) : List Int → Int
  | [] => p
  | q :: l => if stops p then p else fin q l

def states : List Int := [-1, 0, 1, 2, 3, 4, 5, 6, 7, 8, 9, 10, 11]
def props : List Int := [1, 3, 4, 36, 6, 26, 29, 35, 34, 37, 21, 33, 30, 31, 32]
end Go.Proofs.Ytnanfoahimccpaa.Sb
