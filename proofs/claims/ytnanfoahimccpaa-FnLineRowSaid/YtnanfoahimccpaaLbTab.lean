/- The step of lines as a plain function of numbers: the table of transitions and what is done around it. No program in sight. -/
namespace Go.Proofs.Ytnanfoahimccpaa.Lb

/-- The table: by state: property; the new state, what break there is, the rule's number. -/
def tab : List (List (Nat × Int × Int × Int)) := [[], [(40, 1, 0, 60), (3, 2, 0, 60), (4, 3, 0, 60), (54, 4, 0, 60), (41, 5, 0, 70), (64, 6, 0, 70), (67, 7, 0, 110), (55, 8, 1, 310), (53, 11, 1, 310), (48, 12, 1, 310), (42, 13, 0, 130), (49, 14, 1, 310), (51, 15, 1, 310), (47, 16, 1, 310), (65, 21, 1, 310), (43, 17, 0, 190), (74, 23, 1, 200), (39, 9, 0, 210), (50, 10, 0, 210), (63, 19, 0, 210), (57, 24, 1, 310), (58, 26, 1, 310), (66, 0, 0, 220), (44, 27, 1, 310), (52, 28, 1, 310), (45, 29, 1, 310), (68, 31, 1, 310), (69, 30, 1, 310), (76, 31, 1, 310), (46, 37, 1, 310), (60, 38, 1, 310), (61, 39, 1, 310), (62, 40, 1, 310), (71, 41, 1, 310), (72, 42, 1, 310)], [(1, 0, 2, 40)], [(4, 3, 0, 50), (1, 0, 2, 50)], [(1, 0, 2, 50)], [(1, 0, 2, 50)], [(1, 0, 1, 180)], [(41, 6, 0, 70), (1, 0, 1, 80)], [(1, 0, 0, 110)], [(1, 0, 0, 120)], [], [(52, 28, 0, 250)], [(41, 20, 0, 70), (63, 19, 0, 160)], [(41, 20, 0, 70), (63, 19, 0, 160)], [], [(44, 27, 0, 290), (58, 26, 0, 290)], [(58, 26, 0, 212)], [(41, 16, 0, 70), (1, 0, 0, 140), (52, 28, 0, 250)], [(41, 18, 0, 70), (47, 16, 0, 150), (1, 0, 0, 190)], [(47, 16, 0, 150), (1, 0, 1, 180)], [], [(63, 19, 0, 160), (1, 0, 1, 180)], [(41, 22, 0, 70), (65, 21, 0, 170)], [(65, 21, 0, 170), (1, 0, 1, 180)], [(1, 0, 1, 200)], [(1, 0, 0, 210)], [(1, 0, 0, 211)], [(50, 25, 0, 210), (39, 25, 0, 210), (52, 28, 0, 230), (45, 29, 0, 240), (46, 37, 0, 240), (44, 27, 0, 280), (58, 26, 0, 280)], [(52, 28, 0, 230), (45, 29, 0, 240), (46, 37, 0, 240), (44, 27, 0, 280), (58, 26, 0, 280)], [(44, 27, 0, 230), (58, 26, 0, 230), (52, 32, 0, 250), (51, 33, 0, 250), (49, 34, 0, 250), (53, 35, 0, 250), (48, 36, 0, 250), (46, 37, 0, 250), (45, 29, 0, 250)], [(68, 31, 0, 231), (69, 30, 0, 231), (76, 31, 0, 231), (44, 27, 0, 240), (58, 26, 0, 240), (52, 28, 0, 250), (60, 38, 0, 270), (61, 39, 0, 270), (62, 40, 0, 270), (71, 41, 0, 270), (72, 42, 0, 270)], [(46, 37, 0, 231)], [(46, 37, 0, 231)], [(44, 27, 0, 230), (58, 26, 0, 230), (52, 32, 0, 250), (51, 33, 0, 250), (49, 34, 0, 250), (53, 35, 0, 250), (48, 36, 0, 250), (46, 37, 0, 250), (45, 29, 0, 250)], [(58, 26, 0, 212), (52, 32, 0, 250), (51, 33, 0, 250), (49, 34, 0, 250), (53, 35, 0, 250), (48, 36, 0, 250), (46, 37, 0, 250), (45, 29, 0, 250)], [(52, 32, 0, 250), (51, 33, 0, 250), (49, 34, 0, 250), (53, 35, 0, 250), (48, 36, 0, 250), (46, 37, 0, 250), (45, 29, 0, 250), (44, 27, 0, 290), (58, 26, 0, 290)], [(41, 20, 0, 70), (63, 19, 0, 160), (46, 37, 0, 250), (45, 29, 0, 250)], [(41, 20, 0, 70), (63, 19, 0, 160), (46, 37, 0, 250), (45, 29, 0, 250)], [(44, 27, 0, 240), (58, 26, 0, 240), (52, 28, 0, 250)], [(60, 38, 0, 260), (61, 39, 0, 260), (71, 41, 0, 260), (72, 42, 0, 260), (46, 37, 0, 270)], [(61, 39, 0, 260), (62, 40, 0, 260), (46, 37, 0, 270)], [(62, 40, 0, 260), (46, 37, 0, 270)], [(61, 39, 0, 260), (62, 40, 0, 260), (46, 37, 0, 270)], [(62, 40, 0, 260), (46, 37, 0, 270)]]
def look (l : List (Nat × Int × Int × Int)) (n : Nat) : Int × Int × Int := match l with
  | [] => (-1, -1, -1)
  | x :: l => bif Nat.beq x.1 n then x.2 else look l n
/-- The rows of one state: the property, the new state, the break, the rule. -/
def rowOf (l : List (List (Nat × Int × Int × Int))) (i : Nat) : List (Nat × Int × Int × Int) := match l with
  | [] => []
  | r :: l => match i with | 0 => r | i + 1 => rowOf l i
def tr (s p : Int) : Int × Int × Int := look (rowOf tab (s + 1).toNat) p.toNat

def mix (s p : Int) : Int × Int × Int :=
  let a := tr s p
  if 0 ≤ a.1 then a else
  let b := tr s 1
  let c := tr 0 p
  if 0 ≤ b.1 ∧ 0 ≤ c.1 then (if b.2.2 < c.2.2 then (c.1, b.2.1, b.2.2) else c)
  else if 0 ≤ b.1 then b
  else if 0 ≤ c.1 then c
  else (0, 1, 310)

/-- The state without its bits, and these. -/
def cpOf (s : Int) : Bool := decide (128 ≤ s)
def less (s : Int) : Int := if 128 ≤ s then s - 128 else s
def zwOf (s : Int) : Bool := decide (64 ≤ less s)
def core (s : Int) : Int := if 64 ≤ less s then less s - 64 else less s

/-- LB1. -/
def lb1 (p : Int) (mark : Bool) : Int :=
  if p == 56 || p == 73 || p == 0 then 44 else if p == 59 then (if mark then 38 else 44) else if p == 70 then 63 else p

/-- A mark, by the state without bits. -/
def marked (s p : Int) : Int × Int :=
  let bit : Int := if p == 14 then 64 else 0
  let must := decide (s < 0) || s == 1 || s == 2 || s == 3 || s == 4
  if !must && !(s == 5) && !(s == 6) && !(s == 18) && !(s == 20) && !(s == 22) then (s + bit, 0)
  else if must then (27 + bit, 2) else (27 + bit, 1)

/-- Is it asked what stands behind? -/
def asks (s p r : Int) : Bool := p == 50 || (p == 47 && (s == 29 || s == 37) && decide (250 < r))
/-- Any other property, by the state without bits: what the table says is m. -/
def after (s p : Int) (m : Int × Int × Int) (wide cp unk num : Bool) : Int × Int :=
  if decide (121 < m.2.2) && p == 55 && !(s == 5) && !(s == 9) && !(s == 10) && !(s == 25) && !(s == 18) && !(s == 20) && !(s == 22) then (8, 0)
  else if decide (130 < m.2.2) && !(s == 28) && !(s == 32) && p == 53 then (11, 0)
  else if decide (130 < m.2.2) && !(s == 28) && !(s == 32) && p == 48 then (12, 0)
  else if decide (130 < m.2.2) && !(s == 28) && !(s == 32) && p == 49 then (14, 0)
  else if decide (130 < m.2.2) && !(s == 28) && !(s == 32) && p == 51 then (15, 0)
  else if asks s p m.2.2 && num then (28, 0)
  else if decide (300 < m.2.2) && (s == 27 || s == 26 || s == 28 || s == 32) && p == 47 && !wide then (16, 0)
  else if decide (300 < m.2.2) && !((s == 27 || s == 26 || s == 28 || s == 32) && p == 47) && cp && p == 44 then (27, 0)
  else if decide (300 < m.2.2) && !((s == 27 || s == 26 || s == 28 || s == 32) && p == 47) && cp && p == 58 then (26, 0)
  else if decide (300 < m.2.2) && !((s == 27 || s == 26 || s == 28 || s == 32) && p == 47) && cp && p == 52 then (28, 0)
  else if m.1 == 0 && p == 75 then (if s == 43 then (44, 0) else (43, m.2.1))
  else if decide (302 < m.2.2) && p == 76 && (s == 30 || s == 45) then (1, 0)
  else if decide (302 < m.2.2) && unk then (45, 1)
  else (m.1, m.2.1)

/-- What is done at the end: the bit of LB30, and LB8a. -/
def close (n : Int × Int) (wide zw : Bool) : Int × Int :=
  (if (n.1 == 12 || n.1 == 36) && !wide then n.1 + 128 else n.1, if zw then 0 else n.2)

def inner (s p : Int) (wide cp unk num : Bool) : Int × Int :=
  if p == 14 || p == 38 then marked s p else after s p (mix s p) wide cp unk num
/-- One step: the state, a property, is it a mark (where that is asked), is it wide, is it a pictograph that isn't assigned, is the next one a digit. -/
def next (s p : Int) (mark wide unk num : Bool) : Int × Int := close (inner (core s) (lb1 p mark) wide (cpOf s) unk num) wide (zwOf s)

def cores : List Int := [-1, 0, 1, 2, 3, 4, 5, 6, 7, 8, 9, 10, 11, 12, 13, 14, 15, 16, 17, 18, 19, 20, 21, 22, 23, 24, 25, 26, 27, 28, 29, 30, 31, 32, 33, 34, 35, 36, 37, 38, 39, 40, 41, 42, 43, 44, 45]
def states : List Int := [-1, 0, 1, 2, 3, 4, 5, 6, 7, 8, 9, 10, 11, 12, 13, 14, 15, 16, 17, 18, 19, 20, 21, 22, 23, 24, 25, 26, 27, 28, 29, 30, 31, 32, 33, 34, 35, 36, 37, 38, 39, 40, 41, 42, 43, 44, 45, 64, 65, 66, 67, 68, 69, 70, 71, 72, 73, 74, 75, 76, 77, 78, 79, 80, 81, 82, 83, 84, 85, 86, 87, 88, 89, 90, 91, 92, 93, 94, 95, 96, 97, 98, 99, 100, 101, 102, 103, 104, 105, 106, 107, 108, 109, 140, 164, 204, 228]
def props : List Int := [0, 40, 38, 3, 55, 4, 54, 41, 67, 64, 14, 56, 44, 65, 39, 57, 74, 70, 53, 48, 69, 76, 42, 71, 72, 58, 50, 68, 66, 49, 60, 62, 61, 63, 52, 47, 46, 45, 43, 75, 59, 73, 51]
/-- What is left by LB1, marks aside. -/
def plain : List Int := [40, 3, 55, 4, 54, 41, 67, 64, 44, 65, 39, 57, 74, 53, 48, 69, 76, 42, 71, 72, 58, 50, 68, 66, 49, 60, 62, 61, 63, 52, 47, 46, 45, 43, 75, 51]
end Go.Proofs.Ytnanfoahimccpaa.Lb
