/- The automaton of lines and the reference: contexts. No program in sight. -/
import Derived.Test.YtnanfoahimccpaaLbTab
namespace Go.Proofs.Ytnanfoahimccpaa.Lb

/-- Is x one of l? -/
def oneOf (l : List Int) (x : Int) : Bool := match l with
  | [] => false
  | y :: l => x == y || oneOf l x
def hardB (k : Int) : Bool := oneOf [1, 3, 5, 6] k
def markB (k : Int) : Bool := oneOf [2, 10] k
def bareB (k : Int) : Bool := hardB k || oneOf [7, 9] k
def letB (k : Int) : Bool := oneOf [12, 25] k
def wordB (k : Int) : Bool := letB k || k == 34
def signB (k : Int) : Bool := oneOf [29, 42] k

/-- What is known of the beginning of a row: the last kind (by LB1; -1: none; -2: one that isn't asked for), is ZW ahead of the spaces that end it, is there a mark behind a space there; of the row without marks: the last kind, is it CP and wide, is it a pictograph that isn't assigned, HL ahead of HY or BA, EB or such a pictograph ahead of EM, a sign ahead of a sign or of what closes, SP ahead of SP, what stands ahead of the spaces, is it a number with its signs, is it that ahead of what closes, are the regional indicators at its end odd. -/
structure Cx where
  raw : Int
  zs : Bool
  loose : Bool
  a : Int
  aw : Bool
  au : Bool
  hl : Bool
  eb : Bool
  ss : Bool
  sp2 : Bool
  so : Int
  N : Bool
  P : Bool
  r : Bool
  deriving DecidableEq

def gate (k : Int) : Int := if oneOf [1, 2, 3, 5, 6, 7, 9, 10] k then k else -2
def cls (k : Int) : Int := if k == 35 then 35 else if k == 38 then 38 else if k == 18 || k == 19 then 18 else if k == 13 then 13 else -2
def startC : Cx := ⟨-1, false, false, -1, false, false, false, false, false, false, -2, false, false, false⟩
def dropB (c : Cx) (k : Int) : Bool := markB k && c.raw != -1 && !bareB c.raw
def asRow (k : Int) : Int := if markB k then 12 else k
def looseB (c : Cx) (k : Int) : Bool := (markB k && (c.raw == 7 || c.loose)) || (k == 7 && c.loose)
def zsB (c : Cx) (k : Int) : Bool := k == 9 || (k == 7 && c.zs)
def stepC (c : Cx) (k : Int) (wd uk : Bool) : Cx :=
  if dropB c k then ⟨gate k, zsB c k, looseB c k, c.a, c.aw, c.au, c.hl, c.eb, c.ss, c.sp2, c.so, c.N, c.P, c.r⟩
  else ⟨gate k, zsB c k, looseB c k, asRow k, asRow k == 19 && wd, uk, oneOf [26, 14] (asRow k) && c.a == 25, asRow k == 21 && (c.a == 20 || c.au), oneOf [29, 42, 18, 19] (asRow k) && signB c.a, asRow k == 7 && c.a == 7,
    if asRow k == 7 then c.so else cls (asRow k), asRow k == 34 || (signB (asRow k) && c.N), oneOf [18, 19] (asRow k) && c.N, asRow k == 39 && !c.r⟩

/-! ### the reference, of contexts -/
def glueB (a b so : Int) : Bool :=
  a == 8 || b == 8 || a == 4 || (b == 4 && !oneOf [7, 14, 26] a) || oneOf [18, 19, 22, 29, 42] b || so == 35 || (so == 38 && b == 35) || (so == 18 && b == 33) || (so == 13 && b == 13)
def pairsB (a b : Int) : Bool :=
  if a == 18 || a == 19 then oneOf [36, 37] b else if a == 34 then oneOf [36, 37, 34] b else if a == 36 || a == 37 then oneOf [35, 34] b else oneOf [26, 29, 42] a && b == 34
def numberB (a b : Int) (b2n N P : Bool) : Bool :=
  if oneOf [37, 36] a && (b == 34 || (oneOf [35, 26] b && b2n)) then true
  else if oneOf [35, 26] a && b == 34 then true
  else if !(if oneOf [18, 19] a then P else N) then false
  else if oneOf [36, 37] b then true
  else !oneOf [18, 19] a && oneOf [34, 42, 29, 18, 19] b
def hyphB (hl : Bool) (a b : Int) : Bool :=
  oneOf [14, 26, 33] b || a == 15 || hl || (a == 42 && b == 25) || b == 28 || (letB a && b == 34) || (a == 34 && letB b) || (a == 37 && oneOf [27, 20, 21] b) || (oneOf [27, 20, 21] a && b == 36) || (oneOf [37, 36] a && letB b) || (letB a && oneOf [37, 36] b)
def jamoB (k : Int) : Bool := oneOf [30, 32, 31, 23, 24] k
def hangB (a b : Int) : Bool :=
  (a == 30 && oneOf [30, 32, 23, 24] b) || (oneOf [32, 23] a && oneOf [32, 31] b) || (oneOf [31, 24] a && b == 31) || (jamoB a && b == 36) || (a == 37 && jamoB b)
def lastB (a b : Int) (wd aw au r : Bool) : Bool :=
  (letB b && (letB a || a == 29)) || (wordB a && b == 35 && !wd) || (a == 19 && !aw && wordB b) || (b == 21 && (a == 20 || au)) || (b == 39 && r)
def brk (g : Bool) (a b : Int) (n hy ha la : Bool) : Int :=
  if g then 0 else if a == 7 then 1 else if a == 38 || b == 38 then 0 else if a == 16 || b == 16 then 1 else if n || hy || ha || la then 0 else 1
def nearB (raw : Int) (zs : Bool) (k : Int) : Option Int :=
  if raw == 3 && k == 5 then some 0
  else if hardB raw then some 2
  else if hardB k || oneOf [7, 9] k then some 0
  else if zs then some 1
  else if raw == 10 then some 0
  else if markB k && !bareB raw then some 0
  else none
def specB (c : Cx) (k : Int) (wd b2n numbers : Bool) : Int := match nearB c.raw c.zs k with
  | some v => v
  | none => brk (glueB c.a (asRow k) c.so) c.a (asRow k) (if numbers then numberB c.a (asRow k) b2n c.N c.P else pairsB c.a (asRow k)) (hyphB c.hl c.a (asRow k)) (hangB c.a (asRow k)) (lastB c.a (asRow k) wd c.aw c.au c.r)
def openB (c : Cx) (k : Int) (wd b2n mb : Bool) : Bool :=
  if dropB c k then c.eb else
  (c.au && (asRow k == 21 || asRow k == 36)) || c.eb
  || (if asRow k == 34 then signB c.a && c.ss else if oneOf [37, 36] (asRow k) then oneOf [18, 19] c.a && c.ss else asRow k == 26 && b2n)
  || c.loose
  || (c.sp2 && ((c.so == 38 && asRow k == 35) || (c.so == 18 && asRow k == 33) || (c.so == 13 && asRow k == 13)))
  || (oneOf [37, 36] c.a && asRow k == 35 && mb)
  || (c.a == 19 && markB c.raw)
  || specB c k wd b2n false != specB c k wd b2n true

/-! ### the contexts that come up, and the states of the automaton in them -/
def bit (n : Nat) (b : Bool) : Nat := n * 2 + b.toNat
def codeC (c : Cx) : Nat := bit (bit (bit (bit (bit (bit (bit (bit (bit (bit (bit (c.raw + 2).toNat c.zs) c.loose) c.aw) c.au) c.hl) c.eb) c.ss) c.sp2) c.N) c.P) c.r * 64 + (c.so + 2).toNat
/-- By the last kind: a context's number, the context, the states in which a digit doesn't come next, those in which it does. -/
def tabC : List (List (Nat × Cx × List Int × List Int)) := [
  [(131072, ⟨(-1), false, false, (-1), false, false, false, false, false, false, (-2), false, false, false⟩, [-1], [-1])],
  [],
  [(393216, ⟨1, false, false, 1, false, false, false, false, false, false, (-2), false, false, false⟩, [1], [1])],
  [],
  [(655360, ⟨3, false, false, 3, false, false, false, false, false, false, (-2), false, false, false⟩, [2], [2])],
  [(0, ⟨(-2), false, false, 4, false, false, false, false, false, false, (-2), false, false, false⟩, [8], [8]), (524288, ⟨2, false, false, 4, false, false, false, false, false, false, (-2), false, false, false⟩, [8], [8]), (1572864, ⟨10, false, false, 4, false, false, false, false, false, false, (-2), false, false, false⟩, [72], [72])],
  [(917504, ⟨5, false, false, 5, false, false, false, false, false, false, (-2), false, false, false⟩, [3], [3])],
  [(1048576, ⟨6, false, false, 6, false, false, false, false, false, false, (-2), false, false, false⟩, [4], [4])],
  [(1179648, ⟨7, false, false, 7, false, false, false, false, false, false, (-2), false, false, false⟩, [5], [5]), (1179663, ⟨7, false, false, 7, false, false, false, false, false, false, 13, false, false, false⟩, [22], [22]), (1179668, ⟨7, false, false, 7, false, false, false, false, false, false, 18, false, false, false⟩, [20], [20]), (1179685, ⟨7, false, false, 7, false, false, false, false, false, false, 35, false, false, false⟩, [16], [16]), (1179688, ⟨7, false, false, 7, false, false, false, false, false, false, 38, false, false, false⟩, [18], [18]), (1180160, ⟨7, false, false, 7, false, false, false, false, false, true, (-2), false, false, false⟩, [5], [5]), (1180175, ⟨7, false, false, 7, false, false, false, false, false, true, 13, false, false, false⟩, [5], [5]), (1180180, ⟨7, false, false, 7, false, false, false, false, false, true, 18, false, false, false⟩, [5], [5]), (1180197, ⟨7, false, false, 7, false, false, false, false, false, true, 35, false, false, false⟩, [16], [16]), (1180200, ⟨7, false, false, 7, false, false, false, false, false, true, 38, false, false, false⟩, [5], [5]), (1212416, ⟨7, false, true, 7, false, false, false, false, false, false, (-2), false, false, false⟩, [5, 16], [5, 16]), (1212928, ⟨7, false, true, 7, false, false, false, false, false, true, (-2), false, false, false⟩, [5, 16], [5, 16]), (1245184, ⟨7, true, false, 7, false, false, false, false, false, false, (-2), false, false, false⟩, [6], [6]), (1245696, ⟨7, true, false, 7, false, false, false, false, false, true, (-2), false, false, false⟩, [6], [6])],
  [(0, ⟨(-2), false, false, 8, false, false, false, false, false, false, (-2), false, false, false⟩, [7], [7]), (524288, ⟨2, false, false, 8, false, false, false, false, false, false, (-2), false, false, false⟩, [7], [7]), (1572864, ⟨10, false, false, 8, false, false, false, false, false, false, (-2), false, false, false⟩, [71], [71])],
  [(1507328, ⟨9, true, false, 9, false, false, false, false, false, false, (-2), false, false, false⟩, [6], [6])],
  [],
  [],
  [(0, ⟨(-2), false, false, 12, false, false, false, false, false, false, (-2), false, false, false⟩, [27], [27]), (524288, ⟨2, false, false, 12, false, false, false, false, false, false, (-2), false, false, false⟩, [27], [27]), (557056, ⟨2, false, true, 12, false, false, false, false, false, false, (-2), false, false, false⟩, [16, 27], [16, 27]), (1572864, ⟨10, false, false, 12, false, false, false, false, false, false, (-2), false, false, false⟩, [91], [91]), (1605632, ⟨10, false, true, 12, false, false, false, false, false, false, (-2), false, false, false⟩, [80, 91], [80, 91])],
  [(15, ⟨(-2), false, false, 13, false, false, false, false, false, false, 13, false, false, false⟩, [21], [21]), (524303, ⟨2, false, false, 13, false, false, false, false, false, false, 13, false, false, false⟩, [21], [21]), (1572879, ⟨10, false, false, 13, false, false, false, false, false, false, 13, false, false, false⟩, [85], [85])],
  [(0, ⟨(-2), false, false, 14, false, false, false, false, false, false, (-2), false, false, false⟩, [9], [9]), (4096, ⟨(-2), false, false, 14, false, false, true, false, false, false, (-2), false, false, false⟩, [25], [25]), (524288, ⟨2, false, false, 14, false, false, false, false, false, false, (-2), false, false, false⟩, [9], [9]), (528384, ⟨2, false, false, 14, false, false, true, false, false, false, (-2), false, false, false⟩, [25], [25]), (1572864, ⟨10, false, false, 14, false, false, false, false, false, false, (-2), false, false, false⟩, [73], [73]), (1576960, ⟨10, false, false, 14, false, false, true, false, false, false, (-2), false, false, false⟩, [89], [89])],
  [(0, ⟨(-2), false, false, 15, false, false, false, false, false, false, (-2), false, false, false⟩, [24], [24]), (524288, ⟨2, false, false, 15, false, false, false, false, false, false, (-2), false, false, false⟩, [24], [24]), (1572864, ⟨10, false, false, 15, false, false, false, false, false, false, (-2), false, false, false⟩, [88], [88])],
  [(0, ⟨(-2), false, false, 16, false, false, false, false, false, false, (-2), false, false, false⟩, [23], [23]), (524288, ⟨2, false, false, 16, false, false, false, false, false, false, (-2), false, false, false⟩, [23], [23]), (1572864, ⟨10, false, false, 16, false, false, false, false, false, false, (-2), false, false, false⟩, [87], [87])],
  [],
  [(20, ⟨(-2), false, false, 18, false, false, false, false, false, false, 18, false, false, false⟩, [11], [11]), (148, ⟨(-2), false, false, 18, false, false, false, false, false, false, 18, false, true, false⟩, [35], [35]), (1044, ⟨(-2), false, false, 18, false, false, false, false, true, false, 18, false, false, false⟩, [11], [11]), (1172, ⟨(-2), false, false, 18, false, false, false, false, true, false, 18, false, true, false⟩, [11], [11]), (524308, ⟨2, false, false, 18, false, false, false, false, false, false, 18, false, false, false⟩, [11], [11]), (524436, ⟨2, false, false, 18, false, false, false, false, false, false, 18, false, true, false⟩, [35], [35]), (525332, ⟨2, false, false, 18, false, false, false, false, true, false, 18, false, false, false⟩, [11], [11]), (525460, ⟨2, false, false, 18, false, false, false, false, true, false, 18, false, true, false⟩, [11], [11]), (1572884, ⟨10, false, false, 18, false, false, false, false, false, false, 18, false, false, false⟩, [75], [75]), (1573012, ⟨10, false, false, 18, false, false, false, false, false, false, 18, false, true, false⟩, [99], [99]), (1573908, ⟨10, false, false, 18, false, false, false, false, true, false, 18, false, false, false⟩, [75], [75]), (1574036, ⟨10, false, false, 18, false, false, false, false, true, false, 18, false, true, false⟩, [75], [75])],
  [(20, ⟨(-2), false, false, 19, false, false, false, false, false, false, 18, false, false, false⟩, [140], [140]), (148, ⟨(-2), false, false, 19, false, false, false, false, false, false, 18, false, true, false⟩, [164], [164]), (1044, ⟨(-2), false, false, 19, false, false, false, false, true, false, 18, false, false, false⟩, [140], [140]), (1172, ⟨(-2), false, false, 19, false, false, false, false, true, false, 18, false, true, false⟩, [140], [140]), (16404, ⟨(-2), false, false, 19, true, false, false, false, false, false, 18, false, false, false⟩, [12], [12]), (16532, ⟨(-2), false, false, 19, true, false, false, false, false, false, 18, false, true, false⟩, [36], [36]), (17428, ⟨(-2), false, false, 19, true, false, false, false, true, false, 18, false, false, false⟩, [12], [12]), (17556, ⟨(-2), false, false, 19, true, false, false, false, true, false, 18, false, true, false⟩, [12], [12]), (524308, ⟨2, false, false, 19, false, false, false, false, false, false, 18, false, false, false⟩, [12, 140], [12, 140]), (524436, ⟨2, false, false, 19, false, false, false, false, false, false, 18, false, true, false⟩, [36, 164], [36, 164]), (525332, ⟨2, false, false, 19, false, false, false, false, true, false, 18, false, false, false⟩, [12, 140], [12, 140]), (525460, ⟨2, false, false, 19, false, false, false, false, true, false, 18, false, true, false⟩, [12, 140], [12, 140]), (540692, ⟨2, false, false, 19, true, false, false, false, false, false, 18, false, false, false⟩, [12, 140], [12, 140]), (540820, ⟨2, false, false, 19, true, false, false, false, false, false, 18, false, true, false⟩, [36, 164], [36, 164]), (541716, ⟨2, false, false, 19, true, false, false, false, true, false, 18, false, false, false⟩, [12, 140], [12, 140]), (541844, ⟨2, false, false, 19, true, false, false, false, true, false, 18, false, true, false⟩, [12, 140], [12, 140]), (1572884, ⟨10, false, false, 19, false, false, false, false, false, false, 18, false, false, false⟩, [76], [76]), (1573012, ⟨10, false, false, 19, false, false, false, false, false, false, 18, false, true, false⟩, [100], [100]), (1573908, ⟨10, false, false, 19, false, false, false, false, true, false, 18, false, false, false⟩, [76], [76]), (1574036, ⟨10, false, false, 19, false, false, false, false, true, false, 18, false, true, false⟩, [76], [76]), (1589268, ⟨10, false, false, 19, true, false, false, false, false, false, 18, false, false, false⟩, [76], [76]), (1589396, ⟨10, false, false, 19, true, false, false, false, false, false, 18, false, true, false⟩, [100], [100]), (1590292, ⟨10, false, false, 19, true, false, false, false, true, false, 18, false, false, false⟩, [76], [76]), (1590420, ⟨10, false, false, 19, true, false, false, false, true, false, 18, false, true, false⟩, [76], [76])],
  [(0, ⟨(-2), false, false, 20, false, false, false, false, false, false, (-2), false, false, false⟩, [30], [30]), (524288, ⟨2, false, false, 20, false, false, false, false, false, false, (-2), false, false, false⟩, [30], [30]), (1572864, ⟨10, false, false, 20, false, false, false, false, false, false, (-2), false, false, false⟩, [94], [94])],
  [(0, ⟨(-2), false, false, 21, false, false, false, false, false, false, (-2), false, false, false⟩, [31], [31]), (2048, ⟨(-2), false, false, 21, false, false, false, true, false, false, (-2), false, false, false⟩, [1, 31], [1, 31]), (524288, ⟨2, false, false, 21, false, false, false, false, false, false, (-2), false, false, false⟩, [31], [31]), (526336, ⟨2, false, false, 21, false, false, false, true, false, false, (-2), false, false, false⟩, [27, 31], [27, 31]), (1572864, ⟨10, false, false, 21, false, false, false, false, false, false, (-2), false, false, false⟩, [95], [95]), (1574912, ⟨10, false, false, 21, false, false, false, true, false, false, (-2), false, false, false⟩, [91, 95], [91, 95])],
  [(0, ⟨(-2), false, false, 22, false, false, false, false, false, false, (-2), false, false, false⟩, [13], [13]), (524288, ⟨2, false, false, 22, false, false, false, false, false, false, (-2), false, false, false⟩, [13], [13]), (1572864, ⟨10, false, false, 22, false, false, false, false, false, false, (-2), false, false, false⟩, [77], [77])],
  [(0, ⟨(-2), false, false, 23, false, false, false, false, false, false, (-2), false, false, false⟩, [41], [41]), (524288, ⟨2, false, false, 23, false, false, false, false, false, false, (-2), false, false, false⟩, [41], [41]), (1572864, ⟨10, false, false, 23, false, false, false, false, false, false, (-2), false, false, false⟩, [105], [105])],
  [(0, ⟨(-2), false, false, 24, false, false, false, false, false, false, (-2), false, false, false⟩, [42], [42]), (524288, ⟨2, false, false, 24, false, false, false, false, false, false, (-2), false, false, false⟩, [42], [42]), (1572864, ⟨10, false, false, 24, false, false, false, false, false, false, (-2), false, false, false⟩, [106], [106])],
  [(0, ⟨(-2), false, false, 25, false, false, false, false, false, false, (-2), false, false, false⟩, [26], [26]), (524288, ⟨2, false, false, 25, false, false, false, false, false, false, (-2), false, false, false⟩, [26], [26]), (1572864, ⟨10, false, false, 25, false, false, false, false, false, false, (-2), false, false, false⟩, [90], [90])],
  [(0, ⟨(-2), false, false, 26, false, false, false, false, false, false, (-2), false, false, false⟩, [10], [28]), (4096, ⟨(-2), false, false, 26, false, false, true, false, false, false, (-2), false, false, false⟩, [25], [28]), (524288, ⟨2, false, false, 26, false, false, false, false, false, false, (-2), false, false, false⟩, [10], [10]), (528384, ⟨2, false, false, 26, false, false, true, false, false, false, (-2), false, false, false⟩, [25], [25]), (1572864, ⟨10, false, false, 26, false, false, false, false, false, false, (-2), false, false, false⟩, [74], [74]), (1576960, ⟨10, false, false, 26, false, false, true, false, false, false, (-2), false, false, false⟩, [89], [89])],
  [(0, ⟨(-2), false, false, 27, false, false, false, false, false, false, (-2), false, false, false⟩, [31], [31]), (8192, ⟨(-2), false, false, 27, false, true, false, false, false, false, (-2), false, false, false⟩, [31, 45], [31, 45]), (524288, ⟨2, false, false, 27, false, false, false, false, false, false, (-2), false, false, false⟩, [31], [31]), (532480, ⟨2, false, false, 27, false, true, false, false, false, false, (-2), false, false, false⟩, [31, 45], [31, 45]), (1572864, ⟨10, false, false, 27, false, false, false, false, false, false, (-2), false, false, false⟩, [95], [95]), (1581056, ⟨10, false, false, 27, false, true, false, false, false, false, (-2), false, false, false⟩, [95, 109], [95, 109])],
  [(0, ⟨(-2), false, false, 28, false, false, false, false, false, false, (-2), false, false, false⟩, [0], [0]), (524288, ⟨2, false, false, 28, false, false, false, false, false, false, (-2), false, false, false⟩, [0], [0]), (1572864, ⟨10, false, false, 28, false, false, false, false, false, false, (-2), false, false, false⟩, [64], [64])],
  [(0, ⟨(-2), false, false, 29, false, false, false, false, false, false, (-2), false, false, false⟩, [14], [14]), (256, ⟨(-2), false, false, 29, false, false, false, false, false, false, (-2), true, false, false⟩, [34], [34]), (1024, ⟨(-2), false, false, 29, false, false, false, false, true, false, (-2), false, false, false⟩, [14], [14]), (1280, ⟨(-2), false, false, 29, false, false, false, false, true, false, (-2), true, false, false⟩, [14], [14]), (524288, ⟨2, false, false, 29, false, false, false, false, false, false, (-2), false, false, false⟩, [14], [14]), (524544, ⟨2, false, false, 29, false, false, false, false, false, false, (-2), true, false, false⟩, [34], [34]), (525312, ⟨2, false, false, 29, false, false, false, false, true, false, (-2), false, false, false⟩, [14], [14]), (525568, ⟨2, false, false, 29, false, false, false, false, true, false, (-2), true, false, false⟩, [14], [14]), (1572864, ⟨10, false, false, 29, false, false, false, false, false, false, (-2), false, false, false⟩, [78], [78]), (1573120, ⟨10, false, false, 29, false, false, false, false, false, false, (-2), true, false, false⟩, [98], [98]), (1573888, ⟨10, false, false, 29, false, false, false, false, true, false, (-2), false, false, false⟩, [78], [78]), (1574144, ⟨10, false, false, 29, false, false, false, false, true, false, (-2), true, false, false⟩, [78], [78])],
  [(0, ⟨(-2), false, false, 30, false, false, false, false, false, false, (-2), false, false, false⟩, [38], [38]), (524288, ⟨2, false, false, 30, false, false, false, false, false, false, (-2), false, false, false⟩, [38], [38]), (1572864, ⟨10, false, false, 30, false, false, false, false, false, false, (-2), false, false, false⟩, [102], [102])],
  [(0, ⟨(-2), false, false, 31, false, false, false, false, false, false, (-2), false, false, false⟩, [40], [40]), (524288, ⟨2, false, false, 31, false, false, false, false, false, false, (-2), false, false, false⟩, [40], [40]), (1572864, ⟨10, false, false, 31, false, false, false, false, false, false, (-2), false, false, false⟩, [104], [104])],
  [(0, ⟨(-2), false, false, 32, false, false, false, false, false, false, (-2), false, false, false⟩, [39], [39]), (524288, ⟨2, false, false, 32, false, false, false, false, false, false, (-2), false, false, false⟩, [39], [39]), (1572864, ⟨10, false, false, 32, false, false, false, false, false, false, (-2), false, false, false⟩, [103], [103])],
  [(0, ⟨(-2), false, false, 33, false, false, false, false, false, false, (-2), false, false, false⟩, [19], [19]), (524288, ⟨2, false, false, 33, false, false, false, false, false, false, (-2), false, false, false⟩, [19], [19]), (1572864, ⟨10, false, false, 33, false, false, false, false, false, false, (-2), false, false, false⟩, [83], [83])],
  [(256, ⟨(-2), false, false, 34, false, false, false, false, false, false, (-2), true, false, false⟩, [28, 32], [28, 32]), (524544, ⟨2, false, false, 34, false, false, false, false, false, false, (-2), true, false, false⟩, [28, 32], [28, 32]), (1573120, ⟨10, false, false, 34, false, false, false, false, false, false, (-2), true, false, false⟩, [92, 96], [92, 96])],
  [(37, ⟨(-2), false, false, 35, false, false, false, false, false, false, 35, false, false, false⟩, [16], [16, 28]), (524325, ⟨2, false, false, 35, false, false, false, false, false, false, 35, false, false, false⟩, [16], [16]), (1572901, ⟨10, false, false, 35, false, false, false, false, false, false, 35, false, false, false⟩, [80], [80])],
  [(0, ⟨(-2), false, false, 36, false, false, false, false, false, false, (-2), false, false, false⟩, [37], [37]), (524288, ⟨2, false, false, 36, false, false, false, false, false, false, (-2), false, false, false⟩, [37], [37]), (1572864, ⟨10, false, false, 36, false, false, false, false, false, false, (-2), false, false, false⟩, [101], [101])],
  [(0, ⟨(-2), false, false, 37, false, false, false, false, false, false, (-2), false, false, false⟩, [29], [29]), (524288, ⟨2, false, false, 37, false, false, false, false, false, false, (-2), false, false, false⟩, [29], [29]), (1572864, ⟨10, false, false, 37, false, false, false, false, false, false, (-2), false, false, false⟩, [93], [93])],
  [(40, ⟨(-2), false, false, 38, false, false, false, false, false, false, 38, false, false, false⟩, [17], [17]), (524328, ⟨2, false, false, 38, false, false, false, false, false, false, 38, false, false, false⟩, [17], [17]), (1572904, ⟨10, false, false, 38, false, false, false, false, false, false, 38, false, false, false⟩, [81], [81])],
  [(0, ⟨(-2), false, false, 39, false, false, false, false, false, false, (-2), false, false, false⟩, [44], [44]), (64, ⟨(-2), false, false, 39, false, false, false, false, false, false, (-2), false, false, true⟩, [43], [43]), (524288, ⟨2, false, false, 39, false, false, false, false, false, false, (-2), false, false, false⟩, [44], [44]), (524352, ⟨2, false, false, 39, false, false, false, false, false, false, (-2), false, false, true⟩, [43], [43]), (1572864, ⟨10, false, false, 39, false, false, false, false, false, false, (-2), false, false, false⟩, [108], [108]), (1572928, ⟨10, false, false, 39, false, false, false, false, false, false, (-2), false, false, true⟩, [107], [107])],
  [],
  [],
  [(0, ⟨(-2), false, false, 42, false, false, false, false, false, false, (-2), false, false, false⟩, [15], [15]), (256, ⟨(-2), false, false, 42, false, false, false, false, false, false, (-2), true, false, false⟩, [33], [33]), (1024, ⟨(-2), false, false, 42, false, false, false, false, true, false, (-2), false, false, false⟩, [15], [15]), (1280, ⟨(-2), false, false, 42, false, false, false, false, true, false, (-2), true, false, false⟩, [15], [15]), (524288, ⟨2, false, false, 42, false, false, false, false, false, false, (-2), false, false, false⟩, [15], [15]), (524544, ⟨2, false, false, 42, false, false, false, false, false, false, (-2), true, false, false⟩, [33], [33]), (525312, ⟨2, false, false, 42, false, false, false, false, true, false, (-2), false, false, false⟩, [15], [15]), (525568, ⟨2, false, false, 42, false, false, false, false, true, false, (-2), true, false, false⟩, [15], [15]), (1572864, ⟨10, false, false, 42, false, false, false, false, false, false, (-2), false, false, false⟩, [79], [79]), (1573120, ⟨10, false, false, 42, false, false, false, false, false, false, (-2), true, false, false⟩, [97], [97]), (1573888, ⟨10, false, false, 42, false, false, false, false, true, false, (-2), false, false, false⟩, [79], [79]), (1574144, ⟨10, false, false, 42, false, false, false, false, true, false, (-2), true, false, false⟩, [79], [79])]]
def lookE (l : List (Nat × Cx × List Int × List Int)) (n : Nat) : Option (Cx × List Int × List Int) := match l with
  | [] => none
  | e :: l => match Nat.beq e.1 n with | true => some e.2 | false => lookE l n
def rowC (l : List (List (Nat × Cx × List Int × List Int))) (i : Nat) : List (Nat × Cx × List Int × List Int) := match l with
  | [] => []
  | r :: l => match i with | 0 => r | i + 1 => rowC l i
def entC (c : Cx) : Option (Cx × List Int × List Int) := lookE (rowC tabC (c.a + 1).toNat) (codeC c)
def stsE (e : Cx × List Int × List Int) (f : Bool) : List Int := if f then e.2.2 else e.2.1

/-- LB1 for kinds. -/
def numK (k : Int) : Int := look0 props k.toNat
where look0 (l : List Int) (i : Nat) : Int := match l with
  | [] => 0
  | x :: l => match i with | 0 => x | i + 1 => look0 l i
def nextK (s p : Int) (wd uk num : Bool) : Int × Int := close (inner (core s) p wd (cpOf s) uk num) wd (zwOf s)
def kindsR : List Int := [1, 2, 3, 4, 5, 6, 7, 8, 9, 10, 12, 13, 14, 15, 16, 18, 19, 20, 21, 22, 23, 24, 25, 26, 27, 28, 29, 30, 31, 32, 33, 34, 35, 36, 37, 38, 39, 42]
/-- The kinds, wide or not; and pictographs that aren't assigned. -/
def syms : List (Int × Bool × Bool) := (kindsR.flatMap fun k => [(k, false, false), (k, true, false)]) ++ [(27, false, true), (27, true, true)]
/-- One step, checked: the next is a digit or not (nb). -/
def okB (c : Cx) (k : Int) (wd : Bool) (v : Int) (nb : Bool) : Bool :=
  c.raw == -1 || (if nb then openB c k wd true false || v == specB c k wd true true
    else (openB c k wd false false || v == specB c k wd false true) && (openB c k wd false true || v == specB c k wd false true) && (openB c k wd true true || v == specB c k wd true true))
def okE (e : Cx × List Int × List Int) : Bool := syms.all fun y => [true, false].all fun nb =>
  match entC (stepC e.1 y.1 y.2.1 y.2.2) with
  | some e2 => decide (e2.1 = stepC e.1 y.1 y.2.1 y.2.2) && (stsE e (y.1 == 34)).all fun s =>
      (stsE e2 nb).any (fun t => (nextK s (numK y.1) y.2.1 y.2.2 nb).1 == t) && okB e.1 y.1 y.2.1 (nextK s (numK y.1) y.2.1 y.2.2 nb).2 nb
  | none => false

end Go.Proofs.Ytnanfoahimccpaa.Lb
