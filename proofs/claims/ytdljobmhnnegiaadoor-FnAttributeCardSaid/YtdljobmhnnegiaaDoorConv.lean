/- The plain functions of the converter: what it makes of what is written to it, with no program in sight. -/
import Derived.Test.YtdljobmhnnegiaaDoorWriteF
import Derived.Lib.SpaceU
import Derived.Lib.Case
namespace Go.Proofs.YtdljobmhnnegiaaDoor

/-- An event (its package left out: it is the converter's). -/
structure Ev where
  action : List UInt8
  test : List UInt8
  output : List UInt8
  otype : List UInt8
  fb : List UInt8
  key : List UInt8
  value : List UInt8
  path : List UInt8

/-- The converter's state; the input buffer stands beside it. -/
structure CS where
  name : List UInt8
  report : List (List UInt8 × List UInt8)
  result : List UInt8
  out : LB
  mFraming : Bool
  mErr : Bool
  mEsc : Bool
  framing : Bool
  fb : List UInt8
  evs : List Ev

/-- An event with the action and the test alone. -/
def Ev.of (a t : List UInt8) : Ev := ⟨a, t, [], [], [], [], [], []⟩
/-- An event of output. -/
def Ev.out (o ty : List UInt8) : Ev := ⟨[111, 117, 116, 112, 117, 116], [], o, ty, [], [], [], []⟩

/-- writeEvent. -/
def emit (s : CS) (e : Ev) : CS := { s with evs := s.evs ++ [if e.test = [] then { e with test := s.name } else e] }

def emitN (s : CS) (o ty : List UInt8) : CS := if o = [] then s else emit s (.out o ty)

/-- The loop of writeOutputEvent: acc was looked through, rest comes. -/
def woL : Nat → CS → List UInt8 → List UInt8 → List UInt8 → CS
  | 0, s, ty, acc, rest => emitN s (acc ++ rest) ty
  | _ + 1, s, ty, acc, [] => emitN s acc ty
  | q + 1, s, ty, acc, c :: r =>
    if s.mEsc = true then woL q { s with mEsc := false } ty (acc ++ [c]) r
    else if c = 27 then woL q { s with mEsc := true } ty acc r
    else if c = 15 then woL q { emitN s acc ty with mErr := true } [101, 114, 114, 111, 114] (r.take 1) (r.drop 1)
    else if c = 14 then
      (if r.head? = some 10 then woL q { emit s (.out (acc ++ [10]) ty) with mErr := false } [] ((r.drop 1).take 1) ((r.drop 1).drop 1)
       else woL q { emit s (.out acc ty) with mErr := false } [] (r.take 1) (r.drop 1))
    else woL q s ty (acc ++ [c]) r
/-- The type of output at the start. -/
def woT (s : CS) : List UInt8 := if s.framing = true then [102, 114, 97, 109, 101] else if s.mErr = true then [101, 114, 114, 111, 114, 45, 99, 111, 110, 116, 105, 110, 117, 101] else []
/-- writeOutputEvent. -/
def woF (s : CS) (l : List UInt8) : CS := woL l.length s (woT s) [] l

/-- output.write. -/
def outW (s : CS) (l : List UInt8) : CS := { (writeF woF woF 1024 l.length (s.out, s) l).2 with out := (writeF woF woF 1024 l.length (s.out, s) l).1 }
/-- output.flush. -/
def outFl (s : CS) : CS := { (flushF woF s.out s).2 with out := (flushF woF s.out s).1 }
/-- writeFraming. -/
def frameF (s : CS) (l : List UInt8) : CS := { outW { s with framing := true } l with framing := false }
/-- flushReport. -/
def flushRep (s : CS) (d : Nat) : CS := { s with name := [], report := s.report.take d, evs := s.evs ++ (s.report.drop d).reverse.map fun p => Ev.of p.1 p.2 }

/-- zzIndex: the first place of sub, from the i-th on. -/
def idxF (sub : List UInt8) : List UInt8 → Nat → Option Nat
  | [], i => if sub = [] then some i else none
  | c :: r, i => if hasPre (c :: r) sub = true then some i else idxF sub r (i + 1)
/-- zzCut. -/
def cutF (l sep : List UInt8) : List UInt8 × List UInt8 :=
  match idxF sep l 0 with
  | some i => (l.take i, l.drop (i + sep.length))
  | none => (l, [])

/-- A line without its end. -/
def trimF (l : List UInt8) : List UInt8 :=
  if l.getLast? = some 10 then (if l.dropLast.getLast? = some 13 then l.dropLast.dropLast else l.dropLast) else l

def tPASS : List UInt8 := [80, 65, 83, 83]
def tFAIL : List UInt8 := [70, 65, 73, 76]
def tFAILt : List UInt8 := [70, 65, 73, 76, 9]
def tpass : List UInt8 := [112, 97, 115, 115]
def tfail : List UInt8 := [102, 97, 105, 108]
def tskip : List UInt8 := [115, 107, 105, 112]
def tName : List UInt8 := [61, 61, 61, 32, 78, 65, 77, 69]
def tNameLine : List UInt8 := [61, 61, 61, 32, 78, 65, 77, 69, 32, 32, 10]
def tSkipPre : List UInt8 := [63, 32, 32, 32, 9]
def tSkipSuf : List UInt8 := [9, 91, 110, 111, 32, 116, 101, 115, 116, 32, 102, 105, 108, 101, 115, 93]
/-- "=== RUN   ", "=== PAUSE ", "=== CONT  ", "=== NAME  ", "=== PASS  ", "=== FAIL  ", "=== SKIP  ", "=== ATTR  ", "=== ARTIFACTS " -/
def tUpd : List (List UInt8) :=
  [[61, 61, 61, 32, 82, 85, 78, 32, 32, 32], [61, 61, 61, 32, 80, 65, 85, 83, 69, 32], [61, 61, 61, 32, 67, 79, 78, 84, 32, 32], [61, 61, 61, 32, 78, 65, 77, 69, 32, 32], [61, 61, 61, 32, 80, 65, 83, 83, 32, 32],
   [61, 61, 61, 32, 70, 65, 73, 76, 32, 32], [61, 61, 61, 32, 83, 75, 73, 80, 32, 32], [61, 61, 61, 32, 65, 84, 84, 82, 32, 32], [61, 61, 61, 32, 65, 82, 84, 73, 70, 65, 67, 84, 83, 32]]
/-- "--- PASS: ", "--- FAIL: ", "--- SKIP: ", "--- BENCH: " -/
def tRep : List (List UInt8) :=
  [[45, 45, 45, 32, 80, 65, 83, 83, 58, 32], [45, 45, 45, 32, 70, 65, 73, 76, 58, 32], [45, 45, 45, 32, 83, 75, 73, 80, 58, 32], [45, 45, 45, 32, 66, 69, 78, 67, 72, 58, 32]]
def t4 : List UInt8 := [32, 32, 32, 32]
def anyPre (l : List UInt8) (ps : List (List UInt8)) : Bool := ps.any (hasPre l)
/-- Four blanks after four blanks are taken off; how often. -/
def dedent : Nat → List UInt8 → Nat → List UInt8 × Nat
  | 0, l, n => (l, n)
  | q + 1, l, n => if hasPre l t4 = true then dedent q (l.drop 4) (n + 1) else (l, n)
def lowF (l : List UInt8) : List UInt8 := Lib.toLowerA l
/-- The action that a line of framing tells, and the rest of it. -/
def actF (l : List UInt8) : List UInt8 := lowF (Lib.trimSuffix (cutF (l.drop 4) [32]).1 [58])
def nameF (l : List UInt8) : List UInt8 := Lib.trimSpaceD (cutF (l.drop 4) [32]).2

/-- A report's test: without its time. -/
def repN (nm : List UInt8) : List UInt8 := match idxF [32, 40] nm 0 with | some i => nm.take i | none => nm
/-- A report: "--- PASS: .." -/
def repF (s : CS) (saw : Bool) (orig act nm : List UInt8) (ind : Nat) : CS :=
  if s.report.length < ind then outW s orig
  else frameF { flushRep { s with mFraming := saw } ind with name := repN nm, report := (flushRep { s with mFraming := saw } ind).report ++ [(act, repN nm)] } orig
def tArt : List UInt8 := [97, 114, 116, 105, 102, 97, 99, 116, 115]
def tAttr : List UInt8 := [97, 116, 116, 114]
def tname : List UInt8 := [110, 97, 109, 101]
def tpause : List UInt8 := [112, 97, 117, 115, 101]
/-- What an update tells: the test and the event. -/
def updE (act nm : List UInt8) : List UInt8 × Ev :=
  if act = tArt then ((cutF nm [32]).1, { Ev.of act [] with path := (cutF nm [32]).2 })
  else if act = tAttr then ((cutF nm [32]).1, { Ev.of act [] with key := (cutF (cutF nm [32]).2 [32]).1, value := (cutF (cutF nm [32]).2 [32]).2 })
  else (nm, Ev.of act [])
/-- An update, its event known. -/
def updG (s : CS) (saw : Bool) (orig act nm : List UInt8) (e : Ev) : CS :=
  if act = tname then { flushRep { s with mFraming := saw } 0 with name := nm }
  else if act = tpause then emit (frameF { flushRep { s with mFraming := saw } 0 with name := nm } orig) e
  else frameF (emit { flushRep { s with mFraming := saw } 0 with name := nm } e) orig
/-- An update: "=== RUN .." -/
def updF (s : CS) (saw : Bool) (orig act nm : List UInt8) : CS := updG s saw orig act (updE act nm).1 (updE act nm).2
/-- The test whose output it is, by its blanks. -/
def nameAt (s : CS) (ind : Nat) : CS := match ind with | 0 => s | k + 1 => match s.report[k]? with | some p => { s with name := p.2 } | none => s
/-- Behind the marker, and behind the two lines that end all. -/
def lineHF (s : CS) (saw : Bool) (line : List UInt8) : CS :=
  if anyPre line tUpd = true then updF s saw line (actF line) (nameF line)
  else
    if anyPre (dedent line.length line 0).1 tRep = true then repF s saw line (actF (dedent line.length line 0).1) (nameF (dedent line.length line 0).1) (dedent line.length line 0).2
    else outW (nameAt s (dedent line.length line 0).2) line
/-- What stands behind the marker. -/
def markedF (s : CS) (saw : Bool) (line : List UInt8) : CS :=
  let l2 := if trimF line = tName then tNameLine else line
  let tr := if trimF line = tName then tNameLine.dropLast else trimF line
  if tr = tPASS ∨ tr = tFAIL ∨ hasPre tr tFAILt = true then
    { frameF { flushRep s 0 with mFraming := saw } l2 with result := if tr = tPASS then tpass else tfail }
  else lineHF (if hasPre l2 tSkipPre = true ∧ hasSuf tr tSkipSuf = true ∧ s.report = [] then { s with result := tskip } else s) saw l2
/-- handleInputLine. -/
def handleF (s : CS) (line : List UInt8) : CS :=
  match line with
  | [] => s
  | c :: r =>
    if s.mFraming = true ∧ c ≠ 22 then outW s line
    else if c = 22 then markedF (outFl s) true r
    else markedF s false line

/-- What a new converter's state is. -/
def initS : CS := ⟨[], [], [], ⟨[], false, false⟩, false, false, false, false, [], []⟩
/-- The state with its input buffer. -/
abbrev CI := LB × CS
def startF : CI := (⟨[], false, false⟩, emit initS (Ev.of [115, 116, 97, 114, 116] []))
/-- Write. -/
def inW (x : CI) (l : List UInt8) : CI := writeF handleF outW 4096 l.length x l
def exitF (x : CI) (exit : Int) : CI :=
  (x.1, if exit = 1 then (if x.2.result = tskip then x.2 else { x.2 with result := tpass }) else if exit = 2 then { x.2 with result := tfail } else x.2)
def failF (x : CI) (f : List UInt8) : CI := (x.1, if f = [] then x.2 else { x.2 with fb := f })
/-- Close. -/
def closeF (x : CI) : CI :=
  let y := flushF outW x.1 x.2
  let s := outFl y.2
  (y.1, if s.result = [] then s else emit s { Ev.of s.result [] with fb := if s.result = tfail then s.fb else [] })
/-- impl.Convert. -/
def convF (ps : List (List UInt8)) (exit : Int) (f : List UInt8) (close : Bool) : List Ev :=
  let x := failF (exitF (ps.foldl inW startF) exit) f
  (if close = true then closeF x else x).2.evs

end Go.Proofs.YtdljobmhnnegiaaDoor
