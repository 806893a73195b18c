/-
  THE PLAIN FUNCTIONS OF THE LINE FINDER: no Go in sight. What 'next', 'startLine', 'endLine' compute on the finder's three fields.
-/
namespace Go.Proofs.Qxb6601280a.Pl

/-- a line break -/
def brk (c : Int) : Bool := c == 10 || c == 13 || c == 133 || c == 8232 || c == 8233
/-- a blank -/
def blk (c : Int) : Bool := c == 32 || c == 9
/-- the character of the directive's name at place m -/
def nam (m : Int) : Int := if m = 0 then 37 else if m = 1 then 89 else if m = 2 then 65 else if m = 3 then 77 else 76

/-- startLine: the state behind it -/
def slS (d : Bool) (st c : Int) : Int :=
  if d = true ∧ c ≠ 46 ∧ c ≠ 37 then 10 else if st = 0 ∧ c = 65279 then 1 else
  if c = 37 then 3 else if c = 46 then 7 else if c = 35 then 9 else if blk c = true then 2 else 10
/-- startLine: 'matched' behind it -/
def slM (d : Bool) (st m c : Int) : Int :=
  if d = true ∧ c ≠ 46 ∧ c ≠ 37 then m else if st = 0 ∧ c = 65279 then m else if c = 37 then 1 else if c = 46 then 1 else m

/-- endLine: 'inDocument' behind it -/
def elD (d : Bool) (st m : Int) : Bool := if st = 7 then decide (m < 3) else if st = 8 then false else if st = 10 then true else d

/-- next, at a character that is no break: the state behind it -/
def nxS (d : Bool) (st m c : Int) : Int :=
  if st = 0 ∨ st = 1 then slS d st c else
  if st = 2 then (if c = 35 then 9 else if blk c = true then 2 else 10) else
  if st = 3 then (if m = 5 ∧ blk c = true then 4 else if m < 5 ∧ c = nam m then 3 else 9) else
  if st = 4 then (if 48 ≤ c ∧ c ≤ 57 then 5 else if blk c = true then 4 else 9) else
  if st = 5 then (if c = 46 then 6 else if c < 48 ∨ 57 < c then 9 else 5) else
  if st = 6 then 9 else
  if st = 7 then (if m = 3 ∧ blk c = true then 8 else if m < 3 ∧ c = 46 then 7 else 10) else st
/-- next, at a character that is no break: 'matched' behind it -/
def nxM (d : Bool) (st m c : Int) : Int :=
  if st = 0 ∨ st = 1 then slM d st m c else
  if st = 3 then (if m = 5 ∧ blk c = true then m else if m < 5 ∧ c = nam m then m + 1 else m) else
  if st = 7 then (if m = 3 ∧ blk c = true then m else if m < 3 ∧ c = 46 then m + 1 else m) else m
/-- next's answer at a character that is no break -/
def nxG (st c : Int) : Bool := if st = 6 then c == 50 else false

/-- next, whole -/
def ngot (st c : Int) : Bool := if brk c = true then false else nxG st c
def ndoc (d : Bool) (st m c : Int) : Bool := if brk c = true then elD d st m else d
def nst (d : Bool) (st m c : Int) : Int := if brk c = true then 1 else nxS d st m c
def nmat (d : Bool) (st m c : Int) : Int := if brk c = true then m else nxM d st m c

end Go.Proofs.Qxb6601280a.Pl
