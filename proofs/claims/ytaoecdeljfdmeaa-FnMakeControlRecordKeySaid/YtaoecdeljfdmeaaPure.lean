/- What the reference writes, as plain functions on numbers and lists: trees, fields, octets. No Go and no memory in sight. -/
namespace Go.Proofs.Ytaoecdeljfdmeaa

/-- A field's description. -/
inductive Fld where
  | mk (kind fr upto nul tag df of : Int) (sub : List Fld)
/-- What a field says. -/
inductive Tree where
  | mk (n : Int) (s : List UInt8) (nul : Bool) (l : List Tree) (u : List (Nat × List UInt8))

def Fld.kind : Fld → Int | .mk a _ _ _ _ _ _ _ => a
def Fld.fr : Fld → Int | .mk _ a _ _ _ _ _ _ => a
def Fld.upto : Fld → Int | .mk _ _ a _ _ _ _ _ => a
def Fld.nul : Fld → Int | .mk _ _ _ a _ _ _ _ => a
def Fld.tag : Fld → Int | .mk _ _ _ _ a _ _ _ => a
def Fld.df : Fld → Int | .mk _ _ _ _ _ a _ _ => a
def Fld.of : Fld → Int | .mk _ _ _ _ _ _ a _ => a
def Fld.sub : Fld → List Fld | .mk _ _ _ _ _ _ _ a => a
def Tree.n : Tree → Int | .mk a _ _ _ _ => a
def Tree.s : Tree → List UInt8 | .mk _ a _ _ _ => a
def Tree.nul : Tree → Bool | .mk _ _ a _ _ => a
def Tree.l : Tree → List Tree | .mk _ _ _ a _ => a
def Tree.u : Tree → List (Nat × List UInt8) | .mk _ _ _ _ a => a
def Tree.none : Tree := .mk 0 [] false [] []

def Most : Nat := 32767
/-- The lowest eight bits. -/
def lowByte (z : Int) : UInt8 := UInt8.ofNat (z % 256).toNat
/-- A number in so many octets, the highest first. -/
def be : Nat → Int → List UInt8
  | 0, _ => []
  | k + 1, n => lowByte (n / (2 ^ (8 * k) : Nat)) :: be k n
/-- A number in groups of seven bits, the lowest first. -/
def uvar (n : Nat) : List UInt8 :=
  if n < 128 then [UInt8.ofNat n] else UInt8.ofNat (n % 128 + 128) :: uvar (n / 128)
  termination_by n
  decreasing_by omega

def whole (s : List UInt8) : List UInt8 := s.take Most
def things (l : List Tree) : List Tree := l.take Most
def att (t : Tree) (i : Nat) : Tree := t.l.getD i Tree.none
def Fld.has (f : Fld) (ver : Int) : Bool := decide (f.fr ≤ ver) && (decide (f.upto < 0) || decide (ver ≤ f.upto))
def Fld.null (f : Fld) (ver : Int) (t : Tree) : Bool := t.nul && decide (0 ≤ f.nul) && decide (f.nul ≤ ver)
def width (kind : Int) : Nat := if kind = 1 then 1 else if kind = 2 ∨ kind = 5 then 2 else if kind = 3 then 4 else 8
def counted (flex null : Bool) (n : Nat) (size : Nat) : List UInt8 :=
  if flex then (if null then [0] else uvar (n + 1)) else if null then be size (-1) else be size n
/-- The tag that is one more than all that the fields have. -/
def known (fs : List Fld) : Nat := fs.foldl (fun n f => if 0 ≤ f.tag then max n (f.tag.toNat + 1) else n) 0
/-- A tag put in its place among those by rising numbers; one that is there already stays. -/
def putTag (k : Nat) (v : List UInt8) : List (Nat × List UInt8) → List (Nat × List UInt8)
  | [] => [(k, v)]
  | kv :: r => if kv.1 < k then kv :: putTag k v r else if kv.1 = k then kv :: r else (k, v) :: kv :: r
def unknown (fs : List Fld) (u : List (Nat × List UInt8)) : List (Nat × List UInt8) :=
  (u.take Most).foldl (fun out kv => if kv.1 < known fs then out else putTag kv.1 kv.2 out) []

/-- Sixteen octets. -/
def sixteen (s : List UInt8) : List UInt8 := (s ++ List.replicate 16 0).take 16
/-- What is written of a value of a kind; p: of a part. -/
def wVal (kind : Int) (flex null : Bool) (p : Tree → List UInt8) (t : Tree) : List UInt8 :=
  if kind = 0 then [lowByte (t.n % 2)]
  else if kind = 7 then sixteen t.s
  else if kind = 8 then counted flex null (if null then [] else whole t.s).length 2 ++ (if null then [] else whole t.s)
  else if kind = 9 then counted flex null (if null then [] else whole t.s).length 4 ++ (if null then [] else whole t.s)
  else if kind = 10 then p t
  else be (width kind) t.n

mutual
/-- Is a field as it is by default? -/
def usual : Fld → Tree → Bool
  | .mk kind _ _ nul _ df _ sub, t =>
    if kind = 0 then decide (t.n % 2 = df)
    else if kind = 7 then (t.s.take 16).all (· == 0)
    else if kind = 8 ∨ kind = 9 then (if 0 ≤ nul then t.nul else t.s.isEmpty)
    else if kind = 11 then t.l.isEmpty
    else if kind = 10 then usuals sub 0 t && (unknown sub t.u).isEmpty
    else be (width kind) t.n == be (width kind) df
def usuals : List Fld → Nat → Tree → Bool
  | [], _, _ => true
  | f :: fs, i, t => usual f (att t i) && usuals fs (i + 1) t
end

/-- One tag: its number, its length, what it says. -/
def wTag (k : Nat) (b : List UInt8) : List UInt8 := uvar k ++ uvar b.length ++ b
/-- A part: its fields; of a flexible message how many tags there are, and these. -/
def asm (flex : Bool) (fields : List UInt8) (tags : List (Nat × List UInt8)) : List UInt8 :=
  if flex then fields ++ (uvar tags.length ++ tags.flatMap fun kv => wTag kv.1 kv.2) else fields

mutual
def wField (ver : Int) (flex : Bool) : Fld → Tree → List UInt8
  | .mk kind fr upto nul tag df of sub, t =>
    let p : Tree → List UInt8 := fun x => asm flex (wFs ver flex sub 0 x) ((List.range (known sub)).flatMap (fun k => wTs ver flex sub 0 k x) ++ (unknown sub x.u).map fun kv => (kv.1, whole kv.2))
    let null := (Fld.mk kind fr upto nul tag df of sub).null ver t
    if kind = 11 then counted flex null (if null then [] else things t.l).length 4 ++ (if null then [] else things t.l).flatMap (wVal of flex false p)
    else if kind = 10 ∧ 0 ≤ nul then (if null then be 1 (-1) else be 1 1 ++ p t)
    else wVal kind flex null p t
/-- The fields without a tag, in order. -/
def wFs (ver : Int) (flex : Bool) : List Fld → Nat → Tree → List UInt8
  | [], _, _ => []
  | f :: fs, i, t => (if f.tag < 0 ∧ f.has ver = true then wField ver flex f (att t i) else []) ++ wFs ver flex fs (i + 1) t
/-- The fields whose tag is k and that are not as by default. -/
def wTs (ver : Int) (flex : Bool) : List Fld → Nat → Nat → Tree → List (Nat × List UInt8)
  | [], _, _, _ => []
  | f :: fs, i, k, t => (if f.tag = (k : Int) ∧ usual f (att t i) = false then [(k, wField ver flex f (att t i))] else []) ++ wTs ver flex fs (i + 1) k t
end
def allTags (ver : Int) (flex : Bool) (fs : List Fld) (t : Tree) : List (Nat × List UInt8) :=
  (List.range (known fs)).flatMap (fun k => wTs ver flex fs 0 k t) ++ (unknown fs t.u).map fun kv => (kv.1, whole kv.2)
def wPart (ver : Int) (flex : Bool) (fs : List Fld) (t : Tree) : List UInt8 := asm flex (wFs ver flex fs 0 t) (allTags ver flex fs t)
/-- A message: its fields, the first flexible version. -/
structure Msg where
  fields : List Fld
  flex : Int
def Msg.flexible (m : Msg) (ver : Int) : Bool := decide (0 ≤ m.flex) && decide (m.flex ≤ ver)
def write (m : Msg) (ver : Int) (t : Tree) : List UInt8 := wPart ver (m.flexible ver) m.fields t

theorem wField_eq (ver : Int) (flex : Bool) (f : Fld) (t : Tree) : wField ver flex f t =
    if f.kind = 11 then counted flex (f.null ver t) (if f.null ver t then [] else things t.l).length 4 ++ (if f.null ver t then [] else things t.l).flatMap (wVal f.of flex false (wPart ver flex f.sub))
    else if f.kind = 10 ∧ 0 ≤ f.nul then (if f.null ver t then be 1 (-1) else be 1 1 ++ wPart ver flex f.sub t)
    else wVal f.kind flex (f.null ver t) (wPart ver flex f.sub) t := by
  cases f
  simp only [wField, Fld.kind, Fld.nul, Fld.of, Fld.sub]
  rfl
end Go.Proofs.Ytaoecdeljfdmeaa
