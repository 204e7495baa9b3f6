/-
  WHAT THE LEXER's CHECK OF A NUMBER SAYS, as plain functions on lists of bytes.
-/
namespace Go.Proofs.Ytnlndpgbhmkanaa.Vn

def isNum (c : Int) : Bool := decide (48 ≤ c) && decide (c ≤ 57)
def isId (c : Int) : Bool := decide (97 ≤ c) && decide (c ≤ 122) || (decide (65 ≤ c) && decide (c ≤ 90) || c == 95)
def isE (c : Int) : Bool := c == 101 || c == 69
def isSign (c : Int) : Bool := c == 43 || c == 45
def cI (c : UInt8) : Int := (c.toNat : Int)

def acc3 : List UInt8 → Bool
  | [] => true
  | c :: t => isNum (cI c) && acc3 t
def acc2 : List UInt8 → Bool
  | [] => false
  | c :: t => isNum (cI c) && acc3 t
def dropSign : List UInt8 → List UInt8
  | [] => []
  | c :: t => if isSign (cI c) then t else c :: t
def acc1 : List UInt8 → Bool
  | [] => true
  | c :: t => if isNum (cI c) then acc1 t else if isE (cI c) then acc2 (dropSign t) else false
def acc0 : List UInt8 → Bool
  | [] => true
  | c :: t => if isNum (cI c) then acc0 t else if cI c == 46 then acc1 t else if isE (cI c) then acc2 (dropSign t) else false
def acc (st : Int) (l : List UInt8) : Bool := if st = 0 then acc0 l else if st = 1 then acc1 l else if st = 2 then acc2 l else acc3 l

/-- the check of the whole text -/
def vnRest : List UInt8 → Bool
  | [] => false
  | c :: t => if cI c == 46 then (match t with | [] => false | d :: _ => isNum (cI d) && acc1 t) else isNum (cI c) && acc0 (c :: t)
def vn (l : List UInt8) : Bool := vnRest (dropSign l)

theorem drop_cons (s : ByteArray) (k : Nat) (hk : k < s.size) : s.data.toList.drop k = s[k] :: s.data.toList.drop (k + 1) := by
  have h : k < s.data.toList.length := by simpa using hk
  rw [List.drop_eq_getElem_cons h]; rfl
theorem drop_end (s : ByteArray) (k : Nat) (hk : s.size ≤ k) : s.data.toList.drop k = [] := List.drop_eq_nil_of_le (by simpa using hk)

end Go.Proofs.Ytnlndpgbhmkanaa.Vn
