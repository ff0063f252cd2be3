namespace Go.Proofs.Qxb6602599aDoor.M

structure St where
  at_ : Int
  pending : Bool
  bom : Nat
  begun : Bool
  fname : List UInt8
  fdata : List UInt8
  disp : Bool
  tooLong : Bool
  line : List Int
  name : List Int
  data : List Int
  hasData : Bool
  size : Nat

def init : St := ⟨0, false, 0, false, [], [], false, false, [], [], [], false, 0⟩

def toBytes (xs : List Int) : List UInt8 := xs.map fun x => UInt8.ofNat x.toNat

def reading (S : St) : Bool := !S.disp && !S.tooLong

def maxFirst : Nat := 65536

def keep (S : St) (b : List Int) : St :=
  if (S.at_ == 3 && reading S) = true then
    if maxFirst < S.size + b.length then { S with tooLong := true, size := 0, line := [], name := [], data := [] }
    else { S with size := S.size + b.length, line := S.line ++ b }
  else S

def fieldName (l : List Int) : List Int := l.takeWhile (fun c => !(c == 58))
def fieldRest (l : List Int) : List Int := (l.dropWhile (fun c => !(c == 58))).drop 1
def unSpace (v : List Int) : List Int := match v with
  | [] => []
  | c :: r => if c == 32 then r else c :: r
def fieldValue (l : List Int) : List Int := unSpace (fieldRest l)
def sEvent : List Int := [101, 118, 101, 110, 116]
def sData : List Int := [100, 97, 116, 97]
def sMessage : List UInt8 := [109, 101, 115, 115, 97, 103, 101]

def field (S : St) : St :=
  if fieldName S.line = sEvent then { S with name := fieldValue S.line, line := [] }
  else if fieldName S.line = sData then { S with data := S.data ++ fieldValue S.line ++ [10], hasData := true, line := [] }
  else { S with line := [] }

def lineEnd (S : St) : St :=
  if (S.at_ == 3 && reading S) = true then field { S with at_ := 0 } else { S with at_ := 0 }

def named (l : List UInt8) : List UInt8 := if l = [] then sMessage else l

def emptyLine (S : St) : St :=
  if (reading S && S.hasData) = true then
    { S with fname := named (toBytes S.name), fdata := toBytes S.data.dropLast, disp := true, line := [], name := [], data := [], hasData := false, size := 0, pending := false }
  else { S with name := [], data := [], hasData := false, size := 0, pending := false }

def bomAt (n : Nat) : Int := if n = 0 then 239 else if n = 1 then 187 else 191
def bomPre (n : Nat) : List Int := [239, 187, 191].take n

def stepStart (S : St) (c : Int) : St × Bool :=
  if c = 13 then (emptyLine { S with at_ := 1 }, S.pending)
  else if c = 10 then (emptyLine S, S.pending)
  else if c = 58 then ({ S with at_ := 2 }, false)
  else (keep { S with at_ := 3, pending := true } [c], false)

def step1 (S : St) (c : Int) : St × Bool :=
  if S.at_ = 1 then (if c = 10 then ({ S with at_ := 0 }, false) else stepStart { S with at_ := 0 } c)
  else if S.at_ = 0 then stepStart S c
  else if c = 13 then ({ lineEnd S with at_ := 1 }, false)
  else if c = 10 then (lineEnd S, false)
  else (keep S [c], false)

def begin_ (S : St) : St :=
  if 0 < S.bom then { keep { S with begun := true, at_ := 3, pending := true } (bomPre S.bom) with bom := 0 }
  else { S with begun := true }

def step (S : St) (c : Int) : St × Bool :=
  if S.begun = true then step1 S c
  else if c = bomAt S.bom then
    (if S.bom + 1 = 3 then ({ S with begun := true, bom := 0 }, false) else ({ S with bom := S.bom + 1 }, false))
  else step1 (begin_ S) c

def scan (S : St) : List Int → St × Nat × Bool
  | [] => (S, 0, false)
  | c :: r => if (step S c).2 = true then ((step S c).1, 1, true) else ((scan (step S c).1 r).1, (scan (step S c).1 r).2.1 + 1, (scan (step S c).1 r).2.2)

def evs (S : St) : List Int → Int → List Int × St
  | [], _ => ([], S)
  | c :: r, k => (if (step S c).2 = true then (k + 1) :: (evs (step S c).1 r (k + 1)).1 else (evs (step S c).1 r (k + 1)).1, (evs (step S c).1 r (k + 1)).2)

theorem evs_append (a : List Int) : ∀ (S : St) (b : List Int) (k : Int),
    evs S (a ++ b) k = ((evs S a k).1 ++ (evs (evs S a k).2 b (k + a.length)).1, (evs (evs S a k).2 b (k + a.length)).2) := by
  induction a with
  | nil => intro S b k; simp [evs]
  | cons c r ih =>
    intro S b k
    have e : k + 1 + (r.length : Int) = k + ((r.length : Int) + 1) := by omega
    simp only [List.cons_append, evs, ih, List.length_cons, Int.natCast_add, Int.cast_ofNat_Int, e]
    split <;> simp

theorem scan_le (l : List Int) : ∀ S : St, (scan S l).2.1 ≤ l.length := by
  induction l with
  | nil => intro S; simp [scan]
  | cons c r ih =>
    intro S
    have := ih (step S c).1
    simp only [scan, List.length_cons]
    split
    · simp
    · simp only; omega

theorem scan_pos (c : Int) (r : List Int) (S : St) : 1 ≤ (scan S (c :: r)).2.1 := by
  simp only [scan]; split <;> simp

theorem scan_all (l : List Int) : ∀ S : St, (scan S l).2.2 = false → (scan S l).2.1 = l.length := by
  induction l with
  | nil => intro S; simp [scan]
  | cons c r ih =>
    intro S h
    simp only [scan] at h ⊢
    split at h
    · cases h
    · rename_i hn
      rw [if_neg hn]
      simp only [List.length_cons]
      rw [ih _ h]

theorem evs_scan (l : List Int) : ∀ (S : St) (k : Int),
    evs S l k = ((if (scan S l).2.2 = true then [k + (scan S l).2.1] else []) ++ (evs (scan S l).1 (l.drop (scan S l).2.1) (k + (scan S l).2.1)).1,
      (evs (scan S l).1 (l.drop (scan S l).2.1) (k + (scan S l).2.1)).2) := by
  induction l with
  | nil => intro S k; simp [scan, evs]
  | cons c r ih =>
    intro S k
    by_cases h : (step S c).2 = true
    · simp [scan, evs, h]
    · have e : ∀ n : Nat, k + 1 + (n : Int) = k + ((n + 1 : Nat) : Int) := by intro n; omega
      simp only [scan, evs, if_neg h, List.drop_succ_cons]
      rw [ih]
      simp only [e]

end Go.Proofs.Qxb6602599aDoor.M
