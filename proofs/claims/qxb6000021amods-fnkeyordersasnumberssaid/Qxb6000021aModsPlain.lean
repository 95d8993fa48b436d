/-
  THE PLAIN FUNCTIONS: what readNumber, zzb1ModelRead, Append, zzb1ModelPlain, Key and the comparisons compute, with no Go in sight.
-/
namespace Go.Proofs.Qxb6000021aMods.Pl

/-- The mantissa's loop of readNumber: the rest of the text, the place, point, first, last. -/
def mscan : List UInt8 → Nat → Int → Int → Int → Nat × Int × Int × Int
  | [], i, p, f, l => (i, p, f, l)
  | c :: r, i, p, f, l =>
    if c.toNat = 46 ∧ p < 0 then mscan r (i + 1) i f l
    else if c.toNat < 48 ∨ 57 < c.toNat then (i, p, f, l)
    else if c.toNat = 48 then mscan r (i + 1) p f l
    else mscan r (i + 1) p (if f < 0 then i else f) i

/-- The exponent's digits: none: a byte that is no digit. -/
def escan : List UInt8 → Int → Option Int
  | [], e => some e
  | c :: r, e =>
    if c.toNat < 48 ∨ 57 < c.toNat then none
    else escan r (if e < 100000000 then e * 10 + ((c.toNat : Int) - 48) else e)

def sgnLen : List UInt8 → Nat
  | c :: _ => if c.toNat = 43 ∨ c.toNat = 45 then 1 else 0
  | [] => 0
def sgnNeg : List UInt8 → Bool
  | c :: _ => c.toNat == 45
  | [] => false

/-- Behind the exponent's letter: the sign, the digits. -/
def eafter (l : List UInt8) : Option Int :=
  if l.drop (sgnLen l) = [] then none else (escan (l.drop (sgnLen l)) 0).map fun e => if sgnNeg l then -e else e

/-- Behind the mantissa. -/
def expo : List UInt8 → Option Int
  | [] => some 0
  | c :: r => if c.toNat = 101 ∨ c.toNat = 69 then eafter r else none

/-- readNumber's answer: Negative, Digits, Exponent, ok. -/
abbrev Num := Bool × ByteArray × Int × Bool

def rdFin (s : ByteArray) (neg : Bool) (k : Nat) (p f l e : Int) : Num :=
  if f < 0 then (false, ByteArray.empty, 0, true) else
  let q : Int := if p < 0 then k else p
  (neg, if f < q ∧ q < l then s.extract f.toNat q.toNat ++ s.extract (q + 1).toNat (l + 1).toNat else s.extract f.toNat (l + 1).toNat,
    if f < q then e + q - f - 1 else e + q - f, true)

def rdTail (s : ByteArray) (neg : Bool) (st : Nat) (m : Nat × Int × Int × Int) : Num :=
  if m.1 = st ∨ (m.1 = st + 1 ∧ m.2.1 = st) then (false, ByteArray.empty, 0, false)
  else match expo (s.data.toList.drop m.1) with
    | none => (false, ByteArray.empty, 0, false)
    | some e => rdFin s neg m.1 m.2.1 m.2.2.1 m.2.2.2 e

def rd (s : ByteArray) : Num :=
  rdTail s (sgnNeg s.data.toList) (sgnLen s.data.toList) (mscan (s.data.toList.drop (sgnLen s.data.toList)) (sgnLen s.data.toList) (-1) (-1) (-1))

/-- All bytes are decimal digits. -/
def Dg (L : List UInt8) : Prop := ∀ c ∈ L, 48 ≤ c.toNat ∧ c.toNat ≤ 57

theorem Dg.tail {c : UInt8} {L : List UInt8} (h : Dg (c :: L)) : Dg L := fun x hx => h x (List.mem_cons_of_mem _ hx)
theorem Dg.head {c : UInt8} {L : List UInt8} (h : Dg (c :: L)) : 48 ≤ c.toNat ∧ c.toNat ≤ 57 := h c List.mem_cons_self
theorem Dg.append {A B : List UInt8} (h : Dg A) (k : Dg B) : Dg (A ++ B) := fun x hx => by
  rcases List.mem_append.1 hx with h1 | h1
  · exact h x h1
  · exact k x h1
theorem Dg.left {A B : List UInt8} (h : Dg (A ++ B)) : Dg A := fun x hx => h x (List.mem_append_left _ hx)
theorem Dg.right {A B : List UInt8} (h : Dg (A ++ B)) : Dg B := fun x hx => h x (List.mem_append_right _ hx)
theorem Dg.nil : Dg [] := fun _ h => by cases h
theorem Dg.zeros (n : Nat) : Dg (List.replicate n 48) := fun x hx => by
  rw [(List.mem_replicate.1 hx).2]; decide

def fstN : List UInt8 → Nat → Int → Int
  | [], _, f => f
  | c :: r, i, f => if c.toNat = 48 then fstN r (i + 1) f else fstN r (i + 1) (if f < 0 then i else f)
def lstN : List UInt8 → Nat → Int → Int
  | [], _, l => l
  | c :: r, i, l => if c.toNat = 48 then lstN r (i + 1) l else lstN r (i + 1) i

theorem mscan_dig (L R : List UInt8) : ∀ (i : Nat) (p f l : Int), Dg L → mscan (L ++ R) i p f l = mscan R (i + L.length) p (fstN L i f) (lstN L i l) := by
  induction L with
  | nil => intro i p f l _; rfl
  | cons c L ih =>
    intro i p f l h
    have h1 := h.head
    show mscan (c :: (L ++ R)) i p f l = _
    rw [mscan, if_neg (by omega), if_neg (by omega)]
    by_cases h48 : c.toNat = 48
    · rw [if_pos h48, ih _ _ _ _ h.tail]; simp only [fstN, lstN, if_pos h48, List.length_cons]; rw [show i + 1 + L.length = i + (L.length + 1) from by omega]
    · rw [if_neg h48, ih _ _ _ _ h.tail]; simp only [fstN, lstN, if_neg h48, List.length_cons]; rw [show i + 1 + L.length = i + (L.length + 1) from by omega]

/-- Where the scan stops. -/
def Stop (p : Int) : List UInt8 → Prop
  | [] => True
  | c :: _ => (c.toNat < 48 ∨ 57 < c.toNat) ∧ ¬ (c.toNat = 46 ∧ p < 0)

theorem mscan_stop (R : List UInt8) (i : Nat) (p f l : Int) (h : Stop p R) : mscan R i p f l = (i, p, f, l) := by
  cases R with
  | nil => rfl
  | cons c R => rw [mscan, if_neg h.2, if_pos h.1]

theorem fst_zeros (n : Nat) (L : List UInt8) : ∀ (i : Nat) (f : Int), fstN (List.replicate n 48 ++ L) i f = fstN L (i + n) f := by
  induction n with
  | zero => intro i f; rfl
  | succ n ih => intro i f; rw [List.replicate_succ, List.cons_append, fstN, if_pos (by decide), ih]; rw [show i + 1 + n = i + (n + 1) from by omega]
theorem lst_zeros (n : Nat) (L : List UInt8) : ∀ (i : Nat) (l : Int), lstN (List.replicate n 48 ++ L) i l = lstN L (i + n) l := by
  induction n with
  | zero => intro i f; rfl
  | succ n ih => intro i f; rw [List.replicate_succ, List.cons_append, lstN, if_pos (by decide), ih]; rw [show i + 1 + n = i + (n + 1) from by omega]
theorem fst_set (L : List UInt8) : ∀ (i : Nat) (f : Int), 0 ≤ f → fstN L i f = f := by
  induction L with
  | nil => intro i f _; rfl
  | cons c L ih => intro i f h; rw [fstN]; split
                   · exact ih _ _ h
                   · rw [if_neg (by omega)]; exact ih _ _ h
theorem lst_app (A B : List UInt8) : ∀ (i : Nat) (l : Int), lstN (A ++ B) i l = lstN B (i + A.length) (lstN A i l) := by
  induction A with
  | nil => intro i l; rfl
  | cons c A ih => intro i l; rw [List.cons_append, lstN, lstN]; split <;> (rw [ih]; simp only [List.length_cons]; rw [show i + 1 + A.length = i + (A.length + 1) from by omega])
theorem lst_last (A : List UInt8) (c : UInt8) (y i : Nat) (l : Int) (hc : c.toNat ≠ 48) : lstN (A ++ c :: List.replicate y 48) i l = (i + A.length : Nat) := by
  rw [lst_app, lstN, if_neg hc]
  have := lst_zeros y [] (i + A.length + 1) ((i + A.length : Nat) : Int)
  simpa [lstN] using this

/-- A digit string that begins and ends with another digit than zero. -/
def Core (D : List UInt8) : Prop := (∃ c R, D = c :: R ∧ c.toNat ≠ 48) ∧ (∃ R c, D = R ++ [c] ∧ c.toNat ≠ 48)

theorem fst_core (z y i : Nat) (D : List UInt8) (h : Core D) : fstN (List.replicate z 48 ++ D ++ List.replicate y 48) i (-1) = (i + z : Nat) := by
  obtain ⟨⟨c, R, rfl, hc⟩, _⟩ := h
  rw [List.append_assoc, fst_zeros, List.cons_append, fstN, if_neg hc, if_pos (by omega)]
  exact fst_set _ _ _ (by omega)
theorem lst_core (z y i : Nat) (l : Int) (D : List UInt8) (h : Core D) : lstN (List.replicate z 48 ++ D ++ List.replicate y 48) i l = ((i + z + D.length : Nat) : Int) - 1 := by
  obtain ⟨_, R, c, rfl, hc⟩ := h
  rw [List.append_assoc, lst_zeros, List.append_assoc, List.singleton_append, lst_last _ _ _ _ _ hc]
  simp; omega
theorem lst_core' (y i : Nat) (l : Int) (D : List UInt8) (h : ∃ R c, D = R ++ [c] ∧ c.toNat ≠ 48) : lstN (D ++ List.replicate y 48) i l = ((i + D.length : Nat) : Int) - 1 := by
  obtain ⟨R, c, rfl, hc⟩ := h
  rw [List.append_assoc, List.singleton_append, lst_last _ _ _ _ _ hc]
  simp; omega
theorem fst_core' (z i : Nat) (D : List UInt8) (h : ∃ c R, D = c :: R ∧ c.toNat ≠ 48) : fstN (List.replicate z 48 ++ D) i (-1) = (i + z : Nat) := by
  obtain ⟨c, R, rfl, hc⟩ := h
  rw [fst_zeros, fstN, if_neg hc, if_pos (by omega)]
  exact fst_set _ _ _ (by omega)
theorem fst_all (z i : Nat) (f : Int) : fstN (List.replicate z 48) i f = f := by
  have := fst_zeros z [] i f; simpa [fstN] using this
theorem lst_all (z i : Nat) (f : Int) : lstN (List.replicate z 48) i f = f := by
  have := lst_zeros z [] i f; simpa [lstN] using this
end Go.Proofs.Qxb6000021aMods.Pl
