/-
  THE PLAIN FUNCTION of zzb1ModelRead ('md'), and its step lemmas. No Go in sight.
-/
import Derived.Test.Qxb6000021aModsSteps
namespace Go.Proofs.Qxb6000021aMods.Pl

/-- The mantissa's loop of the model: the rest of the text, the place, the digits so far, how many stand ahead of the point, is the point seen. -/
def dscan : List UInt8 → Nat → List UInt8 → Nat → Bool → Nat × List UInt8 × Nat
  | [], j, d, n, _ => (j, d, n)
  | c :: r, j, d, n, p =>
    if c.toNat = 46 ∧ p = false then dscan r (j + 1) d n true
    else if c.toNat < 48 ∨ 57 < c.toNat then (j, d, n)
    else dscan r (j + 1) (d ++ [c]) (if p then n else n + 1) p

/-- How many zeros lead. -/
def lz : List UInt8 → Nat
  | [] => 0
  | c :: r => if c.toNat = 48 then lz r + 1 else 0

/-- Of the first t digits: where the last that is no zero ends. -/
def tend (d : List UInt8) : Nat → Nat
  | 0 => 0
  | t + 1 => if (d.getD t 0).toNat = 48 then tend d t else t + 1

def cutZ (d : List UInt8) : List UInt8 := (d.take (tend d d.length)).drop (lz d)

def mdFin (neg : Bool) (d : List UInt8) (n : Nat) (e : Int) : Num :=
  if lz d = d.length then (false, ByteArray.empty, 0, true)
  else (neg, ⟨(cutZ d).toArray⟩, (n : Int) - (lz d : Int) - 1 + e, true)

def mdTail (s : ByteArray) (neg : Bool) (m : Nat × List UInt8 × Nat) : Num :=
  if m.2.1 = [] then Bad
  else match expo (fr s m.1) with
    | none => Bad
    | some e => mdFin neg m.2.1 m.2.2 e

def md (s : ByteArray) : Num :=
  mdTail s (sgnNeg (fr s 0)) (dscan (fr s (sgnLen (fr s 0))) (sgnLen (fr s 0)) [] 0 false)

theorem ds_pt {s : ByteArray} {k n : Nat} {d : List UInt8} (h : k < s.size) (h1 : (s[k].toNat : Int) = 46) : dscan (fr s k) k d n false = dscan (fr s (k + 1)) (k + 1) d n true := by
  rw [fr_at s k h, dscan, if_pos ⟨by omega, rfl⟩]
theorem ds_out {s : ByteArray} {k n : Nat} {d : List UInt8} {p : Bool} (h : k < s.size) (h1 : ¬ ((s[k].toNat : Int) = 46 ∧ p = false)) (h2 : (s[k].toNat : Int) < 48 ∨ 57 < (s[k].toNat : Int)) : dscan (fr s k) k d n p = (k, d, n) := by
  rw [fr_at s k h, dscan, if_neg (fun hc => h1 ⟨by omega, hc.2⟩), if_pos (by omega)]
theorem ds_end {s : ByteArray} {k n : Nat} {d : List UInt8} {p : Bool} (h : ¬ k < s.size) : dscan (fr s k) k d n p = (k, d, n) := by
  rw [fr_end s k h]; rfl
theorem ds_dig {s : ByteArray} {k n : Nat} {d : List UInt8} {p : Bool} (h : k < s.size) (h1 : 48 ≤ (s[k].toNat : Int)) (h2 : (s[k].toNat : Int) ≤ 57) : dscan (fr s k) k d n p = dscan (fr s (k + 1)) (k + 1) (d ++ [s[k]]) (if p then n else n + 1) p := by
  rw [fr_at s k h, dscan, if_neg (by omega), if_neg (by omega)]

theorem mt_nil {s : ByteArray} {neg : Bool} {k n : Nat} : mdTail s neg (k, [], n) = Bad := rfl
theorem mt_none {s : ByteArray} {neg : Bool} {k n : Nat} {d : List UInt8} (h : expo (fr s k) = none) : mdTail s neg (k, d, n) = Bad := by
  unfold mdTail
  have h' : expo (fr s (k, d, n).1) = none := h
  rw [h']; split <;> rfl
theorem mt_some {s : ByteArray} {neg : Bool} {k n : Nat} {d : List UInt8} {e : Int} (h0 : d ≠ []) (h : expo (fr s k) = some e) : mdTail s neg (k, d, n) = mdFin neg d n e := by
  unfold mdTail
  have h' : expo (fr s (k, d, n).1) = some e := h
  rw [if_neg h0, h']

theorem lz_le : ∀ d : List UInt8, lz d ≤ d.length
  | [] => Nat.le_refl _
  | c :: r => by rw [lz]; have := lz_le r; split <;> simp <;> omega
theorem lz_step {d : List UInt8} {z : Nat} (h : z < d.length) (h1 : (d[z].toNat : Int) = 48) : z + lz (d.drop z) = (z + 1) + lz (d.drop (z + 1)) := by
  rw [List.drop_eq_getElem_cons h, lz, if_pos (by omega)]; omega
theorem lz_stop {d : List UInt8} {z : Nat} (h : z < d.length) (h1 : ¬ (d[z].toNat : Int) = 48) : z + lz (d.drop z) = z := by
  rw [List.drop_eq_getElem_cons h, lz, if_neg (by omega), Nat.add_zero]
theorem lz_end {d : List UInt8} : d.length + lz (d.drop d.length) = d.length := by
  rw [List.drop_length]; rfl
theorem tend_le (d : List UInt8) : ∀ t, tend d t ≤ t
  | 0 => Nat.le_refl _
  | t + 1 => by rw [tend]; have := tend_le d t; split <;> omega
theorem tend_zero {d : List UInt8} {t : Nat} (h : t < d.length) (h1 : (d[t].toNat : Int) = 48) : tend d (t + 1) = tend d t := by
  rw [tend, if_pos (by rw [List.getD_eq_getElem?_getD, List.getElem?_eq_getElem h]; simp; omega)]
theorem tend_stop {d : List UInt8} {t : Nat} (h : t < d.length) (h1 : ¬ (d[t].toNat : Int) = 48) : tend d (t + 1) = t + 1 := by
  rw [tend, if_neg (by rw [List.getD_eq_getElem?_getD, List.getElem?_eq_getElem h]; simp; omega)]

end Go.Proofs.Qxb6000021aMods.Pl
