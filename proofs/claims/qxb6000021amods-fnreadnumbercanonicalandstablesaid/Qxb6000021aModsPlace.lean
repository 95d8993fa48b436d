/-
  THE PLAIN TEXT OF A NUMBER: what Append writes ('apT') and what the place-value model writes ('mpT') are one. No Go in sight.
-/
namespace Go.Proofs.Qxb6000021aMods.Pl

/-- What Append writes behind its sign. -/
def apB (d : List UInt8) (ex : Int) : List UInt8 :=
  if ex < 0 then [48, 46] ++ (List.replicate (-ex - 1).toNat 48 ++ d)
  else if ex + 1 < d.length then d.take (ex + 1).toNat ++ ([46] ++ d.drop (ex + 1).toNat)
  else d ++ List.replicate (ex + 1 - d.length).toNat 48
def sgT (neg : Bool) : List UInt8 := if neg then [45] else []
def apT (neg : Bool) (d : List UInt8) (ex : Int) : List UInt8 := if d = [] then [48] else sgT neg ++ apB d ex

/-- The digit at place i; zero outside. -/
def dig (d : List UInt8) (i : Int) : UInt8 := if 0 ≤ i ∧ i < d.length then d.getD i.toNat 0 else 48
/-- The model's loop: m places from place k down. -/
def plT (d : List UInt8) (ex : Int) : Nat → Int → List UInt8
  | 0, _ => []
  | m + 1, k => (if k = -1 then [46] else []) ++ ([dig d (ex - k)] ++ plT d ex m (k - 1))
def hiP (ex : Int) : Int := if ex < 0 then 0 else ex
def loP (d : List UInt8) (ex : Int) : Int := if 0 < ex - d.length + 1 then 0 else ex - d.length + 1
def mpT (neg : Bool) (d : List UInt8) (ex : Int) : List UInt8 := if d = [] then [48] else sgT neg ++ plT d ex (hiP ex - loP d ex + 1).toNat (hiP ex)

/-- m digits from place i on. -/
def dr (d : List UInt8) (i : Int) (m : Nat) : List UInt8 := (List.range m).map fun (j : Nat) => dig d (i + (j : Int))

theorem dr_cons (d : List UInt8) (i : Int) (m : Nat) : dr d i (m + 1) = dig d i :: dr d (i + 1) m := by
  unfold dr
  rw [List.range_succ_eq_map, List.map_cons, List.map_map]
  congr 1
  · simp
  · apply List.map_congr_left
    intro j _
    simp only [Function.comp]
    congr 1; omega

theorem pl_low (d : List UInt8) (ex : Int) : ∀ (m : Nat) (k : Int), k < -1 → plT d ex m k = dr d (ex - k) m
  | 0, _, _ => rfl
  | m + 1, k, h => by
    rw [plT, if_neg (by omega), pl_low d ex m (k - 1) (by omega), dr_cons, show ex - (k - 1) = ex - k + 1 from by omega]; rfl
theorem pl_dot (d : List UInt8) (ex : Int) (m : Nat) : plT d ex (m + 1) (-1) = 46 :: dr d (ex + 1) (m + 1) := by
  rw [plT, if_pos rfl, pl_low d ex m (-1 - 1) (by omega), dr_cons, show ex - (-1 - 1) = ex + 1 + 1 from by omega, show ex - -1 = ex + 1 from by omega]; rfl
theorem pl_high (d : List UInt8) (ex : Int) (r : Nat) : ∀ (m : Nat), plT d ex (m + r) ((m : Int) - 1) = dr d (ex - ((m : Int) - 1)) m ++ plT d ex r (-1)
  | 0 => by simp [dr]
  | m + 1 => by
    rw [show m + 1 + r = (m + r) + 1 from by omega, plT, if_neg (by omega), dr_cons]
    have := pl_high d ex r m
    rw [show ((m + 1 : Nat) : Int) - 1 - 1 = (m : Int) - 1 from by omega, this, show ex - ((m : Int) - 1) = ex - (((m + 1 : Nat) : Int) - 1) + 1 from by omega]; rfl

theorem dr_len (d : List UInt8) (i : Int) (m : Nat) : (dr d i m).length = m := by simp [dr]
theorem dr_get (d : List UInt8) (i : Int) (m j : Nat) (h : j < (dr d i m).length) : (dr d i m)[j] = dig d (i + j) := by simp [dr]

theorem dig_in (d : List UInt8) (n : Nat) (h : n < d.length) (i : Int) (hi : i = n) : dig d i = d[n] := by
  subst hi; unfold dig; rw [if_pos (by omega)]; simp [List.getD_eq_getElem?_getD, List.getElem?_eq_getElem h]
theorem dig_out (d : List UInt8) (i : Int) (h : i < 0 ∨ (d.length : Int) ≤ i) : dig d i = 48 := by unfold dig; rw [if_neg (by omega)]

theorem dr_neg (d : List UInt8) (a : Nat) : dr d (-(a : Int)) (a + d.length) = List.replicate a 48 ++ d := by
  apply List.ext_getElem
  · simp [dr_len]
  · intro j h1 h2
    rw [dr_get]
    rw [dr_len] at h1
    by_cases h : j < a
    · rw [List.getElem_append_left (by simpa using h), dig_out _ _ (by omega), List.getElem_replicate]
    · rw [List.getElem_append_right (by simp; omega), dig_in d (j - a) (by omega) _ (by omega)]; simp
theorem dr_pos (d : List UInt8) (m : Nat) (h : d.length ≤ m) : dr d 0 m = d ++ List.replicate (m - d.length) 48 := by
  apply List.ext_getElem
  · simp [dr_len]; omega
  · intro j h1 h2
    rw [dr_get]
    rw [dr_len] at h1
    by_cases h : j < d.length
    · rw [List.getElem_append_left h, dig_in d j h _ (by omega)]
    · rw [List.getElem_append_right (by omega), dig_out _ _ (by omega), List.getElem_replicate]
theorem dr_take (d : List UInt8) (m : Nat) (h : m ≤ d.length) : dr d 0 m = d.take m := by
  apply List.ext_getElem
  · simp [dr_len]; omega
  · intro j h1 h2
    rw [dr_get]
    rw [dr_len] at h1
    rw [List.getElem_take, dig_in d j (by omega) _ (by omega)]
theorem dr_drop (d : List UInt8) (m : Nat) (h : m ≤ d.length) : dr d m (d.length - m) = d.drop m := by
  apply List.ext_getElem
  · simp [dr_len]
  · intro j h1 h2
    rw [dr_get]
    rw [dr_len] at h1
    rw [List.getElem_drop, dig_in d (m + j) (by omega) _ (by omega)]

/-- THE LAW: place by place is what Append writes. -/
theorem ap_eq_mp (neg : Bool) (d : List UInt8) (ex : Int) : apT neg d ex = mpT neg d ex := by
  unfold apT mpT
  by_cases hd : d = []
  · rw [if_pos hd, if_pos hd]
  · rw [if_neg hd, if_neg hd]
    have hl : 0 < d.length := List.length_pos_iff.2 hd
    congr 1
    unfold apB hiP loP
    by_cases h1 : ex < 0
    · rw [if_pos h1, if_pos h1, if_neg (by omega)]
      obtain ⟨a, ha⟩ : ∃ a : Nat, ex = -(a : Int) - 1 := ⟨(-ex - 1).toNat, by omega⟩
      have e1 : (0 - (ex - (d.length : Int) + 1) + 1).toNat = 1 + ((a + d.length - 1) + 1) := by omega
      have e2 := pl_high d ex ((a + d.length - 1) + 1) 1
      rw [e1]
      have e0 : ((1 : Nat) : Int) - 1 = 0 := rfl
      rw [e0] at e2
      rw [e2, pl_dot, show a + d.length - 1 + 1 = a + d.length from by omega, show ex + 1 = -(a : Int) from by omega, dr_neg, show (-ex - 1).toNat = a from by omega]
      have e3 : dr d (ex - 0) 1 = [48] := by rw [dr_cons, dig_out _ _ (by omega)]; rfl
      rw [e3]; rfl
    · rw [if_neg h1, if_neg h1]
      obtain ⟨n, hn⟩ : ∃ n : Nat, ex = n := ⟨ex.toNat, by omega⟩
      subst hn
      by_cases h2 : (n : Int) + 1 < d.length
      · rw [if_pos h2, if_neg (by omega)]
        have e1 : ((n : Int) - ((n : Int) - (d.length : Int) + 1) + 1).toNat = (n + 1) + ((d.length - (n + 1) - 1) + 1) := by omega
        have e2 := pl_high d n ((d.length - (n + 1) - 1) + 1) (n + 1)
        rw [show ((n + 1 : Nat) : Int) - 1 = (n : Int) from by omega] at e2
        rw [e1, e2, pl_dot, show d.length - (n + 1) - 1 + 1 = d.length - (n + 1) from by omega, show (n : Int) + 1 = ((n + 1 : Nat) : Int) from by omega, dr_drop d (n + 1) (by omega), Int.sub_self, dr_take d (n + 1) (by omega)]
        simp
      · rw [if_neg h2]
        have e1 : ((n : Int) - (if 0 < (n : Int) - (d.length : Int) + 1 then 0 else (n : Int) - (d.length : Int) + 1) + 1).toNat = (n + 1) + 0 := by split <;> omega
        have e2 := pl_high d n 0 (n + 1)
        rw [show ((n + 1 : Nat) : Int) - 1 = (n : Int) from by omega] at e2
        rw [e1, e2, Int.sub_self, dr_pos d (n + 1) (by omega), show ((n : Int) + 1 - (d.length : Int)).toNat = n + 1 - d.length from by omega]
        simp [plT]

end Go.Proofs.Qxb6000021aMods.Pl
