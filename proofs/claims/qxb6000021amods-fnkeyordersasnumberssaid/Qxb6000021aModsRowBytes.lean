/-
  A ROW OF BYTES THAT IS APPENDED TO AGAIN AND AGAIN ('Row'), and the two appends as laws at the operation: one byte, a string.
-/
import Derived.Test.Qxb6000021aModsCells
namespace Go.Proofs.Qxb6000021aMods
open Go.RowKit Pl

/-- From the world w0, in which the slice v0 owned n0 bytes, some appends have led to the world w and the slice v, which owns the bytes 'bs'. Every block of w0 that is not v0's own, and is either no row of bytes or no longer than n0, is as it was, and is not v's own. -/
structure Row (w0 w : World) (base : Nat) (v0 v : Value) (n0 : Nat) (bs : List UInt8) : Prop where
  own : w.ownsRow base 5 1 v bs.length (bc bs)
  below : Below base w0 w
  fits : base ≤ w0.heap.size
  longer : n0 ≤ bs.length
  keep : ∀ k c t fr, w0.heap[k]? = some (.cells c t fr) → (t ≠ 5 ∨ c.size ≤ n0) → v0.ownBlock ≠ some k → w.heap[k]? = w0.heap[k]? ∧ v.ownBlock ≠ some k

theorem Row.start {w : World} {base : Nat} {v : Value} {bs : List UInt8} (h : w.ownsRow base 5 1 v bs.length (bc bs)) (hb : base ≤ w.heap.size) : Row w w base v v bs.length bs :=
  ⟨h, Below.refl _ _, hb, Nat.le_refl _, fun _ _ _ _ _ _ hn => ⟨rfl, hn⟩⟩

theorem heap_lt {w : World} {k : Nat} {o : Obj} (h : w.heap[k]? = some o) : k < w.heap.size := (Array.getElem?_eq_some_iff.1 h).1

theorem Row.size {w0 w : World} {base : Nat} {v0 v : Value} {n0 : Nat} {bs : List UInt8} (h : Row w0 w base v0 v n0 bs) : base ≤ w.heap.size := Nat.le_trans h.fits h.below.size

theorem Row.alloc {w0 w : World} {base : Nat} {v0 v : Value} {n0 : Nat} {bs : List UInt8} (h : Row w0 w base v0 v n0 bs) (o : Obj) : Row w0 (w.alloc o) base v0 v n0 bs :=
  ⟨h.own.alloc o, h.below.alloc h.size o, h.fits, h.longer, fun k c t fr h1 h2 h3 => by
    have := h.keep k c t fr h1 h2 h3
    have hk : k < w.heap.size := Nat.lt_of_lt_of_le (heap_lt h1) h.below.size
    exact ⟨(Below.heap_alloc w o k hk).trans this.1, this.2⟩⟩

theorem bc_app (A B : List UInt8) : bc (A ++ B) = bc A ++ bc B := by simp [bc]

/-- An append's step. -/
theorem Row.step {w0 w w1 : World} {base : Nat} {v0 v v1 : Value} {n0 : Nat} {bs ns : List UInt8} (h : Row w0 w base v0 v n0 bs) (hns : 0 < ns.length)
    (hown : w1.ownsRow base 5 1 v1 (bs.length + ns.length) (bc bs ++ bc ns)) (hg : w.grownBy w1 v.ownBlock) : Row w0 w1 base v0 v1 n0 (bs ++ ns) := by
  have hown' : w1.ownsRow base 5 1 v1 (bs ++ ns).length (bc (bs ++ ns)) := by rw [bc_app, List.length_append]; exact hown
  refine ⟨hown', h.below.grown hg h.size (fun k hk => (h.own.lt k hk).1), h.fits, by rw [List.length_append]; have := h.longer; omega, fun k c t fr h1 h2 h3 => ?_⟩
  obtain ⟨e1, e2⟩ := h.keep k c t fr h1 h2 h3
  have hk : k < w.heap.size := Nat.lt_of_lt_of_le (heap_lt h1) h.below.size
  have e3 : w1.heap[k]? = w0.heap[k]? := (hg.block k hk (fun e => e2 e.symm)).trans e1
  refine ⟨e3, fun e4 => ?_⟩
  rcases hown.2 with ⟨rfl, _⟩ | ⟨g, cap, cur, rfl, _, hh, hle, _, hsz, _⟩
  · simp [Value.ownBlock] at e4
  · simp [Value.ownBlock] at e4
    subst e4
    rw [e3, h1] at hh
    simp only [Option.some.injEq, Obj.cells.injEq] at hh
    obtain ⟨rfl, rfl, _⟩ := hh
    have := h.longer
    rcases h2 with h2 | h2
    · exact h2 rfl
    · omega

section
variable {ops : Array Oper} {rest : List Oper} {o : Oper} {a : Act} {Q : Exit → Act → World → Prop}

/-- 'b = append(b, c)'. -/
theorem wpl_byte {w0 w : World} {base : Nat} {v0 v : Value} {n0 : Nat} {bs : List UInt8} (R : Row w0 w base v0 v n0 bs) (hgd : o.guard = none) (s x : Operand)
    (ho : o.op = .call { callee := .builtin .append, args := #[s, x], argTypes := #[29, 29] }) (hs : a.eval s = v) (c : UInt8) (q : Int) (hq : q = (c.toNat : Int))
    (H : Nat) (hx : a.eval x = .slice (some ⟨H, 0, none⟩) 1 1) (hH : H = w.heap.size) (hl : bs.length ≤ 1000000000)
    (h : ∀ v' w', Row w0 w' base v0 v' n0 (bs ++ [c]) → wpList Trym.prog ops Q rest (a.put o.dst v') w') : wpList Trym.prog ops Q (o :: rest) a (w.alloc (.cells #[.int .u8 q] 5)) := by
  obtain ⟨i0, hi, hz0, hz1, hz2⟩ := info_parts Trym.info5
  subst hq hH
  refine wpList_append_own (P := Trym.prog) _ hgd s x 29 ho base 5 i0 (.int .u8 0) 1 1 Trym.underlying29 hi hz0 hz1 hz2 rfl (by decide) v bs.length (bc bs) hs (R.own.alloc _) ⟨w.heap.size, 0, none⟩ 1 1 (bc [c]) hx rfl ?_ ?_ (by unfold maxLen; omega) (by omega) ?_ ?_
  · exact cell_one_new _ _ _
  · intro u hu; simp [bc] at hu; subst hu; rfl
  · have := R.size; simp; omega
  · intro v' w' h1 h2 _
    exact h v' w' ((R.alloc _).step (ns := [c]) (by simp) h1 h2)

/-- 'b = append(b, t...)', t a string that is not empty. -/
theorem wpl_str {w0 w : World} {base : Nat} {v0 v : Value} {n0 : Nat} {bs : List UInt8} (R : Row w0 w base v0 v n0 bs) (hgd : o.guard = none) (s x : Operand)
    (ho : o.op = .call { callee := .builtin .append, args := #[s, x], argTypes := #[29, 9] }) (hs : a.eval s = v) (t : ByteArray)
    (hx : a.eval x = .string t) (ht : 0 < t.size) (hl : bs.length + t.size ≤ 1000000000)
    (h : ∀ v' w', Row w0 w' base v0 v' n0 (bs ++ t.data.toList) → wpList Trym.prog ops Q rest (a.put o.dst v') w') : wpList Trym.prog ops Q (o :: rest) a w := by
  obtain ⟨i0, hi, hz0, hz1, hz2⟩ := info_parts Trym.info5
  refine Lib.wpList_append_own_string (P := Trym.prog) _ hgd s x 29 9 ho base 5 i0 Trym.underlying29 Trym.underlying9 hi hz0 hz1 hz2 v bs.length (bc bs) hs R.own t hx (by unfold maxLen; omega) (by omega) R.size ?_
  intro v' w' h1 h2 _
  have e : t.size = t.data.toList.length := by simp
  exact h v' w' (R.step (ns := t.data.toList) (by omega) (by rw [← e]; exact h1) h2)
end

end Go.Proofs.Qxb6000021aMods
