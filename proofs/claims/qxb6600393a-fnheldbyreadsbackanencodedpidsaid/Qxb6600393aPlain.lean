/-
  PLAIN LAYER of seat b6600393a: a number written in the letters A to J, and read back. No program, no world.
-/
import Derived.Lib.IndexLaws
import Derived.Lib.IndexBytes
import Derived.Lib.Strings
namespace Go.Proofs.Qxb6600393a.Pl

/-- The number that the letters spell, read from the left, on top of a. -/
def val : List UInt8 → Int → Int
  | [], a => a
  | c :: t, a => val t (10 * a + ((c.toNat : Int) - 65))

/-- Every letter is one of A to J. -/
def Letters (l : List UInt8) : Prop := ∀ c ∈ l, 65 ≤ c.toNat ∧ c.toNat ≤ 74

theorem val_shift : ∀ (l : List UInt8) (a : Int), val l a = a * 10 ^ l.length + val l 0
  | [], a => by simp [val]
  | c :: t, a => by
    show val t (10 * a + ((c.toNat : Int) - 65)) = a * 10 ^ (t.length + 1) + val t (10 * 0 + ((c.toNat : Int) - 65))
    rw [val_shift t (10 * a + _), val_shift t (10 * 0 + _)]
    rw [Int.pow_succ, Int.add_mul, Int.mul_comm (10 ^ t.length) 10, ← Int.mul_assoc, Int.mul_comm a 10]
    simp only [Int.mul_zero, Int.zero_add]
    omega

theorem val_snoc (l : List UInt8) (c : UInt8) : ∀ a : Int, val (l ++ [c]) a = 10 * val l a + ((c.toNat : Int) - 65) := by
  induction l with
  | nil => intro a; rfl
  | cons b t ih => intro a; exact ih _

theorem val_ge : ∀ (l : List UInt8), Letters l → ∀ a : Int, 0 ≤ a → a ≤ val l a
  | [], _, a, _ => Int.le_refl a
  | c :: t, h, a, ha => by
    have hc := h c (by simp)
    have := val_ge t (fun x hx => h x (by simp [hx])) (10 * a + ((c.toNat : Int) - 65)) (by omega)
    show a ≤ val t _
    omega

theorem val_append (l m : List UInt8) : ∀ a : Int, val (l ++ m) a = val m (val l a) := by
  induction l with
  | nil => intro a; rfl
  | cons b t ih => intro a; exact ih _

/-- What is read from the first k letters is no more than the whole. -/
theorem val_take (l : List UInt8) (h : Letters l) (k : Nat) : 0 ≤ val (l.take k) 0 ∧ val (l.take k) 0 ≤ val l 0 := by
  have h1 := val_ge (l.take k) (fun x hx => h x (List.mem_of_mem_take hx)) 0 (Int.le_refl 0)
  have h2 := val_ge (l.drop k) (fun x hx => h x (List.mem_of_mem_drop hx)) (val (l.take k) 0) h1
  rw [← val_append, List.take_append_drop] at h2
  exact ⟨h1, h2⟩

/-- One digit more, put ahead. -/
theorem val_cons (ls : List UInt8) (c : UInt8) (q n : Nat) (hc : c.toNat = 65 + q % 10) (h : (n : Int) = (q : Int) * 10 ^ ls.length + val ls 0) :
    (n : Int) = ((q / 10 : Nat) : Int) * 10 ^ (c :: ls).length + val (c :: ls) 0 := by
  rw [h]
  show _ = _ * 10 ^ (ls.length + 1) + val ls (10 * 0 + ((c.toNat : Int) - 65))
  rw [val_shift ls (10 * 0 + _), hc, Int.pow_succ, Int.mul_comm (10 ^ ls.length) 10, ← Int.mul_assoc]
  have e : (10 * 0 + (((65 + q % 10 : Nat) : Int) - 65)) = ((q % 10 : Nat) : Int) := by omega
  rw [e]
  have e2 : (q : Int) = ((q / 10 : Nat) : Int) * 10 + ((q % 10 : Nat) : Int) := by omega
  generalize val ls 0 = v
  generalize (10 : Int) ^ ls.length = p
  rw [← Int.add_assoc, ← Int.add_mul, ← e2]

/-- While there is something left to write, fewer than nineteen digits are written. -/
theorem few (ls : List UInt8) (q n : Nat) (hq : 0 < q) (hn : n ≤ 9223372036854775807) (hl : Letters ls) (h : (n : Int) = (q : Int) * 10 ^ ls.length + val ls 0) : ls.length < 19 := by
  have h0 := val_ge ls hl 0 (Int.le_refl 0)
  rcases Nat.lt_or_ge ls.length 19 with h1 | h1
  · exact h1
  · exfalso
    have h2 : (10 : Nat) ^ 19 ≤ 10 ^ ls.length := Nat.pow_le_pow_right (by omega) h1
    have h3 : 10 ^ ls.length ≤ q * 10 ^ ls.length := Nat.le_mul_of_pos_left _ hq
    have h4 : ((q * 10 ^ ls.length : Nat) : Int) = (q : Int) * 10 ^ ls.length := by simp
    have h5 : (10 : Nat) ^ 19 = 10000000000000000000 := by decide
    omega

theorem letters_cons {ls : List UInt8} {c : UInt8} (h : Letters ls) (hc : 65 ≤ c.toNat ∧ c.toNat ≤ 74) : Letters (c :: ls) := by
  intro x hx
  rcases List.mem_cons.1 hx with rfl | hx
  · exact hc
  · exact h x hx

/-- The first underscore stands behind the letters. -/
theorem index_letters (ls t : List UInt8) (h : Letters ls) : Go.Lib.indexByte (ls ++ 95 :: t) 95 = (ls.length : Int) := by
  induction ls with
  | nil => rfl
  | cons c l ih =>
    have hc := h c (by simp)
    have ih := ih (fun x hx => h x (by simp [hx]))
    show (if c == 95 then 0 else if Go.Lib.indexByte (l ++ 95 :: t) 95 == -1 then -1 else Go.Lib.indexByte (l ++ 95 :: t) 95 + 1) = _
    have hne : (c == 95) = false := by
      rw [beq_eq_false_iff_ne]; intro e; rw [e] at hc; exact absurd hc.2 (by decide)
    rw [hne, ih]
    have : (((l.length : Nat) : Int) == -1) = false := by rw [beq_eq_false_iff_ne]; omega
    rw [this]
    simp

theorem trim_pre (p r : List UInt8) : Go.Lib.trimPrefix (p ++ r) p = r ∧ Go.Lib.hasPrefix (p ++ r) p = true := by
  have h : Go.Lib.hasPrefix (p ++ r) p = true := by unfold Go.Lib.hasPrefix; simp
  exact ⟨by unfold Go.Lib.trimPrefix; rw [h]; simp, h⟩
theorem trim_suf (r p : List UInt8) : Go.Lib.trimSuffix (r ++ p) p = r ∧ Go.Lib.hasSuffix (r ++ p) p = true := by
  have h : Go.Lib.hasSuffix (r ++ p) p = true := by unfold Go.Lib.hasSuffix; simp
  exact ⟨by unfold Go.Lib.trimSuffix; rw [h]; simp, h⟩
end Go.Proofs.Qxb6600393a.Pl
