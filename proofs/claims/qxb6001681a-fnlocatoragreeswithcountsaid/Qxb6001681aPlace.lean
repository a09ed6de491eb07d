/-
  PLAIN LAYER of seat b6001681a: lines and columns of a text. No program, no world.
  'nlAt l k': a line feed stands at k. 'lineAt l p': 1 + the line feeds before p. 'st l p': the place just behind the last line feed before p (0 if there is none).
-/
import Derived.Lib.LastIndexByte
import Derived.Lib.IndexLaws
import Derived.Lib.IndexBytes
import Derived.Lib.Strings
namespace Go.Proofs.Qxb6001681a.Pl

def nlAt (l : List UInt8) (k : Nat) : Bool := l[k]? == some 10
def lineAt (l : List UInt8) : Nat → Nat
  | 0 => 1
  | k + 1 => if nlAt l k then lineAt l k + 1 else lineAt l k
def st (l : List UInt8) : Nat → Nat
  | 0 => 0
  | k + 1 => if nlAt l k then k + 1 else st l k

theorem lineAt_yes {l : List UInt8} {k : Nat} (h : nlAt l k = true) : lineAt l (k + 1) = lineAt l k + 1 := by simp [lineAt, h]
theorem lineAt_no {l : List UInt8} {k : Nat} (h : nlAt l k = false) : lineAt l (k + 1) = lineAt l k := by simp [lineAt, h]
theorem st_yes {l : List UInt8} {k : Nat} (h : nlAt l k = true) : st l (k + 1) = k + 1 := by simp [st, h]
theorem st_no {l : List UInt8} {k : Nat} (h : nlAt l k = false) : st l (k + 1) = st l k := by simp [st, h]

theorem line_bd (l : List UInt8) (k : Nat) : 1 ≤ lineAt l k ∧ lineAt l k ≤ k + 1 := by
  induction k with
  | zero => simp [lineAt]
  | succ k ih => unfold lineAt; split <;> omega
theorem st_le (l : List UInt8) (k : Nat) : st l k ≤ k := by
  induction k with
  | zero => simp [st]
  | succ k ih => unfold st; split <;> omega
theorem line_mono (l : List UInt8) (o d : Nat) : lineAt l o ≤ lineAt l (o + d) := by
  induction d with
  | zero => exact Nat.le_refl _
  | succ d ih =>
    rw [← Nat.add_assoc]
    cases h : nlAt l (o + d)
    · rw [lineAt_no h]; exact ih
    · rw [lineAt_yes h]; omega

theorem nlAt_cat (l m : List UInt8) (k : Nat) (h : k < l.length) : nlAt (l ++ m) k = nlAt l k := by
  unfold nlAt; rw [List.getElem?_append_left h]
theorem line_cat (l m : List UInt8) (k : Nat) (h : k ≤ l.length) : lineAt (l ++ m) k = lineAt l k := by
  induction k with
  | zero => rfl
  | succ k ih => unfold lineAt; rw [nlAt_cat l m k (by omega), ih (by omega)]
theorem st_cat (l m : List UInt8) (k : Nat) (h : k ≤ l.length) : st (l ++ m) k = st l k := by
  induction k with
  | zero => rfl
  | succ k ih => unfold st; rw [nlAt_cat l m k (by omega), ih (by omega)]

theorem none_between (l : List UInt8) (o d : Nat) (h : ∀ j, j < d → nlAt l (o + j) = false) : lineAt l (o + d) = lineAt l o ∧ st l (o + d) = st l o := by
  induction d with
  | zero => exact ⟨rfl, rfl⟩
  | succ d ih =>
    have ih := ih (fun j hj => h j (by omega))
    rw [← Nat.add_assoc, lineAt_no (h d (by omega)), st_no (h d (by omega))]
    exact ih

theorem count_between (l : List UInt8) (o d : Nat) (h : o + d ≤ l.length) : ((l.drop o).take d).count 10 + lineAt l o = lineAt l (o + d) := by
  induction d with
  | zero => simp
  | succ d ih =>
    have ih := ih (by omega)
    have hl : (l.drop o)[d]? = l[o + d]? := by rw [List.getElem?_drop]
    have hx : l[o + d]? = some l[o + d] := List.getElem?_eq_getElem (by omega)
    rw [List.take_add_one, hl, hx, List.count_append, ← Nat.add_assoc]
    have hnl : nlAt l (o + d) = (l[o + d] == 10) := by unfold nlAt; rw [hx]; rfl
    cases h : nlAt l (o + d)
    · rw [lineAt_no h]
      rw [h] at hnl
      have hne : l[o + d] ≠ 10 := beq_eq_false_iff_ne.1 hnl.symm
      have hz : (some l[o + d]).toList.count 10 = 0 := by simp [hne]
      omega
    · rw [lineAt_yes h]
      rw [h] at hnl
      have he : l[o + d] = 10 := beq_iff_eq.1 hnl.symm
      have hz : (some l[o + d]).toList.count 10 = 1 := by simp [he]
      omega

theorem nlAt_get (s : ByteArray) (k : Nat) (h : k < s.size) : nlAt s.data.toList k = ((s[k].toNat : Int) == 10) := by
  unfold nlAt
  rw [Go.Lib.data_getElem? s k h]
  rw [Bool.eq_iff_iff]
  simp only [beq_iff_eq, Option.some.injEq]
  constructor
  · intro e; rw [e]; rfl
  · intro e
    have : s[k].toNat = 10 := by omega
    exact UInt8.toNat_inj.1 this

theorem get_bang (s : ByteArray) (k : Nat) (h : k < s.size) : s.data[k]! = s[k] := by
  have h' : k < s.data.size := h
  rw [getElem!_pos s.data k h']; rfl

theorem size_ext (s : ByteArray) (o p : Nat) (hp : p ≤ s.size) : (s.extract o p).size = p - o := by
  rw [Go.Lib.size_eq, Go.Lib.extract_data, List.length_take, List.length_drop, ← Go.Lib.size_eq]; omega

theorem nlAt_ext (s : ByteArray) (o p j : Nat) (hj : j < p - o) : nlAt (s.extract o p).data.toList j = nlAt s.data.toList (o + j) := by
  unfold nlAt
  rw [Go.Lib.extract_data, List.getElem?_take, if_pos hj, List.getElem?_drop]

/-- What 'strings.LastIndexByte(between, newline)' says. -/
theorem last_cases (s : ByteArray) (o p : Nat) (hop : o ≤ p) (hp : p ≤ s.size) :
    (Go.Lib.lastIndexByte (s.extract o p) 10 = -1 ∧ lineAt s.data.toList p = lineAt s.data.toList o ∧ st s.data.toList p = st s.data.toList o) ∨
    (∃ i : Nat, Go.Lib.lastIndexByte (s.extract o p) 10 = i ∧ o + i < p ∧ st s.data.toList p = o + i + 1) := by
  have hsz := size_ext s o p hp
  have key : ∀ j, j < p - o → (nlAt s.data.toList (o + j) = true ↔ (((s.extract o p).data[j]!).toNat : Int) = 10) := by
    intro j hj
    have hj' : j < (s.extract o p).size := by omega
    rw [get_bang _ _ hj', ← nlAt_ext s o p j hj, nlAt_get _ _ hj', beq_iff_eq]
  rcases Go.Lib.lastIndexByte_spec (s.extract o p) 10 with ⟨e, hn⟩ | ⟨i, hi, e, hc, hn⟩
  · left
    refine ⟨e, ?_⟩
    have := none_between s.data.toList o (p - o) (fun j hj => by
      rw [← Bool.not_eq_true]; intro hx; exact hn j (by omega) ((key j hj).1 hx))
    rw [show o + (p - o) = p by omega] at this
    exact this
  · right
    refine ⟨i, e, by omega, ?_⟩
    have := none_between s.data.toList (o + i + 1) (p - (o + i + 1)) (fun j hj => by
      rw [← Bool.not_eq_true]; intro hx
      have e2 : o + i + 1 + j = o + (i + 1 + j) := by omega
      rw [e2] at hx
      exact hn (i + 1 + j) (by omega) (by omega) ((key (i + 1 + j) (by omega)).1 hx))
    rw [show o + i + 1 + (p - (o + i + 1)) = p by omega] at this
    rw [this.2, st_yes ((key i (by omega)).2 hc)]

/-- What 'strings.Count(between, newline)' says. -/
theorem count_line (s : ByteArray) (o p : Nat) (hop : o ≤ p) (hp : p ≤ s.size) :
    Go.Lib.countByte (s.extract o p).data.toList 10 + lineAt s.data.toList o = lineAt s.data.toList p := by
  unfold Go.Lib.countByte
  rw [Go.Lib.extract_data]
  have := count_between s.data.toList o (p - o) (by rw [← Go.Lib.size_eq]; omega)
  rw [show o + (p - o) = p by omega] at this
  exact this

/-- What 'strings.IndexByte(src[off:], newline)' says. -/
theorem idx_cases (s : ByteArray) (o : Nat) (ho : o ≤ s.size) :
    (Go.Lib.indexByte (s.extract o s.size).data.toList 10 = -1 ∧ lineAt s.data.toList s.size = lineAt s.data.toList o) ∨
    (∃ i : Nat, Go.Lib.indexByte (s.extract o s.size).data.toList 10 = i ∧ o + i < s.size ∧ lineAt s.data.toList (o + i + 1) = lineAt s.data.toList o + 1 ∧ st s.data.toList (o + i + 1) = o + i + 1) := by
  rw [Go.Lib.extract_to_end]
  have hg := Go.Lib.indexByte_ge (s.data.toList.drop o) 10
  have hlen := Go.Lib.size_eq s
  by_cases hm : Go.Lib.indexByte (s.data.toList.drop o) 10 = -1
  · left
    refine ⟨hm, ?_⟩
    have hn := Go.Lib.indexByte_none hm
    have := none_between s.data.toList o (s.size - o) (fun j _ => by
      have := hn j
      rw [List.getElem?_drop] at this
      unfold nlAt
      rw [beq_eq_false_iff_ne]; exact this)
    rw [show o + (s.size - o) = s.size by omega] at this
    exact this.1
  · right
    obtain ⟨i, hi⟩ := Int.eq_ofNat_of_zero_le (show 0 ≤ Go.Lib.indexByte (s.data.toList.drop o) 10 by omega)
    obtain ⟨hx, hb⟩ := Go.Lib.indexByte_some hi
    rw [List.getElem?_drop] at hx
    have hlt : o + i < s.data.toList.length := by
      rcases Nat.lt_or_ge (o + i) s.data.toList.length with h | h
      · exact h
      · rw [List.getElem?_eq_none h] at hx; cases hx
    have hnl : nlAt s.data.toList (o + i) = true := by unfold nlAt; rw [hx]; rfl
    have := none_between s.data.toList o i (fun j hj => by
      have := hb j hj
      rw [List.getElem?_drop] at this
      unfold nlAt
      rw [beq_eq_false_iff_ne]; exact this)
    exact ⟨i, hi, by omega, by rw [lineAt_yes hnl, this.1], st_yes hnl⟩

end Go.Proofs.Qxb6001681a.Pl
