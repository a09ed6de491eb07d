/-
  THE SMALL FUNCTIONS of the law: isBareStop (14), opensQuotedOrNested (16), the bound on lengths (13); and the bytes that a slice of the call's own holds, as a string.
-/
import Derived.Test.Qxb6600908aRows
import Derived.Test.Qxb6600908aScan
import Derived.WalkKit
import Derived.ProofKit
import Derived.OpenShut
import Derived.WalkSmall
import Derived.WalkSpells
import Derived.Laws.BytesArg
import Derived.Lib.AppendStr
namespace Go.Proofs.Qxb6600908a
open Go.ChangeShapes Go.WideShapes Go.ChangeAt Go.RowKit

def stopB (c : Int) : Bool := c == 32 || c == 9 || c == 13 || c == 10 || c == 35 || c == 44 || c == 125
def openB (c : Int) : Bool := c == 34 || c == 39 || c == 91 || c == 123

set_option maxHeartbeats 1000000 in
theorem isBareStop (c : Int) (w : World) :
    Calls Try.prog 14 #[.int .u8 c] w fun e w' => e = .returned (.bool (stopB c)) ∧ w = w' := by
  go_enter Try.func14, Try.ntmps14
  go_wp2
  all_goals go_ret
  all_goals exact ⟨by simp [stopB, *], rfl⟩

set_option maxHeartbeats 1000000 in
theorem opensQ (c : Int) (w : World) :
    Calls Try.prog 16 #[.int .u8 c] w fun e w' => e = .returned (.bool (openB c)) ∧ w = w' := by
  go_enter Try.func16, Try.ntmps16
  go_wp2
  all_goals go_ret
  all_goals exact ⟨by simp [openB, *], rfl⟩

theorem zz (a0 a1 a2 a3 a4 : ByteArray) (a5 : Int) (a6 : Bool) (a7 : Int) (w : World) (h : a0.size + a1.size + a2.size + a3.size + a4.size ≤ 1048576) :
    Calls Try.prog 13 #[.string a0, .string a1, .string a2, .string a3, .string a4, .int .u8 a5, .bool a6, .int .i64 a7] w fun e w' => e = .returned (.bool true) ∧ w = w' := by
  go_enter Try.func13, Try.ntmps13
  go_wp2
  go_ret
  exact ⟨rfl, rfl⟩

set_option maxHeartbeats 1000000 in
theorem zz_no (a0 a1 a2 a3 a4 : ByteArray) (a5 : Int) (a6 : Bool) (a7 : Int) (w : World) (h : 1048576 < a0.size + a1.size + a2.size + a3.size + a4.size) (b0 : a0.size ≤ maxLen) (b1 : a1.size ≤ maxLen) (b2 : a2.size ≤ maxLen) (b3 : a3.size ≤ maxLen) (b4 : a4.size ≤ maxLen) :
    Calls Try.prog 13 #[.string a0, .string a1, .string a2, .string a3, .string a4, .int .u8 a5, .bool a6, .int .i64 a7] w fun e w' => e = .returned (.bool false) ∧ w = w' := by
  unfold maxLen at b0 b1 b2 b3 b4
  by_cases c0 : (1048576 : Int) < (a0.size : Int)
  · go_enter Try.func13, Try.ntmps13
    go_wp2
    go_ret
    exact ⟨rfl, rfl⟩
  · by_cases c1 : (1048576 : Int) < (a1.size : Int)
    · go_enter Try.func13, Try.ntmps13
      go_wp2
      go_ret
      exact ⟨rfl, rfl⟩
    · by_cases c2 : (1048576 : Int) < (a0.size : Int) + (a1.size : Int)
      · go_enter Try.func13, Try.ntmps13
        go_wp2
        go_ret
        exact ⟨rfl, rfl⟩
      · by_cases c3 : (1048576 : Int) < (a2.size : Int)
        · go_enter Try.func13, Try.ntmps13
          go_wp2
          go_ret
          exact ⟨rfl, rfl⟩
        · by_cases c4 : (1048576 : Int) < (a0.size : Int) + (a1.size : Int) + (a2.size : Int)
          · go_enter Try.func13, Try.ntmps13
            go_wp2
            go_ret
            exact ⟨rfl, rfl⟩
          · by_cases c5 : (1048576 : Int) < (a3.size : Int)
            · go_enter Try.func13, Try.ntmps13
              go_wp2
              go_ret
              exact ⟨rfl, rfl⟩
            · by_cases c6 : (1048576 : Int) < (a0.size : Int) + (a1.size : Int) + (a2.size : Int) + (a3.size : Int)
              · go_enter Try.func13, Try.ntmps13
                go_wp2
                go_ret
                exact ⟨rfl, rfl⟩
              · by_cases c7 : (1048576 : Int) < (a4.size : Int)
                · go_enter Try.func13, Try.ntmps13
                  go_wp2
                  go_ret
                  exact ⟨rfl, rfl⟩
                · have c8 : (1048576 : Int) < (a0.size : Int) + (a1.size : Int) + (a2.size : Int) + (a3.size : Int) + (a4.size : Int) := by omega
                  go_enter Try.func13, Try.ntmps13
                  go_wp2
                  go_ret
                  exact ⟨rfl, rfl⟩

/-! ### THE PLAIN LAYER -/
theorem stop_contains (c : UInt8) : stops.data.toList.contains c = stopB (c.toNat : Int) := by
  have key : ∀ k : UInt8, (c == k) = ((c.toNat : Int) == (k.toNat : Int)) := by
    intro k
    rw [Bool.eq_iff_iff, beq_iff_eq, beq_iff_eq]
    constructor
    · intro e; rw [e]
    · intro e; exact UInt8.toNat_inj.1 (by omega)
  simp only [stops, List.contains_cons, List.contains_nil, key, stopB, Bool.or_false, Bool.or_assoc]
  rfl

theorem open_neg (c : UInt8) : decide (openIdx c < 0) = !openB (c.toNat : Int) := by
  have key : ∀ k : UInt8, (c == k) = ((c.toNat : Int) == (k.toNat : Int)) := by
    intro k
    rw [Bool.eq_iff_iff, beq_iff_eq, beq_iff_eq]
    constructor
    · intro e; rw [e]
    · intro e; exact UInt8.toNat_inj.1 (by omega)
  have h := Lib.contains_iff_indexByte opens.data.toList c
  have h2 : opens.data.toList.contains c = openB (c.toNat : Int) := by
    simp only [opens, List.contains_cons, List.contains_nil, key, openB, Bool.or_false, Bool.or_assoc]
    rfl
  rw [h2] at h
  rw [h]
  unfold openIdx
  by_cases hc : 0 ≤ Lib.indexByte opens.data.toList c
  · rw [decide_eq_true hc, decide_eq_false (by omega)]; rfl
  · rw [decide_eq_false hc, decide_eq_true (by omega)]; rfl

/-- The text as a list: prefix, the sign, blanks, value, rest. -/
def txt (a0 a1 a2 : ByteArray) (rest : List UInt8) : List UInt8 := a0.data.toList ++ 61 :: (a1.data.toList ++ (a2.data.toList ++ rest))

theorem txt_size (T a0 a1 a2 : ByteArray) (rest : List UInt8) (hT : T.data.toList = txt a0 a1 a2 rest) : T.size = a0.size + 1 + a1.size + a2.size + rest.length := by
  rw [Lib.size_eq, hT, Lib.size_eq, Lib.size_eq, Lib.size_eq]
  unfold txt
  simp
  omega

theorem txt_blank (T a0 a1 a2 : ByteArray) (rest : List UInt8) (hT : T.data.toList = txt a0 a1 a2 rest) (i : Nat) (hi : i < a1.size) : T.data.toList[a0.size + 1 + i]? = a1.data.toList[i]? := by
  rw [hT]
  unfold txt
  rw [List.getElem?_append_right (by rw [← Lib.size_eq]; omega), ← Lib.size_eq, show a0.size + 1 + i - a0.size = i + 1 by omega, List.getElem?_cons_succ, List.getElem?_append_left (by rw [← Lib.size_eq]; exact hi)]

theorem txt_drop (T a0 a1 a2 : ByteArray) (rest : List UInt8) (hT : T.data.toList = txt a0 a1 a2 rest) : T.data.toList.drop (a0.size + 1 + a1.size) = a2.data.toList ++ rest := by
  rw [hT]
  unfold txt
  rw [List.drop_append, List.drop_eq_nil_of_le (by rw [← Lib.size_eq]; omega), List.nil_append, ← Lib.size_eq, show a0.size + 1 + a1.size - a0.size = a1.size + 1 by omega, List.drop_succ_cons, Lib.size_eq a1, List.drop_left]

/-- Blank: a space or a tab. -/
def blankB (c : Int) : Bool := c == 32 || c == 9

theorem txt_blanks (T a0 a1 a2 : ByteArray) (rest : List UInt8) (hT : T.data.toList = txt a0 a1 a2 rest) (h1 : ∀ b ∈ a1.data.toList, blankB (b.toNat : Int) = true)
    (h2 : ∀ b, (a2.data.toList ++ rest).head? = some b → blankB (b.toNat : Int) = false) : Blanks T a0.size (a0.size + 1 + a1.size) := by
  have hsz := txt_size T a0 a1 a2 rest hT
  refine ⟨by omega, by omega, ?_, ?_⟩
  · intro i h hlo hhi
    have e := txt_blank T a0 a1 a2 rest hT (i - (a0.size + 1)) (by omega)
    rw [show a0.size + 1 + (i - (a0.size + 1)) = i by omega, Lib.data_getElem? T i h] at e
    have hm := h1 _ (List.mem_of_getElem? e.symm)
    unfold blankB at hm
    simpa using hm
  · intro h
    have e := txt_drop T a0 a1 a2 rest hT
    have e2 : (a2.data.toList ++ rest).head? = some T[a0.size + 1 + a1.size] := by
      rw [← e, List.head?_drop, Lib.data_getElem? T _ h]
    have hm := h2 _ e2
    unfold blankB at hm
    simpa using hm

theorem noAny_all (l r C : List UInt8) (h : ∀ b ∈ l, C.contains b = false) : Lib.NoAny (l ++ r) C l.length := by
  intro j b hj hb
  rw [List.getElem?_append_left hj] at hb
  exact h b (List.mem_of_getElem? hb)

/-- The value stands where it was laid. -/
theorem txt_value (T a0 a1 a2 : ByteArray) (rest : List UInt8) (hT : T.data.toList = txt a0 a1 a2 rest) (h1 : ∀ b ∈ a2.data.toList, stopB (b.toNat : Int) = false)
    (h2 : rest = [] ∨ ∃ c t, rest = c :: t ∧ stopB (c.toNat : Int) = true) : ValueAt T (a0.size + 1 + a1.size) a2 := by
  have hR : (T.extract (a0.size + 1 + a1.size) T.size).data.toList = a2.data.toList ++ rest := by rw [Lib.extract_to_end]; exact txt_drop T a0 a1 a2 rest hT
  have hno := noAny_all a2.data.toList rest stops.data.toList (fun b hb => by rw [stop_contains]; exact h1 b hb)
  unfold ValueAt endOf
  rw [hR]
  rcases h2 with rfl | ⟨c, t, rfl, hc⟩
  · left
    rw [List.append_nil] at hno hR ⊢
    refine ⟨Lib.indexAny_none hno, ?_⟩
    have := Lib.mk_data (T.extract (a0.size + 1 + a1.size) T.size)
    rw [hR, Lib.mk_data] at this
    exact this.symm
  · right
    have hlen : a2.size = a2.data.toList.length := Lib.size_eq a2
    refine ⟨?_, ?_, ?_⟩
    · rw [Lib.indexAny_hit hno (x := c) (by simp) (by rw [stop_contains]; exact hc), hlen]
    · rw [Lib.extract_eq, hR, hlen, List.drop_zero, Nat.sub_zero, List.take_left, Lib.mk_data]
    · rw [hlen, Lib.size_eq (T.extract _ _), hR, List.length_append]; omega

theorem notes_eq (V : ByteArray) (h : 0 < V.size) : notes V = !openB (V[0].toNat : Int) := by
  unfold notes
  rw [dif_pos h, open_neg]

theorem notes_empty (V : ByteArray) (h : V.size = 0) : notes V = false := by
  unfold notes
  rw [dif_neg (by omega)]

/-- The bytes that a slice of the call's own holds, as a string. -/
theorem run_bytes {w : World} {base B cap : Nat} {xs : List Value} (l : List UInt8) (n : Nat) (hn : l.length = n) (hx : xs = l.map fun c => Value.int .u8 (c.toNat : Int)) (hown : w.ownsRow base 5 1 (.slice (some ⟨B, 0, none⟩) n cap) n xs) :
    (convert 28 9 (.slice (some ⟨B, 0, none⟩) n cap)).run Try.prog w = .ok (.string ⟨l.toArray⟩) w := by
  have := run_convert_bytes_arg (P := Try.prog) w 28 5 Try.underlying28 Try.underlying5 B 0 n cap (l.map fun c => (c.toNat : Int)) (by simpa using hn) (by
    intro i hi
    rw [Nat.zero_add, hown.cellAt i (by omega), hx]
    have hil : i < l.length := by omega
    simp [hil]) 9 Try.underlying9
  rw [this]
  have e : strOfNums (l.map fun c => (c.toNat : Int)) = ⟨l.toArray⟩ := by
    unfold strOfNums
    rw [List.map_map]
    have e : ((fun n : Int => UInt8.ofNat n.toNat) ∘ fun c : UInt8 => (c.toNat : Int)) = id := by
      funext c; simp
    rw [e, List.map_id]
  rw [e]

end Go.Proofs.Qxb6600908a
