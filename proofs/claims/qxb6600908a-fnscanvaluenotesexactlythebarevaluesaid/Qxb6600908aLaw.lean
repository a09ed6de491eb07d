/-
  THE LAW's WALK (function 5), over the callees' contracts.
-/
import Derived.Test.Qxb6600908aRows
import Derived.Test.Qxb6600908aShelf
import Derived.Test.Qxb6600908aIndexAny
import Derived.Test.Qxb6600908aScan
import Derived.Test.Qxb6600908aScanMid
import Derived.Test.Qxb6600908aZZScan
import Derived.Test.Qxb6600908aHelp
import Derived.WalkKit
import Derived.ProofKit
import Derived.OpenShut
import Derived.ShutString
import Derived.WalkSmall
import Derived.WalkSpells
import Derived.Room.AppendFits
namespace Go.Proofs.Qxb6600908a.fnScanValueNotesExactlyTheBareValue
open Go.ChangeShapes Go.WideShapes Go.ChangeAt Go.RowKit
open Go.ChangeMaps (open_string shut_string)

/-- The text without a stop byte behind the value, made. -/
theorem made_end {w : World} {base B cap : Nat} (a0 a1 a2 : ByteArray) (hown : w.ownsRow base 5 1 (.slice (some ⟨B, 0, none⟩) (a0.size + 1 + a1.size + a2.size) cap) (a0.size + 1 + a1.size + a2.size) (Lib.strCells a0 ++ [Value.int .u8 61] ++ Lib.strCells a1 ++ Lib.strCells a2)) :
    ∃ T : ByteArray, T.data.toList = txt a0 a1 a2 [] ∧ (convert 28 9 (.slice (some ⟨B, 0, none⟩) (a0.size + 1 + a1.size + a2.size) cap)).run Try.prog w = .ok (.string T) w :=
  ⟨⟨(txt a0 a1 a2 []).toArray⟩, rfl, run_bytes (txt a0 a1 a2 []) _ (by unfold txt; rw [Lib.size_eq, Lib.size_eq, Lib.size_eq]; simp; omega) (by unfold txt Lib.strCells; simp) hown⟩

/-- The text with a stop byte and a suffix behind the value, made. -/
theorem made_term {w : World} {base B cap : Nat} (a0 a1 a2 a3 : ByteArray) (c : UInt8) (hown : w.ownsRow base 5 1 (.slice (some ⟨B, 0, none⟩) (a0.size + 1 + a1.size + a2.size + 1 + a3.size) cap) (a0.size + 1 + a1.size + a2.size + 1 + a3.size) (Lib.strCells a0 ++ [Value.int .u8 61] ++ Lib.strCells a1 ++ Lib.strCells a2 ++ [Value.int .u8 (c.toNat : Int)] ++ Lib.strCells a3)) :
    ∃ T : ByteArray, T.data.toList = txt a0 a1 a2 (c :: a3.data.toList) ∧ (convert 28 9 (.slice (some ⟨B, 0, none⟩) (a0.size + 1 + a1.size + a2.size + 1 + a3.size) cap)).run Try.prog w = .ok (.string T) w :=
  ⟨⟨(txt a0 a1 a2 (c :: a3.data.toList)).toArray⟩, rfl, run_bytes (txt a0 a1 a2 (c :: a3.data.toList)) _ (by unfold txt; rw [Lib.size_eq, Lib.size_eq, Lib.size_eq, Lib.size_eq]; simp; omega) (by unfold txt Lib.strCells; simp) hown⟩

/-- What is asked of the text. -/
structure Laid (T a0 a1 a2 : ByteArray) : Prop where
  blanks : Blanks T a0.size (a0.size + 1 + a1.size)
  value : ValueAt T (a0.size + 1 + a1.size) a2
  size : T.size ≤ 2097152

theorem zz15_no (T a0 a1 a2 a4 : ByteArray) (a7 : Int) (w : World) (hL : Laid T a0 a1 a2) (hn : notes a2 = false) :
    Calls Try.prog 15 #[.string T, .int .i64 (a0.size : Int), .int .i64 a7, .string a4] w fun e w' => e = .returned (.tuple #[.int .i64 ((a0.size : Int) + 1 + (a1.size : Int)), .int .i64 0, .int .i64 0, .string ⟨#[]⟩, .string ⟨#[]⟩]) ∧ Below w.heap.size w w' := by
  refine (zzScan_no a0.size (a0.size + 1 + a1.size) T a4 a2 a7 w hL.blanks hL.size hL.value hn).mono ?_
  rintro e w' ⟨rfl, hb⟩
  have e1 : ((a0.size + 1 + a1.size : Nat) : Int) = (a0.size : Int) + 1 + (a1.size : Int) := by omega
  rw [e1]
  exact ⟨rfl, hb⟩

theorem zz15_yes (T a0 a1 a2 a4 : ByteArray) (a7 : Int) (w : World) (hL : Laid T a0 a1 a2) (hn : notes a2 = true) :
    Calls Try.prog 15 #[.string T, .int .i64 (a0.size : Int), .int .i64 a7, .string a4] w fun e w' => e = .returned (.tuple #[.int .i64 ((a0.size : Int) + 1 + (a1.size : Int)), .int .i64 1, .int .i64 a7, .string a4, .string a2]) ∧ Below w.heap.size w w' := by
  refine (zzScan_yes a0.size (a0.size + 1 + a1.size) T a4 a2 a7 w hL.blanks hL.size hL.value hn).mono ?_
  rintro e w' ⟨rfl, hb⟩
  have e1 : ((a0.size + 1 + a1.size : Nat) : Int) = (a0.size : Int) + 1 + (a1.size : Int) := by omega
  rw [e1]
  exact ⟨rfl, hb⟩

theorem empty_of {s : ByteArray} (h : ¬ 0 < s.size) : s.toList.isEmpty = true := by
  rw [Lib.toList_data]
  cases hx : s.data.toList with
  | nil => rfl
  | cons _ _ => have := Lib.size_eq s; rw [hx, List.length_cons] at this; omega
theorem full_of {s : ByteArray} (h : 0 < s.size) : s.toList.isEmpty = false := by
  rw [Lib.toList_data]
  cases hx : s.data.toList with
  | nil => have := Lib.size_eq s; rw [hx, List.length_nil] at this; omega
  | cons _ _ => rfl

/-- A stop byte is behind the value, or nothing; the byte behind the blanks is no blank. -/
theorem head_ok (a2 : ByteArray) (rest : List UInt8) (h1 : ∀ b ∈ a2.data.toList, stopB (b.toNat : Int) = false) (h2 : ¬ 0 < a2.size → ∀ b, rest.head? = some b → blankB (b.toNat : Int) = false) :
    ∀ b, (a2.data.toList ++ rest).head? = some b → blankB (b.toNat : Int) = false := by
  intro b hb
  cases hx : a2.data.toList with
  | nil =>
    rw [hx] at hb
    exact h2 (by have := Lib.size_eq a2; rw [hx, List.length_nil] at this; omega) b hb
  | cons c t =>
    rw [hx] at hb
    simp at hb
    subst hb
    have := h1 c (by rw [hx]; simp)
    unfold stopB at this
    unfold blankB
    simp at this ⊢
    exact this.1.1.1.1.1

theorem Try.info5 : (Try.prog.info? 5).map (fun i => (i.zero, i.size, i.bytes)) = some (some (.int .u8 0), 1, 1) := by kernel_rfl

set_option maxRecDepth 100000 in
theorem walk_long (a0 a1 a2 a3 a4 : ByteArray) (a5 : Int) (a6 : Bool) (a7 : Int) (w : World) (h : 1048576 < a0.size + a1.size + a2.size + a3.size + a4.size) (b0 : a0.size ≤ maxLen) (b1 : a1.size ≤ maxLen) (b2 : a2.size ≤ maxLen) (b3 : a3.size ≤ maxLen) (b4 : a4.size ≤ maxLen) :
    Calls Try.prog 5 #[.string a0, .string a1, .string a2, .string a3, .string a4, .int .u8 a5, .bool a6, .int .i64 a7] w fun e w' => e = .returned (.bool true) ∧ Below w.heap.size w w' := by
  go_enter Try.func5, Try.ntmps5
  go_wp2_with (go_at_call 13; refine (zz_no _ _ _ _ _ _ _ _ _ h b0 b1 b2 b3 b4).mono ?_; rintro e w' ⟨rfl, rfl⟩)
  go_ret
  exact ⟨rfl, Below.refl _ _⟩

set_option maxRecDepth 100000 in
set_option maxHeartbeats 4000000 in
theorem walk_main (a0 a1 a2 a3 a4 : ByteArray) (c : UInt8) (a6 : Bool) (a7 : Int) (w : World) (h : a0.size + a1.size + a2.size + a3.size + a4.size ≤ 1048576) :
    Calls Try.prog 5 #[.string a0, .string a1, .string a2, .string a3, .string a4, .int .u8 (c.toNat : Int), .bool a6, .int .i64 a7] w fun e w' => e = .returned (.bool true) ∧ Below w.heap.size w w' := by
  have g0 : ¬ ((1048576 : Int) < (a0.size : Int)) := by omega
  have g1 : ¬ ((1048576 : Int) < (a1.size : Int)) := by omega
  have g2 : ¬ ((1048576 : Int) < (a2.size : Int)) := by omega
  have g3 : ¬ ((1048576 : Int) < (a3.size : Int)) := by omega
  have g4 : ¬ ((1048576 : Int) < (a4.size : Int)) := by omega
  go_enter Try.func5, Try.ntmps5
  go_wp2_with (go_at_call 13; refine (zz _ _ _ _ _ _ _ _ _ h).mono ?_; rintro e w' ⟨rfl, rfl⟩)
  go_loop [17] (fun i => ∃ k : Nat, k ≤ a1.size ∧ i = .int .i64 (k : Int) ∧ Hid (∀ b ∈ a1.data.toList.take k, blankB (b.toNat : Int) = true)) (fun i => a1.size - (intOf i).toNat)
  case atStart => exact ⟨0, Nat.zero_le _, rfl, by intro b hb; simp at hb⟩
  case round =>
    obtain ⟨k, hk, rfl, HK⟩ := hrel
    by_cases hlt : k < a1.size
    · cases c1 : ((a1[k].toNat : Int) != 32)
      · have HN : Hid (∀ b ∈ a1.data.toList.take (k + 1), blankB (b.toNat : Int) = true) := by
          intro b hb
          rw [List.take_add_one, Lib.data_getElem? a1 k hlt] at hb
          rcases List.mem_append.1 hb with hb | hb
          · exact HK.out b hb
          · simp at hb; subst hb; unfold blankB; simp at c1; simp [c1]
        go_wp2
        go_round
        case rel => exact ⟨k + 1, by omega, by go_num, HN.out⟩
        case measure => simp [intOf]; omega
      · cases c2 : ((a1[k].toNat : Int) != 9)
        · have HN : Hid (∀ b ∈ a1.data.toList.take (k + 1), blankB (b.toNat : Int) = true) := by
            intro b hb
            rw [List.take_add_one, Lib.data_getElem? a1 k hlt] at hb
            rcases List.mem_append.1 hb with hb | hb
            · exact HK.out b hb
            · simp at hb; subst hb; unfold blankB; simp at c2; simp [c2]
          go_wp2
          go_round
          case rel => exact ⟨k + 1, by omega, by go_num, HN.out⟩
          case measure => simp [intOf]; omega
        · go_wp2
          go_ret
          exact ⟨rfl, Below.refl _ _⟩
    · have HA1 : Hid (∀ b ∈ a1.data.toList, blankB (b.toNat : Int) = true) := by
        have := HK.out
        rw [List.take_of_length_le (by rw [← Lib.size_eq]; omega)] at this
        exact this
      obtain rfl : k = a1.size := by omega
      clear HK hlt
      go_wp2
      go_loop [18] (fun i => ∃ k : Nat, k ≤ a2.size ∧ i = .int .i64 (k : Int) ∧ Hid (∀ b ∈ a2.data.toList.take k, stopB (b.toNat : Int) = false)) (fun i => a2.size - (intOf i).toNat)
      case atStart => exact ⟨0, Nat.zero_le _, rfl, by intro b hb; simp at hb⟩
      case round =>
        obtain ⟨k, hk, rfl, HK⟩ := hrel
        by_cases hlt : k < a2.size
        · cases c1 : stopB (a2[k].toNat : Int)
          · have HN : Hid (∀ b ∈ a2.data.toList.take (k + 1), stopB (b.toNat : Int) = false) := by
              intro b hb
              rw [List.take_add_one, Lib.data_getElem? a2 k hlt] at hb
              rcases List.mem_append.1 hb with hb | hb
              · exact HK.out b hb
              · simp at hb; subst hb; exact c1
            go_wp2_with (go_at_call 14; refine (isBareStop _ _).mono ?_; rintro e w' ⟨rfl, rfl⟩)
            go_round
            case rel => exact ⟨k + 1, by omega, by go_num, HN.out⟩
            case measure => simp [intOf]; omega
          · go_wp2_with (go_at_call 14; refine (isBareStop _ _).mono ?_; rintro e w' ⟨rfl, rfl⟩)
            go_ret
            exact ⟨rfl, Below.refl _ _⟩
        · have HA2 : Hid (∀ b ∈ a2.data.toList, stopB (b.toNat : Int) = false) := by
            have := HK.out
            rw [List.take_of_length_le (by rw [← Lib.size_eq]; omega)] at this
            exact this
          obtain rfl : k = a2.size := by omega
          clear HK hlt
          obtain ⟨i5, hi5, hz0, hz1, hz2⟩ := info_parts Try.info5
          cases a6
          · have HLD : Hid (∀ T : ByteArray, T.data.toList = txt a0 a1 a2 [] → Laid T a0 a1 a2) := fun T hT => ⟨txt_blanks T a0 a1 a2 [] hT HA1.out (head_ok a2 [] HA2.out (fun _ b hb => by simp at hb)), txt_value T a0 a1 a2 [] hT HA2.out (.inl rfl), by have := txt_size T a0 a1 a2 [] hT; simp at this; omega⟩
            go_wp2_with (first
              | (at_make; refine wpList_make_own _ rfl _ _ 28 rfl w.heap.size 5 i5 (.int .u8 0) 1 Try.underlying28 hi5 hz0 hz1 .i64 .i64 _ (a0.size + a1.size + a2.size + a3.size + 2) rfl rfl (by omega) (by rw [hz2]; omega) (by unfold maxLen; omega) (Nat.le_refl _) ?_; intro w1 hown1 hgrow1)
              | (at_builtin; refine Lib.wpList_append_fits_string _ rfl (.tmp 126) (.tmp 127) 28 9 rfl w.heap.size 5 i5 Try.underlying28 Try.underlying9 hi5 hz1 _ _ _ _ rfl hown1 a0 rfl (by omega) (by omega) ?_; intro w2 hown2 hgrow2; simp only [Nat.zero_add, List.nil_append] at hown2)
              | (at_builtin; refine wpList_append_fits _ rfl (.tmp 129) (.tmp 130) 28 rfl w.heap.size 5 i5 1 Try.underlying28 hi5 hz1 w.heap.size a0.size (a0.size + a1.size + a2.size + a3.size + 2) _ rfl (hown2.alloc _) ⟨w2.heap.size, 0, none⟩ 1 1 [.int .u8 61] rfl rfl (cell_one_new _ _ _) (by simp [Value.oneCell']) (by omega) ?_; intro w3 hown3 hgrow3)
              | (at_builtin; refine Lib.wpList_append_fits_string _ rfl (.tmp 132) (.tmp 133) 28 9 rfl w.heap.size 5 i5 Try.underlying28 Try.underlying9 hi5 hz1 _ _ _ _ rfl hown3 a1 rfl (by omega) (by omega) ?_; intro w4 hown4 hgrow4)
              | (at_builtin; refine Lib.wpList_append_fits_string _ rfl (.tmp 135) (.tmp 136) 28 9 rfl w.heap.size 5 i5 Try.underlying28 Try.underlying9 hi5 hz1 _ _ _ _ rfl hown4 a2 rfl (by omega) (by omega) ?_; intro w5 hown5 hgrow5; obtain ⟨T, hTd, hcv⟩ := made_end a0 a1 a2 hown5; have HT : Hid _ := hTd; clear hTd))
            have hb1 : Below w.heap.size w w1 := (Below.refl _ _).grown hgrow1 (Nat.le_refl _) (fun k hk => by cases hk)
            have hb2 : Below w.heap.size w w2 := hb1.grown hgrow2 hb1.size (fun k hk => by simp [Value.ownBlock] at hk; omega)
            have hb3 : Below w.heap.size w w3 := (hb2.alloc hb2.size _).grown hgrow3 (by have := hb2.size; simp; omega) (fun k hk => by simp at hk; omega)
            have hb4 : Below w.heap.size w w4 := hb3.grown hgrow4 hb3.size (fun k hk => by simp [Value.ownBlock] at hk; omega)
            have hb5 : Below w.heap.size w w5 := hb4.grown hgrow5 hb4.size (fun k hk => by simp [Value.ownBlock] at hk; omega)
            clear hown1 hgrow1 hown2 hgrow2 hown3 hgrow3 hown4 hgrow4 hown5 hgrow5
            clear hb1 hb2 hb3 hb4 hi5 hz0 hz1 hz2
            have HL : Hid (Laid T a0 a1 a2) := HLD.out T HT.out
            by_cases hne : 0 < a2.size
            · have hem := full_of hne
              have k0 : (0 : Int) < (a2.size : Int) := by omega
              have hno := notes_eq a2 hne
              cases hop : openB (a2[0].toNat : Int)
              · rw [hop] at hno
                have HNo : Hid _ := hno
                clear hno
                go_wp2_with fail
                refine (zz15_yes T a0 a1 a2 a4 a7 _ HL.out HNo.out).mono ?_
                rintro e w9 ⟨rfl, hb9⟩
                go_wp2_with (go_at_call 16; refine (opensQ _ _).mono ?_; rintro e w' ⟨rfl, rfl⟩)
                go_ret
                exact ⟨rfl, hb5.trans (hb9.mono hb5.size)⟩
              · rw [hop] at hno
                have HNo : Hid _ := hno
                clear hno
                go_wp2_with fail
                refine (zz15_no T a0 a1 a2 a4 a7 _ HL.out HNo.out).mono ?_
                rintro e w9 ⟨rfl, hb9⟩
                go_wp2_with (go_at_call 16; refine (opensQ _ _).mono ?_; rintro e w' ⟨rfl, rfl⟩)
                go_ret
                exact ⟨rfl, hb5.trans (hb9.mono hb5.size)⟩
            · have hem := empty_of hne
              have HNo : Hid _ := notes_empty a2 (by omega)
              go_wp2_with fail
              refine (zz15_no T a0 a1 a2 a4 a7 _ HL.out HNo.out).mono ?_
              rintro e w9 ⟨rfl, hb9⟩
              go_wp2
              go_ret
              exact ⟨rfl, hb5.trans (hb9.mono hb5.size)⟩
          · cases hst : stopB (c.toNat : Int)
            · go_wp2_with (go_at_call 14; refine (isBareStop _ _).mono ?_; rintro e w' ⟨rfl, rfl⟩)
              go_ret
              exact ⟨rfl, Below.refl _ _⟩
            · have HST : Hid _ := hst
              by_cases hne : 0 < a2.size
              · have hem := full_of hne
                have HLD : Hid (∀ T : ByteArray, T.data.toList = txt a0 a1 a2 (c :: a3.data.toList) → Laid T a0 a1 a2) := fun T hT => ⟨txt_blanks T a0 a1 a2 _ hT HA1.out (head_ok a2 _ HA2.out (fun hn => absurd hne hn)), txt_value T a0 a1 a2 _ hT HA2.out (.inr ⟨c, _, rfl, HST.out⟩), by have := txt_size T a0 a1 a2 _ hT; rw [List.length_cons, ← Lib.size_eq] at this; omega⟩
                go_wp2_with (first
                  | (at_make; refine wpList_make_own _ rfl _ _ 28 rfl w.heap.size 5 i5 (.int .u8 0) 1 Try.underlying28 hi5 hz0 hz1 .i64 .i64 _ (a0.size + a1.size + a2.size + a3.size + 2) rfl rfl (by omega) (by rw [hz2]; omega) (by unfold maxLen; omega) (Nat.le_refl _) ?_; intro w1 hown1 hgrow1)
                  | (at_builtin; refine Lib.wpList_append_fits_string _ rfl (.tmp 126) (.tmp 127) 28 9 rfl w.heap.size 5 i5 Try.underlying28 Try.underlying9 hi5 hz1 _ _ _ _ rfl hown1 a0 rfl (by omega) (by omega) ?_; intro w2 hown2 hgrow2; simp only [Nat.zero_add, List.nil_append] at hown2)
                  | (at_builtin; refine wpList_append_fits _ rfl (.tmp 129) (.tmp 130) 28 rfl w.heap.size 5 i5 1 Try.underlying28 hi5 hz1 w.heap.size a0.size (a0.size + a1.size + a2.size + a3.size + 2) _ rfl (hown2.alloc _) ⟨w2.heap.size, 0, none⟩ 1 1 [.int .u8 61] rfl rfl (cell_one_new _ _ _) (by simp [Value.oneCell']) (by omega) ?_; intro w3 hown3 hgrow3)
                  | (at_builtin; refine Lib.wpList_append_fits_string _ rfl (.tmp 132) (.tmp 133) 28 9 rfl w.heap.size 5 i5 Try.underlying28 Try.underlying9 hi5 hz1 _ _ _ _ rfl hown3 a1 rfl (by omega) (by omega) ?_; intro w4 hown4 hgrow4)
                  | (at_builtin; refine Lib.wpList_append_fits_string _ rfl (.tmp 135) (.tmp 136) 28 9 rfl w.heap.size 5 i5 Try.underlying28 Try.underlying9 hi5 hz1 _ _ _ _ rfl hown4 a2 rfl (by omega) (by omega) ?_; intro w5 hown5 hgrow5)
                  | (at_builtin; refine wpList_append_fits _ rfl (.tmp 139) (.tmp 141) 28 rfl w.heap.size 5 i5 1 Try.underlying28 hi5 hz1 w.heap.size (a0.size + 1 + a1.size + a2.size) (a0.size + a1.size + a2.size + a3.size + 2) _ rfl (hown5.alloc _) ⟨w5.heap.size, 0, none⟩ 1 1 [.int .u8 (c.toNat : Int)] rfl rfl (cell_one_new _ _ _) (by simp [Value.oneCell']) (by omega) ?_; intro w6 hown6 hgrow6)
                  | (at_builtin; refine Lib.wpList_append_fits_string _ rfl (.tmp 143) (.tmp 144) 28 9 rfl w.heap.size 5 i5 Try.underlying28 Try.underlying9 hi5 hz1 _ _ _ _ rfl hown6 a3 rfl (by omega) (by omega) ?_; intro w7 hown7 hgrow7; obtain ⟨T, hTd, hcv⟩ := made_term a0 a1 a2 a3 c hown7; have HT : Hid _ := hTd; clear hTd)
                  | (go_at_call 14; refine (isBareStop _ _).mono ?_; rintro e w' ⟨rfl, rfl⟩))
                have hb1 : Below w.heap.size w w1 := (Below.refl _ _).grown hgrow1 (Nat.le_refl _) (fun k hk => by cases hk)
                have hb2 : Below w.heap.size w w2 := hb1.grown hgrow2 hb1.size (fun k hk => by simp [Value.ownBlock] at hk; omega)
                have hb3 : Below w.heap.size w w3 := (hb2.alloc hb2.size _).grown hgrow3 (by have := hb2.size; simp; omega) (fun k hk => by simp at hk; omega)
                have hb4 : Below w.heap.size w w4 := hb3.grown hgrow4 hb3.size (fun k hk => by simp [Value.ownBlock] at hk; omega)
                have hb5 : Below w.heap.size w w5 := hb4.grown hgrow5 hb4.size (fun k hk => by simp [Value.ownBlock] at hk; omega)
                have hb6 : Below w.heap.size w w6 := (hb5.alloc hb5.size _).grown hgrow6 (by have := hb5.size; simp; omega) (fun k hk => by simp at hk; omega)
                have hb7 : Below w.heap.size w w7 := hb6.grown hgrow7 hb6.size (fun k hk => by simp [Value.ownBlock] at hk; omega)
                clear hown6 hgrow6 hown7 hgrow7
                clear hown1 hgrow1 hown2 hgrow2 hown3 hgrow3 hown4 hgrow4 hown5 hgrow5
                clear hb1 hb2 hb3 hb4 hb5 hb6 hi5 hz0 hz1 hz2
                have HL : Hid (Laid T a0 a1 a2) := HLD.out T HT.out
                have k0 : (0 : Int) < (a2.size : Int) := by omega
                have hno := notes_eq a2 hne
                cases hop : openB (a2[0].toNat : Int)
                · rw [hop] at hno
                  have HNo : Hid _ := hno
                  clear hno
                  go_wp2_with fail
                  refine (zz15_yes T a0 a1 a2 a4 a7 _ HL.out HNo.out).mono ?_
                  rintro e w9 ⟨rfl, hb9⟩
                  go_wp2_with (go_at_call 16; refine (opensQ _ _).mono ?_; rintro e w' ⟨rfl, rfl⟩)
                  go_ret
                  exact ⟨rfl, hb7.trans (hb9.mono hb7.size)⟩
                · rw [hop] at hno
                  have HNo : Hid _ := hno
                  clear hno
                  go_wp2_with fail
                  refine (zz15_no T a0 a1 a2 a4 a7 _ HL.out HNo.out).mono ?_
                  rintro e w9 ⟨rfl, hb9⟩
                  go_wp2_with (go_at_call 16; refine (opensQ _ _).mono ?_; rintro e w' ⟨rfl, rfl⟩)
                  go_ret
                  exact ⟨rfl, hb7.trans (hb9.mono hb7.size)⟩
              · have hem := empty_of hne
                cases e32 : ((c.toNat : Int) == 32)
                · cases e9 : ((c.toNat : Int) == 9)
                  · have HLD : Hid (∀ T : ByteArray, T.data.toList = txt a0 a1 a2 (c :: a3.data.toList) → Laid T a0 a1 a2) := fun T hT => ⟨txt_blanks T a0 a1 a2 _ hT HA1.out (head_ok a2 _ HA2.out (fun _ b hb => by simp at hb; subst hb; unfold blankB; rw [e32, e9]; rfl)), txt_value T a0 a1 a2 _ hT HA2.out (.inr ⟨c, _, rfl, HST.out⟩), by have := txt_size T a0 a1 a2 _ hT; rw [List.length_cons, ← Lib.size_eq] at this; omega⟩
                    go_wp2_with (first
                      | (at_make; refine wpList_make_own _ rfl _ _ 28 rfl w.heap.size 5 i5 (.int .u8 0) 1 Try.underlying28 hi5 hz0 hz1 .i64 .i64 _ (a0.size + a1.size + a2.size + a3.size + 2) rfl rfl (by omega) (by rw [hz2]; omega) (by unfold maxLen; omega) (Nat.le_refl _) ?_; intro w1 hown1 hgrow1)
                      | (at_builtin; refine Lib.wpList_append_fits_string _ rfl (.tmp 126) (.tmp 127) 28 9 rfl w.heap.size 5 i5 Try.underlying28 Try.underlying9 hi5 hz1 _ _ _ _ rfl hown1 a0 rfl (by omega) (by omega) ?_; intro w2 hown2 hgrow2; simp only [Nat.zero_add, List.nil_append] at hown2)
                      | (at_builtin; refine wpList_append_fits _ rfl (.tmp 129) (.tmp 130) 28 rfl w.heap.size 5 i5 1 Try.underlying28 hi5 hz1 w.heap.size a0.size (a0.size + a1.size + a2.size + a3.size + 2) _ rfl (hown2.alloc _) ⟨w2.heap.size, 0, none⟩ 1 1 [.int .u8 61] rfl rfl (cell_one_new _ _ _) (by simp [Value.oneCell']) (by omega) ?_; intro w3 hown3 hgrow3)
                      | (at_builtin; refine Lib.wpList_append_fits_string _ rfl (.tmp 132) (.tmp 133) 28 9 rfl w.heap.size 5 i5 Try.underlying28 Try.underlying9 hi5 hz1 _ _ _ _ rfl hown3 a1 rfl (by omega) (by omega) ?_; intro w4 hown4 hgrow4)
                      | (at_builtin; refine Lib.wpList_append_fits_string _ rfl (.tmp 135) (.tmp 136) 28 9 rfl w.heap.size 5 i5 Try.underlying28 Try.underlying9 hi5 hz1 _ _ _ _ rfl hown4 a2 rfl (by omega) (by omega) ?_; intro w5 hown5 hgrow5)
                      | (at_builtin; refine wpList_append_fits _ rfl (.tmp 139) (.tmp 141) 28 rfl w.heap.size 5 i5 1 Try.underlying28 hi5 hz1 w.heap.size (a0.size + 1 + a1.size + a2.size) (a0.size + a1.size + a2.size + a3.size + 2) _ rfl (hown5.alloc _) ⟨w5.heap.size, 0, none⟩ 1 1 [.int .u8 (c.toNat : Int)] rfl rfl (cell_one_new _ _ _) (by simp [Value.oneCell']) (by omega) ?_; intro w6 hown6 hgrow6)
                      | (at_builtin; refine Lib.wpList_append_fits_string _ rfl (.tmp 143) (.tmp 144) 28 9 rfl w.heap.size 5 i5 Try.underlying28 Try.underlying9 hi5 hz1 _ _ _ _ rfl hown6 a3 rfl (by omega) (by omega) ?_; intro w7 hown7 hgrow7; obtain ⟨T, hTd, hcv⟩ := made_term a0 a1 a2 a3 c hown7; have HT : Hid _ := hTd; clear hTd)
                      | (go_at_call 14; refine (isBareStop _ _).mono ?_; rintro e w' ⟨rfl, rfl⟩))
                    have hb1 : Below w.heap.size w w1 := (Below.refl _ _).grown hgrow1 (Nat.le_refl _) (fun k hk => by cases hk)
                    have hb2 : Below w.heap.size w w2 := hb1.grown hgrow2 hb1.size (fun k hk => by simp [Value.ownBlock] at hk; omega)
                    have hb3 : Below w.heap.size w w3 := (hb2.alloc hb2.size _).grown hgrow3 (by have := hb2.size; simp; omega) (fun k hk => by simp at hk; omega)
                    have hb4 : Below w.heap.size w w4 := hb3.grown hgrow4 hb3.size (fun k hk => by simp [Value.ownBlock] at hk; omega)
                    have hb5 : Below w.heap.size w w5 := hb4.grown hgrow5 hb4.size (fun k hk => by simp [Value.ownBlock] at hk; omega)
                    have hb6 : Below w.heap.size w w6 := (hb5.alloc hb5.size _).grown hgrow6 (by have := hb5.size; simp; omega) (fun k hk => by simp at hk; omega)
                    have hb7 : Below w.heap.size w w7 := hb6.grown hgrow7 hb6.size (fun k hk => by simp [Value.ownBlock] at hk; omega)
                    clear hown6 hgrow6 hown7 hgrow7
                    clear hown1 hgrow1 hown2 hgrow2 hown3 hgrow3 hown4 hgrow4 hown5 hgrow5
                    clear hb1 hb2 hb3 hb4 hb5 hb6 hi5 hz0 hz1 hz2
                    have HL : Hid (Laid T a0 a1 a2) := HLD.out T HT.out
                    have HNo : Hid _ := notes_empty a2 (by omega)
                    go_wp2_with fail
                    refine (zz15_no T a0 a1 a2 a4 a7 _ HL.out HNo.out).mono ?_
                    rintro e w9 ⟨rfl, hb9⟩
                    go_wp2
                    go_ret
                    exact ⟨rfl, hb7.trans (hb9.mono hb7.size)⟩
                  · go_wp2_with (go_at_call 14; refine (isBareStop _ _).mono ?_; rintro e w' ⟨rfl, rfl⟩)
                    go_ret
                    exact ⟨rfl, Below.refl _ _⟩
                · go_wp2_with (go_at_call 14; refine (isBareStop _ _).mono ?_; rintro e w' ⟨rfl, rfl⟩)
                  go_ret
                  exact ⟨rfl, Below.refl _ _⟩

theorem walk (a0 a1 a2 a3 a4 : ByteArray) (a5 : Int) (a6 : Bool) (a7 : Int) (w0 : a0.size ≤ maxLen) (w1 : a1.size ≤ maxLen) (w2 : a2.size ≤ maxLen) (w3 : a3.size ≤ maxLen) (w4 : a4.size ≤ maxLen) (w5 : (Lit.int .u8 a5).wf = true) (w : World) :
    Calls Try.prog 5 #[.string a0, .string a1, .string a2, .string a3, .string a4, .int .u8 a5, .bool a6, .int .i64 a7] w fun e w' => e = .returned (.bool true) ∧ Below w.heap.size w w' := by
  have hbd := bounds_u8 w5
  by_cases h : a0.size + a1.size + a2.size + a3.size + a4.size ≤ 1048576
  · obtain ⟨c, hc⟩ : ∃ c : UInt8, a5 = (c.toNat : Int) := ⟨UInt8.ofNat a5.toNat, by rw [UInt8.toNat_ofNat']; omega⟩
    rw [hc]
    exact walk_main a0 a1 a2 a3 a4 c a6 a7 w h
  · exact walk_long a0 a1 a2 a3 a4 a5 a6 a7 w (by omega) w0 w1 w2 w3 w4

end Go.Proofs.Qxb6600908a.fnScanValueNotesExactlyTheBareValue
