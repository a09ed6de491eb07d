/-
  THE WALKS OF 'LineStart' (function 14), 'NewLocator' (9) and the bound on lengths (13).
-/
import Derived.Test.Qxb6001681aRows
import Derived.Test.Qxb6001681aPlace
import Derived.Test.Qxb6001681aShelf
import Derived.WalkKit
import Derived.ProofKit
import Derived.OpenShut
namespace Go.Proofs.Qxb6001681a
open Go.ChangeShapes Go.WideShapes Go.ChangeAt Go.RowKit

/-- What LineStart answers: the start of line L, or the text's end where the text ends before that line. -/
def StartOf (s : ByteArray) (L : Int) (r : Nat) : Prop :=
  (L ≤ 1 ∧ r = 0) ∨ (1 < L ∧ (Pl.lineAt s.data.toList r : Int) = L ∧ Pl.st s.data.toList r = r) ∨ ((Pl.lineAt s.data.toList s.size : Int) < L ∧ r = s.size)

set_option maxHeartbeats 1000000 in
theorem lineStart (s : ByteArray) (L : Int) (w : World) (hs : s.size ≤ 1048576) (hL : (Lit.int .i64 L).wf = true) :
    Calls Try.prog 14 #[.string s, .int .i64 L] w fun e w' => (∃ r : Nat, r ≤ s.size ∧ e = .returned (.int .i64 (r : Int)) ∧ StartOf s L r) ∧ w' = w := by
  have hbd := bounds_i64 hL
  clear hL
  go_enter Try.func14, Try.ntmps14
  go_wp2
  go_loop [1, 5, 6] (fun c o _ => ∃ (k : Int) (p : Nat), c = .int .i64 k ∧ o = .int .i64 (p : Int) ∧ p ≤ s.size ∧ Hid (Pl.st s.data.toList p = p ∧ (Pl.lineAt s.data.toList p : Int) + k = L + 1 ∧ ((L ≤ 1 ∧ p = 0) ∨ (1 < L ∧ 1 ≤ k)))) (fun c _ _ => (intOf c).toNat)
  case atStart => exact ⟨L, 0, rfl, rfl, Nat.zero_le _, rfl, by show (1 : Int) + L = L + 1; omega, by omega⟩
  case round =>
    obtain ⟨k, p, rfl, rfl, hp, HI⟩ := hrel
    have hlb := Pl.line_bd s.data.toList p
    have hkb : k ≤ L := by have := HI.out.2.1; omega
    by_cases hk : 1 < k
    · rcases Pl.idx_cases s p hp with ⟨hn, hl⟩ | ⟨i, hn, hlt, hl, hst⟩
      · have Hl : Hid _ := hl
        clear hl
        rw [Lib.extract_data] at hn
        go_wp2_with (go_at_call 30; refine (Try.strings_IndexByte _ _ _).mono ?_; rintro e w' ⟨rfl, rfl⟩)
        go_ret
        have h2 := HI.out.2.1
        have h3 := Hl.out
        exact ⟨⟨s.size, Nat.le_refl _, rfl, .inr (.inr ⟨by omega, rfl⟩)⟩, rfl⟩
      · have Hl : Hid _ := hl
        have Hst : Hid _ := hst
        clear hl hst
        rw [Lib.extract_data] at hn
        go_wp2_with (go_at_call 30; refine (Try.strings_IndexByte _ _ _).mono ?_; rintro e w' ⟨rfl, rfl⟩)
        go_round
        case rel =>
          have h2 := HI.out.2.1
          have h3 := HI.out.2.2
          have h4 := Hl.out
          exact ⟨k - 1, p + i + 1, rfl, by go_num, by omega, Hst.out, by omega, by omega⟩
        case measure => simp [intOf]; omega
    · go_wp2
      go_ret
      have h1 := HI.out.1
      have h2 := HI.out.2.1
      have h3 := HI.out.2.2
      refine ⟨⟨p, hp, rfl, ?_⟩, rfl⟩
      rcases h3 with ⟨a, b⟩ | ⟨a, b⟩
      · exact .inl ⟨a, b⟩
      · exact .inr (.inl ⟨a, by omega, h1⟩)

theorem newLocator (s : ByteArray) (w : World) :
    Calls Try.prog 9 #[.string s] w fun e w' => e = .returned (.pointer (some ⟨w.heap.size, 0, none⟩)) ∧ w' = w.alloc (.cells #[.string s, .int .i64 0, .int .i64 1, .int .i64 1] 53) := by
  go_enter Try.func9, Try.ntmps9
  go_wp2
  go_ret
  exact ⟨rfl, rfl⟩

theorem zzBytes13 (s : ByteArray) (L : Int) (w : World) (hs : s.size ≤ 1048576) :
    Calls Try.prog 13 #[.string s, .int .i64 L] w fun e w' => e = .returned (.bool true) ∧ w' = w := by
  have h1 : ¬ ((1048576 : Int) < (s.size : Int)) := by omega
  go_enter Try.func13, Try.ntmps13
  go_wp2
  go_ret
  exact ⟨rfl, rfl⟩

theorem zzBytes13_no (s : ByteArray) (L : Int) (w : World) (hs : 1048576 < s.size) :
    Calls Try.prog 13 #[.string s, .int .i64 L] w fun e w' => e = .returned (.bool false) ∧ w' = w := by
  have h1 : ((1048576 : Int) < (s.size : Int)) := by omega
  go_enter Try.func13, Try.ntmps13
  go_wp2
  go_ret
  exact ⟨rfl, rfl⟩
end Go.Proofs.Qxb6001681a
