/-
  'ZZScanValue' (function 15), over scanValue's walks.
-/
import Derived.Test.Qxb6600908aRows
import Derived.Test.Qxb6600908aShelf
import Derived.Test.Qxb6600908aIndexAny
import Derived.Test.Qxb6600908aScan
import Derived.Test.Qxb6600908aScanMid
import Derived.WalkKit
import Derived.ProofKit
import Derived.OpenShut
import Derived.WalkSmall
import Derived.WalkSpells
import Derived.Deep.QuietTactic
import Derived.BigQuiet
namespace Go.Proofs.Qxb6600908a
open Go.ChangeShapes Go.WideShapes Go.ChangeAt Go.RowKit

/-- scanValue, whatever stands behind the blanks. -/
theorem scan_any (b p q : Nat) (T key V : ByteArray) (ln : Int) (w : World) (hS : Sc w b T p ln) (hB : Blanks T p q) (hs : T.size ≤ 2097152) (hV : ValueAt T q V) :
    Calls Try.prog 18 #[.pointer (some ⟨b, 0, none⟩), .string key] w fun e w' => e = .returned (.tuple #[]) ∧ Below b w w' ∧ After w' b T q ln key V := by
  by_cases hq : q < T.size
  · exact scan_mid b p q T key V ln w hS hB hs hq hV
  · obtain rfl : q = T.size := by have := hB.hi; omega
    refine (scan_end b p T key ln w hS hB hs).mono ?_
    rintro e w' ⟨h1, h2, h3⟩
    refine ⟨h1, h2, .inl ⟨?_, h3⟩⟩
    have he : T.extract T.size T.size = ⟨#[]⟩ := by
      rw [Lib.extract_eq, Lib.size_eq, List.drop_length, List.take_nil]
    have h0 : V.size = 0 := by
      rcases hV with ⟨_, h⟩ | ⟨h, _, _⟩
      · rw [← h, he]; rfl
      · rw [he] at h
        have : endOf ⟨#[]⟩ = -1 := rfl
        omega
    unfold notes
    rw [dif_neg (by omega)]

/-- A scanner as ZZScanValue makes it. -/
theorem fresh_sc (T : ByteArray) (p : Nat) (ln : Int) (w : World) : Sc (w.alloc (.cells #[.string T, .int .i64 (p : Int), .int .i64 ln, .slice none 0 0] 37)) w.heap.size T p ln := by
  constructor <;> go_simp

set_option maxHeartbeats 2000000 in
theorem zzScan_no (p q : Nat) (T key V : ByteArray) (ln : Int) (w : World) (hB : Blanks T p q) (hs : T.size ≤ 2097152) (hV : ValueAt T q V) (hn : notes V = false) :
    Calls Try.prog 15 #[.string T, .int .i64 (p : Int), .int .i64 ln, .string key] w fun e w' => e = .returned (.tuple #[.int .i64 (q : Int), .int .i64 0, .int .i64 0, .string ⟨#[]⟩, .string ⟨#[]⟩]) ∧ Below w.heap.size w w' := by
  have HB : Hid _ := hB
  have HV : Hid _ := hV
  have HN : Hid _ := hn
  have HF : Hid (Sc (w.alloc (.cells #[.string T, .int .i64 (p : Int), .int .i64 ln, .slice none 0 0] 37)) w.heap.size T p ln) := fresh_sc T p ln w
  clear hB hV hn
  go_enter Try.func15, Try.ntmps15
  go_wp2_with fail
  refine (scan_any w.heap.size p q T key V ln _ HF.out HB.out hs HV.out).mono ?_
  rintro e w3 ⟨rfl, hb, hA⟩
  rcases hA with ⟨_, hA⟩ | ⟨hA, _⟩
  · obtain ⟨lt, c0, c1, c2, c3, f1, f3⟩ := hA
    have hb2 : Below w.heap.size w w3 := ((Below.refl _ _).alloc (Nat.le_refl _) _).trans hb
    clear hb
    go_wp2
    exact bodyPost_ret (v := .tuple #[.int .i64 (q : Int), .int .i64 0, .int .i64 0, .string ⟨#[]⟩, .string ⟨#[]⟩]) (by simp [results, Try.results15, go_sem]) rfl ⟨rfl, hb2⟩
  · rw [HN.out] at hA; cases hA

set_option maxHeartbeats 2000000 in
theorem zzScan_yes (p q : Nat) (T key V : ByteArray) (ln : Int) (w : World) (hB : Blanks T p q) (hs : T.size ≤ 2097152) (hV : ValueAt T q V) (hn : notes V = true) :
    Calls Try.prog 15 #[.string T, .int .i64 (p : Int), .int .i64 ln, .string key] w fun e w' => e = .returned (.tuple #[.int .i64 (q : Int), .int .i64 1, .int .i64 ln, .string key, .string V]) ∧ Below w.heap.size w w' := by
  have HB : Hid _ := hB
  have HV : Hid _ := hV
  have HN : Hid _ := hn
  have HF : Hid (Sc (w.alloc (.cells #[.string T, .int .i64 (p : Int), .int .i64 ln, .slice none 0 0] 37)) w.heap.size T p ln) := fresh_sc T p ln w
  clear hB hV hn
  go_enter Try.func15, Try.ntmps15
  go_wp2_with fail
  refine (scan_any w.heap.size p q T key V ln _ HF.out HB.out hs HV.out).mono ?_
  rintro e w3 ⟨rfl, hb, hA⟩
  rcases hA with ⟨hA, _⟩ | ⟨_, hA⟩
  · rw [HN.out] at hA; cases hA
  · obtain ⟨c1, g, cap, c3, g0, g1, g2⟩ := hA
    have hb2 : Below w.heap.size w w3 := ((Below.refl _ _).alloc (Nat.le_refl _) _).trans hb
    have lg := World.block_lt_of_cell? _ _ g0
    have lb := World.block_lt_of_cell? _ _ c1
    clear hb
    go_wp2
    go_quiet (fail)
    go_wp2
    exact bodyPost_ret (v := .tuple #[.int .i64 (q : Int), .int .i64 1, .int .i64 ln, .string key, .string V]) (by simp [results, Try.results15, go_sem]) rfl ⟨rfl, below_drewN (hb2.alloc hb2.size _) _⟩
end Go.Proofs.Qxb6600908a
