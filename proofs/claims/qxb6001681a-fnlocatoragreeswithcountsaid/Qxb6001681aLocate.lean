/-
  THE WALK OF '(*Locator).Locate' (function 11): a Locator that stands at offset o of s answers line and column of offset p, and stands at p behind the call.
-/
import Derived.Test.Qxb6001681aRows
import Derived.Test.Qxb6001681aPlace
import Derived.Test.Qxb6001681aShelf
import Derived.WalkKit
import Derived.ProofKit
import Derived.Deep.QuietTactic
import Derived.BigQuiet
import Derived.Deep.RegionWith
import Derived.WalkSmall
namespace Go.Proofs.Qxb6001681a
open Go.ChangeShapes Go.WideShapes Go.ChangeAt Go.RowKit

/-- The four cells of a Locator at block b: the text s, the offset o, its line and its column. -/
structure Loc (w : World) (b : Nat) (s : ByteArray) (o : Nat) : Prop where
  lt : b < w.heap.size
  c0 : w.cell? ⟨b, 0, none⟩ = some (.string s)
  c1 : w.cell? ⟨b, 1, none⟩ = some (.int .i64 (o : Int))
  c2 : w.cell? ⟨b, 2, none⟩ = some (.int .i64 (Pl.lineAt s.data.toList o : Int))
  c3 : w.cell? ⟨b, 3, none⟩ = some (.int .i64 ((o : Int) - (Pl.st s.data.toList o : Int) + 1))
  f0 : w.frozen? ⟨b, 0, none⟩ = false
  f1 : w.frozen? ⟨b, 1, none⟩ = false
  f2 : w.frozen? ⟨b, 2, none⟩ = false
  f3 : w.frozen? ⟨b, 3, none⟩ = false

set_option maxHeartbeats 1000000 in
theorem locate_fwd_none (b o p : Nat) (s : ByteArray) (w : World) (hL : Loc w b s o) (hop : o ≤ p) (hp : p ≤ s.size) (hs : s.size ≤ 2097152)
    (hlast : Go.Lib.lastIndexByte (s.extract o p) 10 = -1) (HQ : Hid (Pl.lineAt s.data.toList p = Pl.lineAt s.data.toList o ∧ Pl.st s.data.toList p = Pl.st s.data.toList o)) :
    Calls Try.prog 11 #[.pointer (some ⟨b, 0, none⟩), .int .i64 (p : Int)] w fun e w' => e = .returned (.agg #[.int .i64 (Pl.lineAt s.data.toList p), .int .i64 ((p : Int) - Pl.st s.data.toList p + 1)]) ∧ Below b w w' ∧ Loc w' b s p := by
  obtain ⟨lt, c0, c1, c2, c3, f0, f1, f2, f3⟩ := hL
  have hnlt : ¬ ((p : Int) < (o : Int)) := by omega
  have hi1 : (0 : Int) ≤ (o : Int) := by omega
  have hi2 : (o : Int) ≤ (p : Int) := by omega
  have hi3 : (p : Int) ≤ (s.size : Int) := by omega
  have hsz := Pl.size_ext s o p hp
  have hst := Pl.st_le s.data.toList o
  go_enter Try.func11, Try.ntmps11
  go_wp2
  go_quiet (fail)
  go_wp2_with (go_at_call 28; refine (Try.strings_LastIndexByte _ _ (by omega) _).mono ?_; rintro e w' ⟨rfl, rfl⟩)
  have e1 : (o : Int) - (Pl.st s.data.toList o : Int) + 1 + ((p - o : Nat) : Int) = (p : Int) - (Pl.st s.data.toList p : Int) + 1 := by rw [HQ.out.2]; omega
  have e2 : (Pl.lineAt s.data.toList o : Int) = (Pl.lineAt s.data.toList p : Int) := by rw [HQ.out.1]
  rw [e1, e2]
  refine bodyPost_ret (v := .agg #[.int .i64 (Pl.lineAt s.data.toList p : Int), .int .i64 ((p : Int) - (Pl.st s.data.toList p : Int) + 1)]) (by simp [results, Try.results11, go_sem]) rfl ⟨rfl, ?_, ?_⟩
  · repeat' (first | exact Below.refl _ _ | exact Nat.le_refl _ | exact Nat.le_of_lt lt | refine Below.setCell ?_ ?_ _ | refine below_drewN ?_ _ | refine Below.alloc ?_ ?_ _)
  · constructor <;> go_simp

set_option maxHeartbeats 1000000 in
theorem locate_fwd_hit (b o p i : Nat) (s : ByteArray) (w : World) (hL : Loc w b s o) (hop : o ≤ p) (hp : p ≤ s.size) (hs : s.size ≤ 2097152)
    (hlast : Go.Lib.lastIndexByte (s.extract o p) 10 = (i : Int)) (hi : o + i < p) (HQ : Hid (Pl.st s.data.toList p = o + i + 1)) (HC : Hid (Go.Lib.countByte (s.extract o p).data.toList 10 + Pl.lineAt s.data.toList o = Pl.lineAt s.data.toList p)) :
    Calls Try.prog 11 #[.pointer (some ⟨b, 0, none⟩), .int .i64 (p : Int)] w fun e w' => e = .returned (.agg #[.int .i64 (Pl.lineAt s.data.toList p), .int .i64 ((p : Int) - Pl.st s.data.toList p + 1)]) ∧ Below b w w' ∧ Loc w' b s p := by
  obtain ⟨lt, c0, c1, c2, c3, f0, f1, f2, f3⟩ := hL
  have hnlt : ¬ ((p : Int) < (o : Int)) := by omega
  have hi1 : (0 : Int) ≤ (o : Int) := by omega
  have hi2 : (o : Int) ≤ (p : Int) := by omega
  have hi3 : (p : Int) ≤ (s.size : Int) := by omega
  have hsz := Pl.size_ext s o p hp
  have hst := Pl.st_le s.data.toList o
  have hb1 := (Pl.line_bd s.data.toList p).2
  have hb0 := (Pl.line_bd s.data.toList o).1
  have ec := HC.out
  rw [Lib.extract_data] at ec
  have hw1 : IntKind.i64.wrap ((Pl.lineAt s.data.toList o : Int) + (Lib.countByte (List.take (p - o) (List.drop o s.data.toList)) 10 : Nat)) = (Pl.lineAt s.data.toList p : Int) := by
    rw [IntWalk.i64_in _ (by constructor <;> omega)]; omega
  have hw2 : IntKind.i64.wrap (((p - o : Nat) : Int) - (i : Int)) = (p : Int) - (Pl.st s.data.toList p : Int) + 1 := by
    rw [IntWalk.i64_in _ (by constructor <;> omega), HQ.out]; omega
  clear ec hb1 hb0
  go_enter Try.func11, Try.ntmps11
  go_wp2
  go_quiet (fail)
  go_wp2_with (go_at_call 28; refine (Try.strings_LastIndexByte _ _ (by omega) _).mono ?_; rintro e w' ⟨rfl, rfl⟩)
  go_region_with (go_at_call 29; refine (Try.strings_Count_one _ _ _).mono ?_; rintro e w' ⟨rfl, rfl⟩)
  all_goals
    go_wp2
    refine bodyPost_ret (v := .agg #[.int .i64 (Pl.lineAt s.data.toList p : Int), .int .i64 ((p : Int) - (Pl.st s.data.toList p : Int) + 1)]) (by simp [results, Try.results11, go_sem]) rfl ⟨rfl, ?_, ?_⟩
    · repeat' (first | exact Below.refl _ _ | exact Nat.le_refl _ | exact Nat.le_of_lt lt | refine Below.setCell ?_ ?_ _ | refine below_drewN ?_ _ | refine Below.alloc ?_ ?_ _)
    · constructor <;> go_simp

/-- The Locator set back to the text's start. -/
theorem reset_loc {w : World} {b o : Nat} {s : ByteArray} (hL : Loc w b s o) :
    Loc (((w.setCell ⟨b, 1, none⟩ (.int .i64 0)).setCell ⟨b, 2, none⟩ (.int .i64 1)).setCell ⟨b, 3, none⟩ (.int .i64 1)) b s 0 ∧ Below b w (((w.setCell ⟨b, 1, none⟩ (.int .i64 0)).setCell ⟨b, 2, none⟩ (.int .i64 1)).setCell ⟨b, 3, none⟩ (.int .i64 1))
      ∧ (((w.setCell ⟨b, 1, none⟩ (.int .i64 0)).setCell ⟨b, 2, none⟩ (.int .i64 1)).setCell ⟨b, 3, none⟩ (.int .i64 1)).heap.size = w.heap.size := by
  obtain ⟨lt, c0, c1, c2, c3, f0, f1, f2, f3⟩ := hL
  refine ⟨?_, ?_, ?_⟩
  · constructor
    case c2 => show _ = some (Value.int .i64 1); go_simp
    case c3 => show _ = some (Value.int .i64 1); go_simp
    all_goals go_simp
  · repeat' (first | exact Below.refl _ _ | exact Nat.le_refl _ | refine Below.setCell ?_ ?_ _)
  · simp [World.setCell]

set_option maxHeartbeats 1000000 in
theorem locate_back_none (b o p : Nat) (s : ByteArray) (w : World) (hL : Loc w b s o) (hop : p < o) (hp : p ≤ s.size) (hs : s.size ≤ 2097152)
    (hlast : Go.Lib.lastIndexByte (s.extract 0 p) 10 = -1) (HQ : Hid (Pl.lineAt s.data.toList p = 1 ∧ Pl.st s.data.toList p = 0)) :
    Calls Try.prog 11 #[.pointer (some ⟨b, 0, none⟩), .int .i64 (p : Int)] w fun e w' => e = .returned (.agg #[.int .i64 (Pl.lineAt s.data.toList p), .int .i64 ((p : Int) - Pl.st s.data.toList p + 1)]) ∧ Below b w w' ∧ Loc w' b s p := by
  obtain ⟨hR, hB, hZ⟩ := reset_loc hL
  obtain ⟨lt, c0, c1, c2, c3, f0, f1, f2, f3⟩ := hL
  have hlt : ((p : Int) < (o : Int)) := by omega
  have hi2 : (0 : Int) ≤ (p : Int) := by omega
  have hi3 : (p : Int) ≤ (s.size : Int) := by omega
  have hsz : (s.extract 0 p).size = p := Pl.size_ext s 0 p hp
  have HR : Hid _ := hR
  have HZ : Hid _ := hZ
  clear hR hZ
  go_enter Try.func11, Try.ntmps11
  go_wp2
  have hR := HR.out
  have hZ := HZ.out
  clear HR HZ c0 c1 c2 c3 f0 f1 f2 f3
  generalize ((w.setCell ⟨b, 1, none⟩ (.int .i64 0)).setCell ⟨b, 2, none⟩ (.int .i64 1)).setCell ⟨b, 3, none⟩ (.int .i64 1) = w1 at *
  obtain ⟨lt1, c0, c1, c2', c3', f0, f1, f2, f3⟩ := hR
  have c2 : w1.cell? ⟨b, 2, none⟩ = some (.int .i64 1) := c2'
  have c3 : w1.cell? ⟨b, 3, none⟩ = some (.int .i64 1) := c3'
  clear c2' c3'
  go_quiet (fail)
  go_wp2_with (go_at_call 28; refine (Try.strings_LastIndexByte _ _ (by omega) _).mono ?_; rintro e w' ⟨rfl, rfl⟩)
  have e1 : (1 : Int) + (p : Int) = (p : Int) - (Pl.st s.data.toList p : Int) + 1 := by rw [HQ.out.2]; omega
  have e2 : Pl.lineAt s.data.toList p = 1 := HQ.out.1
  rw [e1]
  refine bodyPost_ret (v := .agg #[.int .i64 1, .int .i64 ((p : Int) - (Pl.st s.data.toList p : Int) + 1)]) (by simp [results, Try.results11, go_sem, hZ]) rfl ⟨by rw [e2]; rfl, ?_, ?_⟩
  · repeat' (first | exact hB | exact Nat.le_refl _ | exact Nat.le_of_lt lt | exact Nat.le_of_lt lt1 | refine Below.setCell ?_ ?_ _ | refine below_drewN ?_ _ | refine Below.alloc ?_ ?_ _)
  · constructor
    case c2 => rw [e2]; show _ = some (Value.int .i64 1); go_simp
    all_goals (clear e1 e2; go_simp)

set_option maxHeartbeats 1000000 in
theorem locate_back_hit (b o p i : Nat) (s : ByteArray) (w : World) (hL : Loc w b s o) (hop : p < o) (hp : p ≤ s.size) (hs : s.size ≤ 2097152)
    (hlast : Go.Lib.lastIndexByte (s.extract 0 p) 10 = (i : Int)) (hi : i < p) (HQ : Hid (Pl.st s.data.toList p = i + 1)) (HC : Hid (Go.Lib.countByte (s.extract 0 p).data.toList 10 + 1 = Pl.lineAt s.data.toList p)) :
    Calls Try.prog 11 #[.pointer (some ⟨b, 0, none⟩), .int .i64 (p : Int)] w fun e w' => e = .returned (.agg #[.int .i64 (Pl.lineAt s.data.toList p), .int .i64 ((p : Int) - Pl.st s.data.toList p + 1)]) ∧ Below b w w' ∧ Loc w' b s p := by
  obtain ⟨hR, hB, hZ⟩ := reset_loc hL
  obtain ⟨lt, c0, c1, c2, c3, f0, f1, f2, f3⟩ := hL
  have hlt : ((p : Int) < (o : Int)) := by omega
  have hi2 : (0 : Int) ≤ (p : Int) := by omega
  have hi3 : (p : Int) ≤ (s.size : Int) := by omega
  have hsz : (s.extract 0 p).size = p := Pl.size_ext s 0 p hp
  have hb1 := (Pl.line_bd s.data.toList p).2
  have ec := HC.out
  rw [Lib.extract_data] at ec
  have hw1 : IntKind.i64.wrap (1 + (Lib.countByte (List.take p s.data.toList) 10 : Nat)) = (Pl.lineAt s.data.toList p : Int) := by
    rw [List.drop_zero, Nat.sub_zero] at ec
    rw [IntWalk.i64_in _ (by constructor <;> omega)]; omega
  have hw2 : IntKind.i64.wrap ((p : Int) - (i : Int)) = (p : Int) - (Pl.st s.data.toList p : Int) + 1 := by
    rw [IntWalk.i64_in _ (by constructor <;> omega), HQ.out]; omega
  clear ec hb1
  have HR : Hid _ := hR
  have HZ : Hid _ := hZ
  clear hR hZ
  go_enter Try.func11, Try.ntmps11
  go_wp2
  have hR := HR.out
  have hZ := HZ.out
  clear HR HZ c0 c1 c2 c3 f0 f1 f2 f3
  generalize ((w.setCell ⟨b, 1, none⟩ (.int .i64 0)).setCell ⟨b, 2, none⟩ (.int .i64 1)).setCell ⟨b, 3, none⟩ (.int .i64 1) = w1 at *
  obtain ⟨lt1, c0, c1, c2', c3', f0, f1, f2, f3⟩ := hR
  have c2 : w1.cell? ⟨b, 2, none⟩ = some (.int .i64 1) := c2'
  have c3 : w1.cell? ⟨b, 3, none⟩ = some (.int .i64 1) := c3'
  clear c2' c3'
  go_quiet (fail)
  go_wp2_with (go_at_call 28; refine (Try.strings_LastIndexByte _ _ (by omega) _).mono ?_; rintro e w' ⟨rfl, rfl⟩)
  go_region_with (go_at_call 29; refine (Try.strings_Count_one _ _ _).mono ?_; rintro e w' ⟨rfl, rfl⟩)
  all_goals
    go_wp2
    refine bodyPost_ret (v := .agg #[.int .i64 (Pl.lineAt s.data.toList p : Int), .int .i64 ((p : Int) - (Pl.st s.data.toList p : Int) + 1)]) (by simp [results, Try.results11, go_sem, hZ]) rfl ⟨rfl, ?_, ?_⟩
    · repeat' (first | exact hB | exact Nat.le_refl _ | exact Nat.le_of_lt lt | exact Nat.le_of_lt lt1 | refine Below.setCell ?_ ?_ _ | refine below_drewN ?_ _ | refine Below.alloc ?_ ?_ _)
    · constructor <;> go_simp

/-- ████ Locate ████ -/
theorem locate (b o p : Nat) (s : ByteArray) (w : World) (hL : Loc w b s o) (hp : p ≤ s.size) (hs : s.size ≤ 2097152) :
    Calls Try.prog 11 #[.pointer (some ⟨b, 0, none⟩), .int .i64 (p : Int)] w fun e w' => e = .returned (.agg #[.int .i64 (Pl.lineAt s.data.toList p), .int .i64 ((p : Int) - Pl.st s.data.toList p + 1)]) ∧ Below b w w' ∧ Loc w' b s p := by
  by_cases hop : o ≤ p
  · rcases Pl.last_cases s o p hop hp with ⟨h1, h2⟩ | ⟨i, h1, h2, h3⟩
    · exact locate_fwd_none b o p s w hL hop hp hs h1 h2
    · exact locate_fwd_hit b o p i s w hL hop hp hs h1 h2 h3 (Pl.count_line s o p hop hp)
  · rcases Pl.last_cases s 0 p (Nat.zero_le _) hp with ⟨h1, h2⟩ | ⟨i, h1, h2, h3⟩
    · exact locate_back_none b o p s w hL (by omega) hp hs h1 h2
    · exact locate_back_hit b o p i s w hL (by omega) hp hs h1 (by omega) (by rw [Nat.zero_add] at h3; exact h3) (Pl.count_line s 0 p (Nat.zero_le _) hp)
end Go.Proofs.Qxb6001681a
