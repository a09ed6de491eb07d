/-
  THE WALK OF '(*scanner).scanValue' (function 18) AND OF 'ZZScanValue' (15).
-/
import Derived.Test.Qxb6600908aRows
import Derived.Test.Qxb6600908aShelf
import Derived.Test.Qxb6600908aIndexAny
import Derived.WalkKit
import Derived.ProofKit
import Derived.OpenShut
import Derived.WalkSmall
import Derived.WalkSpells
import Derived.Deep.QuietTactic
import Derived.BigQuiet
import Derived.Deep.RegionLaw
import Derived.Deep.AppendLies
import Derived.Deep.LoopGhost
namespace Go.Proofs.Qxb6600908a
open Go.ChangeShapes Go.WideShapes Go.ChangeAt Go.RowKit

/-- The stop bytes, as the program's text lists them. -/
def stops : ByteArray := ⟨#[32, 9, 13, 10, 35, 44, 125]⟩
/-- The bytes that open a quoted or nested value. -/
def opens : ByteArray := ⟨#[34, 39, 91, 123]⟩

theorem stops_ascii : Ascii stops := by intro b hb; simp [stops] at hb; rcases hb with rfl | rfl | rfl | rfl | rfl | rfl | rfl <;> decide

/-- Where the first stop byte stands, or -1. -/
def endOf (s : ByteArray) : Int := Lib.indexAny s.data.toList stops.data.toList
/-- Where the byte stands among those that open a quoted or nested value, or -1. -/
def openIdx (c : UInt8) : Int := Lib.indexByte opens.data.toList c

theorem indexAny7 (s : ByteArray) (hs : s.size < 4294967281) (w : World) :
    Calls Try.prog 21 #[.string s, .string ⟨#[32, 9, 13, 10, 35, 44, 125]⟩] w fun e w' => e = .returned (.int .i64 (endOf s)) ∧ Below w.heap.size w w' :=
  indexAny_any stops stops_ascii (by decide) (by decide) s hs w

theorem indexOpens (c : UInt8) (w : World) :
    Calls Try.prog 22 #[.string ⟨#[34, 39, 91, 123]⟩, .int .u8 (c.toNat : Int)] w fun e w' => e = .returned (.int .i64 (openIdx c)) ∧ w' = w := by
  refine (Try.strings_IndexByte opens (c.toNat : Int) w).mono ?_
  rintro e w' ⟨rfl, rfl⟩
  have hback : ((c.toNat : Int)).toNat.toUInt8 = c := by simp
  rw [hback]
  exact ⟨rfl, rfl⟩

/-- The cells of a scanner at block b: the text T, the position i, the line, no note yet. -/
structure Sc (w : World) (b : Nat) (T : ByteArray) (i : Nat) (ln : Int) : Prop where
  lt : b < w.heap.size
  c0 : w.cell? ⟨b, 0, none⟩ = some (.string T)
  c1 : w.cell? ⟨b, 1, none⟩ = some (.int .i64 (i : Int))
  c2 : w.cell? ⟨b, 2, none⟩ = some (.int .i64 ln)
  c3 : w.cell? ⟨b, 3, none⟩ = some (.slice none 0 0)
  f1 : w.frozen? ⟨b, 1, none⟩ = false
  f3 : w.frozen? ⟨b, 3, none⟩ = false

theorem Sc.drewN {w : World} {b : Nat} {T : ByteArray} {i : Nat} {ln : Int} (h : Sc w b T i ln) (n : Nat) : Sc (w.drewN n) b T i ln := ⟨h.lt, h.c0, h.c1, h.c2, h.c3, h.f1, h.f3⟩

theorem Sc.move {w : World} {b : Nat} {T : ByteArray} {i : Nat} {ln : Int} (h : Sc w b T i ln) (j : Nat) (v : Int) (hv : v = (j : Int)) : Sc (w.setCell ⟨b, 1, none⟩ (.int .i64 v)) b T j ln := by
  subst hv
  obtain ⟨lt, c0, c1, c2, c3, f1, f3⟩ := h
  constructor <;> go_simp

theorem Sc.below {w w' : World} {b : Nat} {T : ByteArray} {i : Nat} {ln : Int} (h : Sc w b T i ln) {B : Nat} (hb : Below B w w') (hB : b < B) : Sc w' b T i ln :=
  ⟨Nat.lt_of_lt_of_le h.lt hb.size, (hb.cell (p := ⟨b, 0, none⟩) hB).trans h.c0, (hb.cell (p := ⟨b, 1, none⟩) hB).trans h.c1, (hb.cell (p := ⟨b, 2, none⟩) hB).trans h.c2, (hb.cell (p := ⟨b, 3, none⟩) hB).trans h.c3, (hb.frozen (p := ⟨b, 1, none⟩) hB).trans h.f1, (hb.frozen (p := ⟨b, 3, none⟩) hB).trans h.f3⟩

/-- What the text says from the sign at p on: blanks up to q, then a byte that is none, or the end. -/
structure Blanks (T : ByteArray) (p q : Nat) : Prop where
  lo : p + 1 ≤ q
  hi : q ≤ T.size
  all : ∀ i (h : i < T.size), p + 1 ≤ i → i < q → ((T[i].toNat : Int) = 32 ∨ (T[i].toNat : Int) = 9)
  stop : ∀ h : q < T.size, (T[q].toNat : Int) ≠ 32 ∧ (T[q].toNat : Int) ≠ 9

set_option maxHeartbeats 2000000 in
theorem scan_end (b p : Nat) (T key : ByteArray) (ln : Int) (w : World) (hS : Sc w b T p ln) (hB : Blanks T p T.size) (hs : T.size ≤ 2097152) :
    Calls Try.prog 18 #[.pointer (some ⟨b, 0, none⟩), .string key] w fun e w' => e = .returned (.tuple #[]) ∧ Below b w w' ∧ Sc w' b T T.size ln := by
  obtain ⟨q, hq⟩ : ∃ q, q = T.size := ⟨_, rfl⟩
  rw [← hq] at hB ⊢
  have HQ : Hid _ := hq
  clear hq
  have HB : Hid _ := hB
  have hlo := hB.lo
  have hhi := hB.hi
  obtain ⟨lt, c0, c1, c2, c3, f1, f3⟩ := hS
  have HS : Hid (Sc w b T p ln) := ⟨lt, c0, c1, c2, c3, f1, f3⟩
  clear hB
  go_enter Try.func18, Try.ntmps18
  go_wp2
  clear c0 c1 c2 c3 f1 f3
  go_loopg [13] (q - (p + 1)) (fun g _ wr => ∃ i : Nat, i + g = q ∧ p + 1 ≤ i ∧ Hid (Sc wr b T i ln) ∧ Below b w wr)
  case atStart => exact ⟨p + 1, by omega, Nat.le_refl _, HS.out.move _ _ (by omega), Below.setCell (p := ⟨b, 1, none⟩) (Below.refl b w) (Nat.le_refl b) _⟩
  case round =>
    obtain ⟨i, hig, hi1, HR, hb⟩ := hrel
    obtain ⟨lt2, c0, c1, c2, c3, f1, f3⟩ := HR.out
    cases gk with
    | succ g =>
      have hit : i < T.size := by omega
      have hd : decide ((i : Int) < (T.size : Int)) = true := decide_eq_true (by omega)
      have j1 : (i : Int) < (T.size : Int) := by omega
      have j0 : (0 : Int) ≤ (i : Int) := by omega
      by_cases h32 : (T[i].toNat : Int) = 32
      · have e1 : ((T[i].toNat : Int) == 32) = true := beq_iff_eq.2 h32
        clear h32
        go_wp2
        go_quiet (fail)
        go_wp2
        go_roundg g
        case measure => omega
        case rel => exact ⟨i + 1, by omega, by omega, (HR.out.drewN _).move _ _ (by omega), Below.setCell (p := ⟨b, 1, none⟩) (below_drewN hb _) (Nat.le_refl b) _⟩
      · have h9 := (HB.out.all i hit hi1 (by omega)).resolve_left h32
        have e1 : ((T[i].toNat : Int) == 32) = false := beq_eq_false_iff_ne.2 h32
        have e2 : ((T[i].toNat : Int) == 9) = true := beq_iff_eq.2 h9
        clear h32 h9
        go_wp2
        go_quiet (fail)
        go_wp2
        go_roundg g
        case measure => omega
        case rel => exact ⟨i + 1, by omega, by omega, (HR.out.drewN _).move _ _ (by omega), Below.setCell (p := ⟨b, 1, none⟩) (below_drewN hb _) (Nat.le_refl b) _⟩
    | zero =>
      obtain rfl : i = q := by omega
      have j0 : (0 : Int) ≤ (i : Int) := by omega
      have j2 : (i : Int) ≤ (T.size : Int) := by omega
      have hiT := HQ.out
      have hit : ¬ i < T.size := by omega
      have hd : decide ((i : Int) < (T.size : Int)) = false := decide_eq_false (by omega)
      have he : endOf (T.extract i T.size) = -1 := by
        rw [hiT]
        unfold endOf
        rw [Lib.extract_to_end, Lib.size_eq, List.drop_length]
        rfl
      have hem : (T.extract i T.size).toList.isEmpty = true := by
        rw [Lib.toList_data, Lib.extract_to_end, hiT, Lib.size_eq, List.drop_length]
        rfl
      have HE : Hid _ := he
      have HM : Hid _ := hem
      clear hiT he hem
      go_wp2
      go_quiet (fail)
      go_wp2
      go_quiet (fail)
      go_wp2_with fail
      refine (indexAny7 _ (by simp; omega) _).mono ?_
      rintro e w3 ⟨rfl, hb3⟩
      have hem := HM.out
      rw [HE.out]
      go_wp2
      go_end0
      exact ⟨rfl, (below_drewN hb _).trans (hb3.mono (Nat.le_of_lt lt2)), (HR.out.drewN _).below hb3 lt2⟩

/-- The value that stands at q: what comes behind up to the first stop byte, or all of it. -/
def ValueAt (T : ByteArray) (q : Nat) (V : ByteArray) : Prop :=
  (endOf (T.extract q T.size) = -1 ∧ T.extract q T.size = V) ∨ (endOf (T.extract q T.size) = (V.size : Int) ∧ (T.extract q T.size).extract 0 V.size = V ∧ V.size ≤ (T.extract q T.size).size)

/-- Is the value noted? -/
def notes (V : ByteArray) : Bool := if h : 0 < V.size then decide (openIdx V[0] < 0) else false

/-- One note: line, key, value. -/
structure Noted (w : World) (b q : Nat) (ln : Int) (key V : ByteArray) : Prop where
  c1 : w.cell? ⟨b, 1, none⟩ = some (.int .i64 (q : Int))
  c3 : ∃ g cap, w.cell? ⟨b, 3, none⟩ = some (.slice (some ⟨g, 0, none⟩) 1 cap) ∧ w.cell? ⟨g, 0, none⟩ = some (.int .i64 ln) ∧ w.cell? ⟨g, 1, none⟩ = some (.string key) ∧ w.cell? ⟨g, 2, none⟩ = some (.string V)

/-- What scanValue leaves. -/
def After (w : World) (b : Nat) (T : ByteArray) (q : Nat) (ln : Int) (key V : ByteArray) : Prop :=
  (notes V = false ∧ Sc w b T q ln) ∨ (notes V = true ∧ Noted w b q ln key V)

end Go.Proofs.Qxb6600908a
