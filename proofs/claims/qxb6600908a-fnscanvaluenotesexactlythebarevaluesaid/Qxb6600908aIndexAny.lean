/-
  strings.IndexAny (function 21) AT AN ASCII chars OF FOUR BYTES OR MORE AND WHATEVER s: over strings.IndexRune (29) at a rune of 128 or more in an ASCII string: -1.
-/
import Derived.Test.Qxb6600908aRows
import Derived.Test.Qxb6600908aShelf
import Derived.WalkKit
import Derived.ProofKit
import Derived.OpenShut
import Derived.WalkSmall
import Derived.WalkMore
import Derived.Laws.Runes
import Derived.Laws.RangeAny
import Derived.Laws.RangeString
import Derived.Lib.OthersKept
import Derived.Deep.QuietTactic
import Derived.BigQuiet
import Derived.Deep.LoopGhost
namespace Go.Proofs.Qxb6600908a
open Go.ChangeShapes Go.WideShapes Go.ChangeAt Go.RowKit

/-- Every byte is below 128. -/
def Ascii (C : ByteArray) : Prop := ∀ b ∈ C.data.toList, b.toNat < 128

theorem ascii_at {C : ByteArray} (h : Ascii C) (i : Nat) (hi : i < C.size) : C[i].toNat < 128 :=
  h _ (List.mem_of_getElem? (Go.Lib.data_getElem? C i hi))

/-- A byte of 128 or more stands nowhere in an ASCII string. -/
theorem ascii_none {C : ByteArray} (h : Ascii C) (a e : Nat) (c : UInt8) (hc : 128 ≤ c.toNat) : Go.Lib.indexByte (C.extract a e).data.toList c = -1 := by
  rw [← Go.Lib.firstIdx_eq]
  exact firstIdx_ascii C a e c h hc

/-! ### IndexRune at a rune that no ASCII string holds -/
set_option maxHeartbeats 2000000 in
set_option maxRecDepth 100000 in
theorem indexRune_error (C : ByteArray) (hC : Ascii C) (_hs : C.size < 4294967281) (w : World) :
    Calls Try.prog 29 #[.string C, .int .i32 65533] w fun e w' => e = .returned (.int .i64 (-1)) ∧ Below w.heap.size w w' := by
  have HC : Hid _ := hC
  clear hC
  go_enter Try.func29, Try.ntmps29
  go_wp2
  go_loopg [5] C.size (fun g _ wx => ∃ i : Nat, i + g = C.size ∧ wx = w.iter C i)
  case atStart => exact ⟨0, by omega, rfl⟩
  case round =>
    obtain ⟨i, hig, rfl⟩ := hrel
    cases gk with
    | zero =>
      obtain rfl : i = C.size := by omega
      have hnx : ∀ ty, (Instr.next (.pointer (some ⟨w.heap.size, 0, none⟩)) true ty).run Try.prog (w.iter C C.size) = .ok (.tuple #[.bool false]) (w.iter C C.size) := fun ty => run_next_end w C C.size ty (by omega)
      go_wp2
      go_ret
      exact ⟨rfl, (Below.refl _ _).alloc (Nat.le_refl _) _⟩
    | succ g =>
      have hi : i < C.size := by omega
      have ha := ascii_at HC.out i hi
      have hnx : ∀ ty, (Instr.next (.pointer (some ⟨w.heap.size, 0, none⟩)) true ty).run Try.prog (w.iter C i) = .ok (.tuple #[.bool true, .int .i64 i, .int .i32 C[i].toNat]) (w.iter C (i + 1)) := fun ty => run_next_ascii w C i ty hi ha
      have hne : ((C[i].toNat : Int) == 65533) = false := beq_eq_false_iff_ne.2 (by omega)
      generalize C[i].toNat = c at *
      go_wp2
      go_roundg g
      case measure => omega
      case rel => exact ⟨i + 1, by omega, rfl⟩

set_option maxHeartbeats 1000000 in
set_option maxRecDepth 100000 in
theorem indexRune_bad (C : ByteArray) (r : Int) (h0 : 128 ≤ r) (h1 : r ≠ 65533) (hv : Lib.validRune r = false) (w : World) :
    Calls Try.prog 29 #[.string C, .int .i32 r] w fun e w' => e = .returned (.int .i64 (-1)) ∧ w' = w := by
  have g1 : ¬ (r < 128) := by omega
  have g2 : (r == 65533) = false := beq_eq_false_iff_ne.2 h1
  have HV : Hid _ := hv
  clear hv h1
  go_enter Try.func29, Try.ntmps29
  go_wp2_with (go_at_call 38; refine (Try.utf8_ValidRune _ _).mono ?_; rintro e w' ⟨rfl, rfl⟩; rw [HV.out])
  go_ret
  exact ⟨rfl, rfl⟩

set_option maxHeartbeats 2000000 in
set_option maxRecDepth 100000 in
theorem indexRune_good (C : ByteArray) (hC : Ascii C) (h4 : 4 ≤ C.size) (hs : C.size < 4294967281) (r : Int) (h0 : 128 ≤ r) (h1 : r ≠ 65533) (hv : Lib.validRune r = true) (w : World) :
    Calls Try.prog 29 #[.string C, .int .i32 r] w fun e w' => e = .returned (.int .i64 (-1)) ∧ ∃ n, w' = w.drewN n := by
  have g1 : ¬ (r < 128) := by omega
  have g2 : (r == 65533) = false := beq_eq_false_iff_ne.2 h1
  have HV : Hid _ := hv
  have HC : Hid _ := hC
  clear hv h1 hC
  obtain ⟨e2, e4, eL⟩ := encode_facts r (by rw [validRune_eq]; exact HV.out) h0
  have HL : Hid _ := eL
  obtain ⟨k, hk⟩ : ∃ k, (Utf8.encode r).size = k + 1 := ⟨(Utf8.encode r).size - 1, by omega⟩
  have hk1 : 1 ≤ k := by omega
  have hk3 : k ≤ 3 := by omega
  clear eL e2 e4
  go_enter Try.func29, Try.ntmps29
  go_wp2_with (go_at_call 38; refine (Try.utf8_ValidRune _ _).mono ?_; rintro e w' ⟨rfl, rfl⟩; rw [HV.out])
  go_step3
  go_wp2
  generalize Utf8.encode r = E at *
  refine wp_loop_rounds 1 ?_
  rw [rounds_succ]
  have i1 : (k : Int) < (C.size : Int) := by omega
  have i2 : (0 : Int) ≤ (k : Int) := by omega
  have i3 : (k : Int) < (k : Int) + 1 := by omega
  have i4 : (0 : Int) ≤ (k : Int) + 1 := by omega
  have i5 : (k : Int) + 1 ≤ (C.size : Int) := by omega
  have i6 : IntKind.i64.wrap ((k : Int) + 1) = (k : Int) + 1 := IntWalk.i64_in _ (by constructor <;> omega)
  have hkC : k < C.size := by omega
  have hkE : k < E.size := by omega
  have hE : 128 ≤ (E[k]'hkE).toNat := by
    have h := HL.out (by omega)
    have e : E.size - 1 = k := by omega
    simpa [e] using h
  have hCk := ascii_at HC.out k hkC
  have hne : (((C[k]'hkC).toNat : Int) != ((E[k]'hkE).toNat : Int)) = true := by rw [bne_iff_ne]; omega
  have hix : Go.Lib.indexByte (C.extract (k + 1) C.size).data.toList (E[k]'hkE) = -1 := ascii_none HC.out (k + 1) C.size _ hE
  rw [Go.Lib.extract_data] at hix
  clear hE hCk
  go_wp2
  go_step3
  go_wp2
  go_quiet (fail)
  go_wp2
  go_quiet ((go_at_call 22; refine (Try.strings_IndexByte _ _ _).mono ?_; rintro e w4 ⟨rfl, rfl⟩; exact ⟨rfl, _, rfl⟩))
  go_wp2
  rw [Exit.noGoto_ret]
  go_wp2
  try rw [Exit.noGoto_ret]
  go_ret
  exact ⟨rfl, _, rfl⟩

/-- IndexRune at whatever rune from 128 on. -/
theorem indexRune_high (C : ByteArray) (hC : Ascii C) (h4 : 4 ≤ C.size) (hs : C.size < 4294967281) (r : Int) (h0 : 128 ≤ r) (w : World) :
    Calls Try.prog 29 #[.string C, .int .i32 r] w fun e w' => e = .returned (.int .i64 (-1)) ∧ Below w.heap.size w w' := by
  by_cases h1 : r = 65533
  · subst h1; exact indexRune_error C hC hs w
  · cases hv : Lib.validRune r
    · exact (indexRune_bad C r h0 h1 hv w).mono fun e w' ⟨a, b⟩ => ⟨a, b ▸ Below.refl _ _⟩
    · exact (indexRune_good C hC h4 hs r h0 h1 hv w).mono fun e w' ⟨a, n, b⟩ => ⟨a, b ▸ below_drewN (Below.refl _ _) n⟩

/-! ### What a rune of several bytes covers -/
theorem decode_covers (s : ByteArray) (pos : Nat) (h : pos < s.size) (ha : 128 ≤ (s[pos]'h).toNat) :
    ∀ j, j < (Utf8.decode s pos).2 → pos + j < s.size ∧ 128 ≤ (s.get! (pos + j)).toNat := by
  have hn : ¬ (s[pos]'h).toNat < 128 := by omega
  have h0 : pos + 0 < s.size ∧ 128 ≤ (s.get! (pos + 0)).toNat := ⟨h, by rw [get_at s pos h]; exact ha⟩
  simp only [Utf8.decode, get_at s pos h, hn, if_false]
  repeat' split
  all_goals
    intro j hj
    simp_all
  all_goals
    have hj4 : j = 0 ∨ j = 1 ∨ j = 2 ∨ j = 3 := by omega
    rcases hj4 with rfl | rfl | rfl | rfl
    all_goals first | omega | (constructor <;> simp only [Nat.add_zero] <;> omega)

/-- The bytes that a rune of several bytes covers are none of an ASCII chars. -/
theorem noAny_covers {s C : ByteArray} {i : Nat} (hC : Ascii C) (h : i < s.size) (ha : 128 ≤ (s[i]'h).toNat) (hno : Lib.NoAny s.data.toList C.data.toList i) :
    i + (Utf8.decode s i).2 ≤ s.size ∧ Lib.NoAny s.data.toList C.data.toList (i + (Utf8.decode s i).2) := by
  have hc := decode_covers s i h ha
  have h1 := (decode_high s i h ha).2
  refine ⟨by have := (hc ((Utf8.decode s i).2 - 1) (by omega)).1; omega, ?_⟩
  intro j b hj hb
  by_cases hji : j < i
  · exact hno j b hji hb
  · obtain ⟨hk, hk2⟩ := hc (j - i) (by omega)
    rw [show i + (j - i) = j by omega] at hk hk2
    rw [Go.Lib.data_getElem? s j hk] at hb
    have hb' : s[j] = b := by simpa using hb
    have e : s.get! j = s[j] := get_at s j hk
    rw [e, hb'] at hk2
    cases hcon : C.data.toList.contains b
    · rfl
    · have hm : b ∈ C.data.toList := by simpa using hcon
      have := hC b hm
      omega

set_option maxHeartbeats 2000000 in
set_option maxRecDepth 100000 in
/-- At most eight bytes: 'for i, c := range s'. -/
theorem indexAny_short (C : ByteArray) (hC : Ascii C) (h4 : 4 ≤ C.size) (hcs : C.size < 4294967281) (s : ByteArray) (h8 : s.size ≤ 8) (w : World) :
    Calls Try.prog 21 #[.string s, .string C] w fun e w' => e = .returned (.int .i64 (Lib.indexAny s.data.toList C.data.toList)) ∧ Below w.heap.size w w' := by
  have HC : Hid _ := hC
  have hemp : C.toList.isEmpty = false := by
    rw [Lib.toList_data]
    cases h : C.data.toList with
    | nil => have := Lib.size_eq C; rw [h, List.length_nil] at this; omega
    | cons _ _ => rfl
  have hn1 : ((C.size : Int) == 1) = false := beq_eq_false_iff_ne.2 (by omega)
  have h8z : decide ((8 : Int) < (s.size : Int)) = false := decide_eq_false (by omega)
  have H8 : Hid _ := h8z
  clear hC h8z
  go_enter Try.func21, Try.ntmps21
  go_wp2_with (go_at_call 30; refine (Try.strings_shouldUseASCIISet _ _).mono ?_; rintro e w' ⟨rfl, hw⟩; rw [hw, H8.out])
  go_loopg [9, 10] s.size (fun g _ _ wx => ∃ i : Nat, i + g = s.size ∧ Hid (wx.heap[w.heap.size]? = some (.stringIter s i)) ∧ Below w.heap.size w wx ∧ Hid (Lib.NoAny s.data.toList C.data.toList i))
  case atStart => exact ⟨0, by omega, World.iter_heap w s 0, (Below.refl _ _).alloc (Nat.le_refl _) _, Lib.NoAny.zero _ _⟩
  case round =>
    obtain ⟨i, hig, HH, hb, HN⟩ := hrel
    cases gk with
    | zero =>
      obtain rfl : i = s.size := by omega
      have hnx : ∀ ty, (Instr.next (.pointer (some ⟨w.heap.size, 0, none⟩)) true ty).run Try.prog wr = .ok (.tuple #[.bool false]) wr := fun ty => Lib.run_next_end_at wr w.heap.size s s.size ty HH.out (by omega)
      go_wp2
      go_ret
      exact ⟨by rw [Lib.indexAny_none (by rw [← Lib.size_eq]; exact HN.out)]; rfl, hb⟩
    | succ g =>
      have hi : i < s.size := by omega
      by_cases ha : (s[i]'hi).toNat < 128
      · have hnx : ∀ ty, (Instr.next (.pointer (some ⟨w.heap.size, 0, none⟩)) true ty).run Try.prog wr = .ok (.tuple #[.bool true, .int .i64 i, .int .i32 (s[i]'hi).toNat]) (wr.iterAt w.heap.size s (i + 1)) := fun ty => Lib.run_next_ascii_at wr w.heap.size s i ty HH.out hi ha
        have HH2 : Hid ((wr.iterAt w.heap.size s (i + 1)).heap[w.heap.size]? = some (.stringIter s (i + 1))) := Lib.iterAt_heap wr w.heap.size s i (i + 1) HH.out
        have hb2 : Below w.heap.size w (wr.iterAt w.heap.size s (i + 1)) := Lib.below_iterAt hb (Nat.le_refl _) s (i + 1)
        obtain ⟨x, hx⟩ : ∃ x : UInt8, s[i]'hi = x := ⟨_, rfl⟩
        have Hx : Hid (s.data.toList[i]? = some x) := by rw [← hx]; exact Lib.data_getElem? s i hi
        rw [hx] at hnx ha
        clear hx
        generalize wr.iterAt w.heap.size s (i + 1) = w2 at *
        have hcon := Lib.contains_iff_indexByte C.data.toList x
        have hback : ((x.toNat : Int)).toNat.toUInt8 = x := by simp
        cases hin : C.data.toList.contains x
        · rw [hin] at hcon
          have hlt : ¬ ((0 : Int) ≤ Lib.indexByte C.data.toList x) := of_decide_eq_false hcon.symm
          clear hcon
          have Hin : Hid _ := hin
          clear hin
          go_wp2_with (go_at_call 29; refine (Try.strings_IndexRune_ascii _ _ _ (by omega) (by omega)).mono ?_; rintro e w' ⟨rfl, hw⟩; rw [hw, hback])
          go_roundg g
          case measure => omega
          case rel => exact ⟨i + 1, by omega, HH2.out, hb2, HN.out.succ Hx.out Hin.out⟩
        · rw [hin] at hcon
          have hge : (0 : Int) ≤ Lib.indexByte C.data.toList x := of_decide_eq_true hcon.symm
          clear hcon
          have Hin : Hid _ := hin
          clear hin
          go_wp2_with (go_at_call 29; refine (Try.strings_IndexRune_ascii _ _ _ (by omega) (by omega)).mono ?_; rintro e w' ⟨rfl, hw⟩; rw [hw, hback])
          go_ret
          exact ⟨by rw [Lib.indexAny_hit HN.out Hx.out Hin.out]; rfl, hb2⟩
      · obtain ⟨hle, hno⟩ := noAny_covers HC.out hi (by omega) HN.out
        obtain ⟨hr, hn⟩ := decode_high s i hi (by omega)
        have hnx : ∀ ty, (Instr.next (.pointer (some ⟨w.heap.size, 0, none⟩)) true ty).run Try.prog wr = .ok (.tuple #[.bool true, .int .i64 i, .int .i32 (Utf8.decode s i).1]) (wr.iterAt w.heap.size s (i + (Utf8.decode s i).2)) := fun ty => Lib.run_next_any_at wr w.heap.size s i ty HH.out hi
        have HH2 : Hid ((wr.iterAt w.heap.size s (i + (Utf8.decode s i).2)).heap[w.heap.size]? = some (.stringIter s (i + (Utf8.decode s i).2))) := Lib.iterAt_heap wr w.heap.size s i _ HH.out
        have hb2 : Below w.heap.size w (wr.iterAt w.heap.size s (i + (Utf8.decode s i).2)) := Lib.below_iterAt hb (Nat.le_refl _) s _
        have HNo : Hid _ := hno
        clear hno
        generalize (Utf8.decode s i).1 = r at *
        generalize (Utf8.decode s i).2 = n at *
        generalize wr.iterAt w.heap.size s (i + n) = w2 at *
        have hwlt : w.heap.size < w2.heap.size := (Array.getElem?_eq_some_iff.1 HH2.out).1
        go_wp2_with fail
        refine (indexRune_high C HC.out h4 hcs r (by omega) _).mono ?_
        rintro e w3 ⟨rfl, hb3⟩
        have HH3 : Hid (w3.heap[w.heap.size]? = some (.stringIter s (i + n))) := (hb3.block _ hwlt).trans HH2.out
        have hb4 : Below w.heap.size w w3 := hb2.trans (hb3.mono (Nat.le_of_lt hwlt))
        go_wp2
        go_roundg (s.size - (i + n))
        case measure => omega
        case rel => exact ⟨i + n, by omega, HH3.out, hb4, HNo.out⟩

theorem Try.info61 : (Try.prog.info? 61).map (fun i => (i.zero, i.size)) = some (some (.agg (Array.replicate 256 (.bool false))), 256) := by kernel_rfl

/-- strings.IndexAny at an ASCII chars of four bytes or more, and whatever s. -/
theorem indexAny_any (C : ByteArray) (hC : Ascii C) (h4 : 4 ≤ C.size) (hcs : C.size < 4294967281) (s : ByteArray) (hs : s.size < 4294967281) (w : World) :
    Calls Try.prog 21 #[.string s, .string C] w fun e w' => e = .returned (.int .i64 (Lib.indexAny s.data.toList C.data.toList)) ∧ Below w.heap.size w w' := by
  by_cases h8 : s.size ≤ 8
  · exact indexAny_short C hC h4 hcs s h8 w
  · refine (Try.strings_IndexAny_long (zero_of_info Try.info61).1 s C w (by omega) (by omega) hs hcs (fun j b hb => hC b (List.mem_of_getElem? hb))).mono fun e w' ⟨h1, h2⟩ => ⟨h1, ?_⟩
    rw [h2]
    exact ((Below.refl _ _).alloc (Nat.le_refl _) _).alloc (by simp) _
end Go.Proofs.Qxb6600908a
