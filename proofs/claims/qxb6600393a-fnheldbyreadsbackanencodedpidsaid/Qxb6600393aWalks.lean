/-
  THE WALKS of seat b6600393a: zzPidLetters (12), strings.Cut at one byte (23, 26), heldBy (19), ZZHeldBy (9), the bound on lengths (11).
-/
import Derived.Test.Qxb6600393aRows
import Derived.Test.Qxb6600393aShelf
import Derived.Test.Qxb6600393aPlain
import Derived.WalkKit
import Derived.ProofKit
import Derived.OpenShut
import Derived.WalkSmall
import Derived.WalkSpells
import Derived.HandedShaped
import Derived.Laws.BytesArg
import Derived.Laws.RangeString
import Derived.Deep.QuietTactic
import Derived.BigQuiet
import Derived.Deep.LoopGhost
namespace Go.Proofs.Qxb6600393a
open Go.ChangeShapes Go.WideShapes Go.ChangeAt Go.RowKit

theorem letters_zero (w : World) :
    Calls Try.prog 12 #[.int .i64 0] w fun e w' => e = .returned (.string ⟨#[65]⟩) ∧ w = w' := by
  go_enter Try.func12, Try.ntmps12
  go_wp2
  go_ret
  exact ⟨rfl, rfl⟩

/-- What the buffer at block B holds: 24 bytes, the last ones the letters ls. -/
structure Buf (w : World) (B : Nat) (ls : List UInt8) : Prop where
  lt : B < w.heap.size
  free : ∀ j, j < 24 → (∃ x, w.cell? ⟨B, j, none⟩ = some (.int .u8 x)) ∧ w.frozen? ⟨B, j, none⟩ = false
  held : ∀ j, j < ls.length → w.cell? ⟨B, 24 - ls.length + j, none⟩ = some (.int .u8 ((ls.getD j 0).toNat : Int))

theorem Buf.start (w : World) : Buf (w.alloc (.cells (Array.replicate 24 (.int .u8 0)) 36)) w.heap.size [] := by
  refine ⟨by simp, fun j hj => ⟨⟨0, ?_⟩, ?_⟩, fun j hj => absurd hj (Nat.not_lt_zero _)⟩
  · rw [World.cell?_alloc_at _ _ _ _ rfl]; simp [hj]
  · go_simp

theorem Buf.put {w : World} {B : Nat} {ls : List UInt8} (h : Buf w B ls) (hd : ls.length < 24) (c : UInt8) (v : Int) (hv : v = (c.toNat : Int)) :
    Buf (w.setCell ⟨B, 24 - ls.length - 1, none⟩ (.int .u8 v)) B (c :: ls) := by
  refine ⟨by have := h.lt; simpa [World.setCell] using this, fun j hj => ⟨someInt_setCell (h.free j hj).1 _ _, by rw [World.frozen?_setCell]; exact (h.free j hj).2⟩, fun j hj => ?_⟩
  have hl : (c :: ls).length = ls.length + 1 := rfl
  rw [hl] at hj ⊢
  cases j with
  | zero =>
    obtain ⟨x, hx⟩ := (h.free (24 - ls.length - 1) (by omega)).1
    rw [show 24 - (ls.length + 1) + 0 = 24 - ls.length - 1 by omega, World.cell?_setCell_same _ _ _ hx, hv]
    rfl
  | succ j =>
    have := h.held j (by omega)
    rw [show 24 - (ls.length + 1) + (j + 1) = 24 - ls.length + j by omega]
    rw [World.cell?_setCell_other _ _ _ _ (by intro e; have := congrArg Addr.off e; simp at this; omega), this]
    rfl

theorem arr36 : Try.prog.underlying 36 = some (.array (Try.prog.arrayLen 36) (Try.prog.elem 36)) := by simp [Program.arrayLen, Program.elem, Try.underlying36]
theorem len36 : Try.prog.arrayLen 36 = 24 := by simp [Program.arrayLen, Try.underlying36]
theorem elem36 : Try.prog.elem 36 = 5 := by simp [Program.elem, Try.underlying36]

/-- 'buf[i:]', the last d bytes. -/
theorem run_tail (B d : Nat) (h1 : 1 ≤ d) (h2 : d ≤ 24) (W : World) :
    (Instr.sliceAt 36 (.pointer (some ⟨B, 0, none⟩)) (some (.int .i64 (24 - (d : Int)))) none none).run Try.prog W = .ok (.slice (some ⟨B, 24 - d, none⟩) d d) W := by
  rw [run_sliceAt_array_l W 36 ⟨B, 0, none⟩ arr36 .i64 (24 - (d : Int)) (by omega) (by rw [len36]; omega), len36, elem36]
  simp only [Try.sizeOf5, Result.andThen, slicedAt]
  have e1 : (24 - (d : Int)).toNat = 24 - d := by omega
  rw [e1, if_neg (by omega), WideShapes.add_plain]
  simp only [Nat.zero_add, Nat.mul_one]
  rw [show 24 - (24 - d) = d by omega]

theorem str_letters (ls : List UInt8) : strOfNums (ls.map fun c => (c.toNat : Int)) = ⟨ls.toArray⟩ := by
  unfold strOfNums
  rw [List.map_map]
  have e : ((fun n : Int => UInt8.ofNat n.toNat) ∘ fun c : UInt8 => (c.toNat : Int)) = id := by
    funext c; simp
  rw [e, List.map_id]

set_option maxHeartbeats 1000000 in
theorem letters_pos (n : Nat) (hn0 : 0 < n) (hn : n ≤ 9223372036854775807) (w : World) :
    Calls Try.prog 12 #[.int .i64 (n : Int)] w fun e w' => (∃ ls : List UInt8, e = .returned (.string ⟨ls.toArray⟩) ∧ ls ≠ [] ∧ ls.length ≤ 19 ∧ Pl.Letters ls ∧ Pl.val ls 0 = (n : Int)) ∧ Below w.heap.size w w' := by
  have h0 : ((n : Int) == 0) = false := beq_eq_false_iff_ne.2 (by omega)
  have HB : Hid (Buf (w.alloc (.cells (Array.replicate 24 (.int .u8 0)) 36)) w.heap.size []) := Buf.start w
  go_enter Try.func12, Try.ntmps12
  go_wp2
  go_loopw [0, 4] (fun q i wr => ∃ (m : Nat) (ls : List UInt8), q = .int .i64 (m : Int) ∧ i = .int .i64 (24 - (ls.length : Int)) ∧ m ≤ n ∧ ls.length ≤ 19 ∧ Hid (Buf wr w.heap.size ls ∧ Pl.Letters ls ∧ (n : Int) = (m : Int) * 10 ^ ls.length + Pl.val ls 0) ∧ Below w.heap.size w wr) (fun q _ _ => (intOf q).toNat)
  case atStart => exact ⟨n, [], rfl, rfl, Nat.le_refl _, Nat.zero_le _, ⟨HB.out, by intro c hc; simp at hc, by simp [Pl.val]⟩, (Below.refl _ _).alloc (Nat.le_refl _) _⟩
  case round =>
    obtain ⟨m, ls, rfl, rfl, hm, hl, HI, hb⟩ := hrel
    by_cases hq : 0 < m
    · have hfew := Pl.few ls m n hq hn HI.out.2.1 HI.out.2.2
      obtain ⟨⟨x, hx⟩, hf⟩ := HI.out.1.free (24 - ls.length - 1) (by omega)
      have hq' : (0 : Int) < (m : Int) := by omega
      go_wp2
      go_roundw
      case rel =>
        have hc : (UInt8.ofNat (65 + m % 10)).toNat = 65 + m % 10 := by
          rw [UInt8.toNat_ofNat']; omega
        refine ⟨m / 10, UInt8.ofNat (65 + m % 10) :: ls, by go_num, by go_num, by omega, by simp; omega, ⟨HI.out.1.put (by omega) _ _ (by rw [hc]; omega), Pl.letters_cons HI.out.2.1 (by rw [hc]; omega), Pl.val_cons ls _ m n hc HI.out.2.2⟩, hb.setCell (Nat.le_refl _) _⟩
      case measure => simp [intOf]; omega
    · obtain rfl : m = 0 := by omega
      have hne : 1 ≤ ls.length := by
        cases ls with
        | nil => have h3 := HI.out.2.2; simp [Pl.val] at h3; omega
        | cons _ _ => simp
      have hsl := run_tail w.heap.size ls.length hne (by omega)
      have hcv := run_convert_bytes_arg (P := Try.prog) wr 37 5 Try.underlying37 Try.underlying5 w.heap.size (24 - ls.length) ls.length ls.length (ls.map fun c => (c.toNat : Int)) (by simp) (by
        intro i hi
        rw [HI.out.1.held i hi]
        simp [hi]) 9 Try.underlying9
      go_wp2
      go_ret
      refine ⟨⟨ls, ?_, ?_, hl, HI.out.2.1, ?_⟩, hb⟩
      · exact congrArg (fun b => Ending.returned (Value.string b)) (str_letters ls)
      · intro e; rw [e] at hne; simp at hne
      · have h3 := HI.out.2.2; simp at h3; exact h3.symm

/-- zzPidLetters at whatever number that is not below zero. -/
theorem letters_any (n : Nat) (hn : n ≤ 9223372036854775807) (w : World) :
    Calls Try.prog 12 #[.int .i64 (n : Int)] w fun e w' => (∃ ls : List UInt8, e = .returned (.string ⟨ls.toArray⟩) ∧ ls ≠ [] ∧ ls.length ≤ 19 ∧ Pl.Letters ls ∧ Pl.val ls 0 = (n : Int)) ∧ Below w.heap.size w w' := by
  by_cases h : n = 0
  · subst h
    refine (letters_zero w).mono ?_
    rintro e w' ⟨rfl, rfl⟩
    exact ⟨⟨[65], rfl, by simp, by simp, by intro c hc; simp at hc; subst hc; decide, rfl⟩, Below.refl _ _⟩
  · exact letters_pos n (by omega) hn w

theorem zz (n : Int) (s : ByteArray) (w : World) (hs : s.size ≤ 1048576) :
    Calls Try.prog 11 #[.int .i64 n, .string s] w fun e w' => e = .returned (.bool true) ∧ w = w' := by
  have h1 : ¬ ((1048576 : Int) < (s.size : Int)) := by omega
  go_enter Try.func11, Try.ntmps11
  go_wp2
  go_ret
  exact ⟨rfl, rfl⟩

theorem zz_no (n : Int) (s : ByteArray) (w : World) (hs : 1048576 < s.size) :
    Calls Try.prog 11 #[.int .i64 n, .string s] w fun e w' => e = .returned (.bool false) ∧ w = w' := by
  have h1 : ((1048576 : Int) < (s.size : Int)) := by omega
  go_enter Try.func11, Try.ntmps11
  go_wp2
  go_ret
  exact ⟨rfl, rfl⟩

/-- strings.CutPrefix at a string that begins so. -/
theorem cutPrefix (N P R : ByteArray) (hN : N.data.toList = P.data.toList ++ R.data.toList) (w : World) :
    Calls Try.prog 21 #[.string N, .string P] w fun e w' => e = .returned (.tuple #[.string R, .bool true]) ∧ w = w' := by
  refine (Try.strings_CutPrefix N P w).mono ?_
  rintro e w' ⟨rfl, rfl⟩
  have := Pl.trim_pre P.data.toList R.data.toList
  rw [← hN] at this
  rw [this.1, this.2, Go.Lib.mk_data]
  exact ⟨rfl, rfl⟩

/-- strings.CutSuffix at a string that ends so. -/
theorem cutSuffix (N P R : ByteArray) (hN : N.data.toList = R.data.toList ++ P.data.toList) (hs : N.size ≤ 9223372036854775807) (w : World) :
    Calls Try.prog 22 #[.string N, .string P] w fun e w' => e = .returned (.tuple #[.string R, .bool true]) ∧ w = w' := by
  refine (Try.strings_CutSuffix N P w hs).mono ?_
  rintro e w' ⟨rfl, rfl⟩
  have := Pl.trim_suf R.data.toList P.data.toList
  rw [← hN] at this
  rw [this.1, this.2, Go.Lib.mk_data]
  exact ⟨rfl, rfl⟩

set_option maxHeartbeats 1000000 in
/-- internal stringslite.Cut at an underscore that stands behind letters. -/
theorem cut26 (N L : ByteArray) (t : List UInt8) (hN : N.data.toList = L.data.toList ++ 95 :: t) (hl : Pl.Letters L.data.toList) (hs : N.size ≤ 9223372036854775807) (w : World) :
    Calls Try.prog 26 #[.string N, .string ⟨#[95]⟩] w fun e w' => (∃ y, e = .returned (.tuple #[.string L, .string y, .bool true])) ∧ ∃ n, w' = w.drewN n := by
  have hi : Go.Lib.indexByte N.data.toList 95 = (L.size : Int) := by rw [hN, Go.Lib.size_eq]; exact Pl.index_letters L.data.toList t hl
  have hsz : N.size = L.size + 1 + t.length := by rw [Go.Lib.size_eq, hN, Go.Lib.size_eq]; simp; omega
  have hle : L.size + 1 ≤ N.size := by omega
  have i1 : (0 : Int) ≤ (L.size : Int) := by omega
  have i2 : (L.size : Int) ≤ (N.size : Int) := by omega
  have i3 : (L.size : Int) + 1 ≤ (N.size : Int) := by omega
  have HE : Hid (N.extract 0 L.size = L) := by
    show _ = _
    rw [Go.Lib.extract_eq, hN, Go.Lib.size_eq L, List.drop_zero, Nat.sub_zero, List.take_append_of_le_length (Nat.le_refl _), List.take_length, Go.Lib.mk_data]
  have HN : Hid _ := hN
  have Hl : Hid _ := hl
  clear hN hsz hl
  go_enter Try.func26, Try.ntmps26
  go_wp2_with (go_at_call 29; refine (Try.stringslite_Index_one _ _ _).mono ?_; rintro e w' ⟨rfl, rfl⟩)
  go_quiet (fail)
  go_wp2
  rw [HE.out]
  go_ret3
  exact ⟨⟨_, rfl⟩, nq, rfl⟩

theorem cut23 (N L : ByteArray) (t : List UInt8) (hN : N.data.toList = L.data.toList ++ 95 :: t) (hl : Pl.Letters L.data.toList) (hs : N.size ≤ 9223372036854775807) (w : World) :
    Calls Try.prog 23 #[.string N, .string ⟨#[95]⟩] w fun e w' => (∃ y, e = .returned (.tuple #[.string L, .string y, .bool true])) ∧ ∃ n, w' = w.drewN n := by
  have HN : Hid _ := hN
  have Hl : Hid _ := hl
  clear hN hl
  go_enter Try.func23, Try.ntmps23
  go_wp2_with fail
  refine (cut26 N L t HN.out Hl.out hs _).mono ?_
  rintro e w2 ⟨⟨y, rfl⟩, n, rfl⟩
  go_wp2
  go_ret3
  exact ⟨⟨_, rfl⟩, n, rfl⟩

set_option maxHeartbeats 1000000 in
/-- heldBy at a name that was written so: R1 is the name behind the prefix, R2 that without the suffix, L the letters. -/
theorem heldBy (N R1 R2 L : ByteArray) (t : List UInt8) (hN : N.data.toList = [80, 65, 67, 75, 70, 69, 82, 82, 89, 95] ++ R1.data.toList) (h1 : R1.data.toList = R2.data.toList ++ [95, 72, 69, 65, 68]) (h2 : R2.data.toList = L.data.toList ++ 95 :: t)
    (hl : Pl.Letters L.data.toList) (hne : L.data.toList ≠ []) (hv : Pl.val L.data.toList 0 ≤ 9223372036854775807) (hs : N.size ≤ 2097152) (w : World) :
    Calls Try.prog 19 #[.string N] w fun e w' => e = .returned (.tuple #[.int .i64 (Pl.val L.data.toList 0), .bool true]) ∧ Below w.heap.size w w' := by
  have hs1 : R1.size + 10 = N.size := by rw [Go.Lib.size_eq, Go.Lib.size_eq, hN]; simp
  have hs2 : R2.size + 5 = R1.size := by rw [Go.Lib.size_eq, Go.Lib.size_eq, h1]; simp
  have HN : Hid _ := hN
  have H1 : Hid _ := h1
  have H2 : Hid _ := h2
  have hemp : L.toList.isEmpty = false := by
    rw [Go.Lib.toList_data]
    cases hx : L.data.toList with
    | nil => exact absurd hx hne
    | cons _ _ => rfl
  have b1 : R1.size ≤ 9223372036854775807 := by omega
  have b2 : R2.size ≤ 9223372036854775807 := by omega
  have hLs : L.size ≤ 2097152 := by
    have := congrArg List.length h2
    rw [List.length_append, ← Go.Lib.size_eq, ← Go.Lib.size_eq] at this
    omega
  have Hl : Hid _ := hl
  clear hN h1 h2 hs1 hs2 hne hl
  go_enter Try.func19, Try.ntmps19
  go_wp2_with fail
  refine (cutPrefix N ⟨#[80, 65, 67, 75, 70, 69, 82, 82, 89, 95]⟩ R1 HN.out _).mono ?_
  rintro e w2 ⟨rfl, rfl⟩
  go_wp2_with fail
  refine (cutSuffix R1 ⟨#[95, 72, 69, 65, 68]⟩ R2 H1.out b1 _).mono ?_
  rintro e w2 ⟨rfl, rfl⟩
  go_wp2_with fail
  refine (cut23 R2 L t H2.out Hl.out b2 _).mono ?_
  rintro e w2 ⟨⟨y, rfl⟩, n, rfl⟩
  go_wp2
  go_loopg [10] L.size (fun g p wx => ∃ i : Nat, i + g = L.size ∧ wx = (w.drewN n).iter L i ∧ p = .int .i64 (Pl.val (L.data.toList.take i) 0))
  case atStart => exact ⟨0, by omega, rfl, rfl⟩
  case round =>
    obtain ⟨i, hig, rfl, rfl⟩ := hrel
    cases gk with
    | zero =>
      obtain rfl : i = L.size := by omega
      have hnx : ∀ ty, (Instr.next (.pointer (some ⟨w.heap.size, 0, none⟩)) true ty).run Try.prog ((w.drewN n).iter L L.size) = .ok (.tuple #[.bool false]) ((w.drewN n).iter L L.size) := fun ty => run_next_end (w.drewN n) L L.size ty (by omega)
      have HT : Hid (L.data.toList.take L.size = L.data.toList) := by
        show _ = _
        rw [Go.Lib.size_eq, List.take_length]
      go_wp2
      rw [HT.out]
      go_ret2
      exact ⟨rfl, (below_drewN (Below.refl _ _) _).alloc (Nat.le_refl _) _⟩
    | succ g =>
      have hi : i < L.size := by omega
      have hmem : L[i] ∈ L.data.toList := by
        have := Go.Lib.data_getElem? L i hi
        exact List.mem_of_getElem? this
      obtain ⟨ha, hb⟩ := Hl.out _ hmem
      have hnx : ∀ ty, (Instr.next (.pointer (some ⟨w.heap.size, 0, none⟩)) true ty).run Try.prog ((w.drewN n).iter L i) = .ok (.tuple #[.bool true, .int .i64 i, .int .i32 L[i].toNat]) ((w.drewN n).iter L (i + 1)) := fun ty => run_next_ascii (w.drewN n) L i ty hi (by omega)
      have hsn : Pl.val (L.data.toList.take (i + 1)) 0 = 10 * Pl.val (L.data.toList.take i) 0 + ((L[i].toNat : Int) - 65) := by
        rw [List.take_add_one, Go.Lib.data_getElem? L i hi]
        exact Pl.val_snoc _ _ 0
      have hb0 := (Pl.val_take L.data.toList Hl.out i).1
      have hb1 := (Pl.val_take L.data.toList Hl.out (i + 1)).2
      rw [hsn] at hb1
      have Hsn : Hid _ := hsn
      clear hmem hsn
      generalize L[i].toNat = c at *
      go_wp2
      go_roundg g
      case measure => omega
      case rel => exact ⟨i + 1, by omega, rfl, by rw [Hsn.out]⟩

end Go.Proofs.Qxb6600393a
