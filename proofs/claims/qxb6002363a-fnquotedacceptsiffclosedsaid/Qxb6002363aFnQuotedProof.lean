/-
  'Rows.FnQuotedAcceptsIffClosedSaid', PROVED. The plain layer; the walks of 'Quoted' (function 6) and of the law (4); the row's step by the guide's template.
-/
import Derived.Test.Qxb6002363aRows
import Derived.Test.Qxb6002363aShelf
import Derived.Lib.IndexLaws
import Derived.Lib.IndexBytes
import Derived.Lib.Strings
import Derived.WalkKit
import Derived.ProofKit
import Derived.OpenShut
import Derived.ShutString
import Derived.WalkSmall
import Derived.WalkSpells
import Derived.Deep.QuietTactic
import Derived.BigQuiet
namespace Go.Proofs.Qxb6002363a.fnQuotedAcceptsIffClosed
open Go.ChangeShapes Go.WideShapes Go.ChangeAt Go.RowKit
open Go.ChangeMaps (open_string shut_string)

theorem own : ownKnob Try.prog.godebug = none := by kernel_rfl

/-! ### THE PLAIN LAYER -/
/-- The first quote from m on, or -1. -/
def cl (l : List UInt8) (m : Nat) : Int := if Go.Lib.indexByte (l.drop m) 34 = -1 then -1 else (m : Int) + Go.Lib.indexByte (l.drop m) 34

theorem cl_end (l : List UInt8) : cl l l.length = -1 := by simp [cl, Go.Lib.indexByte]
theorem ib_cons (b : UInt8) (l : List UInt8) (c : UInt8) : Go.Lib.indexByte (b :: l) c = if b == c then 0 else if Go.Lib.indexByte l c == -1 then -1 else Go.Lib.indexByte l c + 1 := rfl
theorem cl_step (l : List UInt8) (k : Nat) (h : k < l.length) : cl l k = if l[k] = 34 then (k : Int) else cl l (k + 1) := by
  have hge := Go.Lib.indexByte_ge (l.drop (k + 1)) 34
  unfold cl
  rw [List.drop_eq_getElem_cons h, ib_cons]
  generalize Go.Lib.indexByte (l.drop (k + 1)) 34 = r at *
  by_cases hq : l[k] = 34
  · simp [hq]
  · have hq' : (l[k] == 34) = false := by simpa using hq
    rw [hq', if_neg hq]
    by_cases hm : r = -1
    · simp [hm]
    · have hm' : (r == -1) = false := by simpa using hm
      rw [hm', if_neg hm]
      simp only [Bool.false_eq_true, if_false]
      rw [if_neg (by omega)]
      omega

/-- A slice of a slice. -/
theorem ext_ext (s : ByteArray) (a n : Nat) : (s.extract a s.size).extract 0 n = s.extract a (a + n) := by
  rw [Go.Lib.extract_eq, Go.Lib.extract_to_end, Go.Lib.extract_eq]
  simp

theorem byte_iff (s : ByteArray) (k : Nat) (h : k < s.size) : s.data.toList[k]'(by rw [← Go.Lib.size_eq]; exact h) = s[k] := rfl
theorem cl_yes (s : ByteArray) (k : Nat) (h : k < s.size) (hq : ((s[k].toNat : Int) == 34) = true) : cl s.data.toList k = (k : Int) := by
  rw [cl_step _ _ (by rw [← Go.Lib.size_eq]; exact h), byte_iff s k h, if_pos]
  have : s[k].toNat = 34 := by have := beq_iff_eq.1 hq; omega
  exact UInt8.toNat_inj.1 this
theorem cl_no (s : ByteArray) (k : Nat) (h : k < s.size) (hq : ((s[k].toNat : Int) == 34) = false) : cl s.data.toList k = cl s.data.toList (k + 1) := by
  rw [cl_step _ _ (by rw [← Go.Lib.size_eq]; exact h), byte_iff s k h, if_neg]
  intro e
  rw [e] at hq
  simp at hq

/-! ### THE WALKS -/
theorem zz (s : ByteArray) (L : Int) (w : World) (hs : s.size ≤ 1048576) :
    Calls Try.prog 7 #[.string s, .int .i64 L] w fun e w' => e = .returned (.bool true) ∧ w = w' := by
  have h1 : ¬ ((1048576 : Int) < (s.size : Int)) := by omega
  go_enter Try.func7, Try.ntmps7
  go_wp2
  go_ret
  exact ⟨rfl, rfl⟩

theorem zz_no (s : ByteArray) (L : Int) (w : World) (hs : 1048576 < s.size) :
    Calls Try.prog 7 #[.string s, .int .i64 L] w fun e w' => e = .returned (.bool false) ∧ w = w' := by
  have h1 : ((1048576 : Int) < (s.size : Int)) := by omega
  go_enter Try.func7, Try.ntmps7
  go_wp2
  go_ret
  exact ⟨rfl, rfl⟩

theorem new_any (s : ByteArray) (w : World) :
    Calls Try.prog 9 #[.string s] w fun e w' => e = .returned (.iface 33 (.pointer (some ⟨w.heap.size, 0, none⟩))) ∧ w' = w.alloc (.cells #[.string s] 35) := by
  go_enter Try.func9, Try.ntmps9
  go_wp2
  go_ret
  exact ⟨rfl, rfl⟩

set_option maxHeartbeats 1000000 in
theorem quoted_none (b p : Nat) (s : ByteArray) (w : World) (c0 : w.cell? ⟨b, 0, none⟩ = some (.string s)) (c1 : w.cell? ⟨b, 1, none⟩ = some (.int .i64 (p : Int))) (hs : s.size ≤ 1048576) (hp : p < s.size)
    (hn : Go.Lib.indexByte (s.data.toList.drop (p + 1)) 34 = -1) :
    Calls Try.prog 6 #[.pointer (some ⟨b, 0, none⟩)] w fun e w' => (∃ x, e = .returned (.tuple #[.string ⟨#[]⟩, .iface 33 x])) ∧ Below w.heap.size w w' := by
  have hi1 : (0 : Int) ≤ (p : Int) + 1 := by omega
  have hi2 : (p : Int) + 1 ≤ (s.size : Int) := by omega
  have hn' : Go.Lib.indexByte (s.extract (p + 1) s.size).data.toList 34 = -1 := by rw [Go.Lib.extract_to_end]; exact hn
  rw [Go.Lib.extract_data] at hn'
  clear hn
  go_enter Try.func6, Try.ntmps6
  go_wp2
  go_quiet (fail)
  go_wp2_with (go_at_call 8; refine (Try.strings_IndexByte _ _ _).mono ?_; rintro e w' ⟨rfl, rfl⟩)
  refine (new_any _ _).mono ?_
  rintro e w2 ⟨rfl, rfl⟩
  go_wp2
  go_ret2
  exact ⟨⟨_, rfl⟩, (below_drewN (Below.refl _ _) _).alloc (Nat.le_refl _) _⟩

set_option maxHeartbeats 1000000 in
theorem quoted_some (b p n : Nat) (s : ByteArray) (w : World) (c0 : w.cell? ⟨b, 0, none⟩ = some (.string s)) (c1 : w.cell? ⟨b, 1, none⟩ = some (.int .i64 (p : Int))) (f1 : w.frozen? ⟨b, 1, none⟩ = false) (hs : s.size ≤ 1048576) (hp : p < s.size)
    (hn : Go.Lib.indexByte (s.data.toList.drop (p + 1)) 34 = (n : Int)) (hnl : p + 1 + n < s.size) :
    Calls Try.prog 6 #[.pointer (some ⟨b, 0, none⟩)] w fun e w' => e = .returned (.tuple #[.string (s.extract (p + 1) (p + 1 + n)), .nilIface]) ∧ ∃ nq, w' = (w.drewN nq).setCell ⟨b, 1, none⟩ (.int .i64 ((p : Int) + n + 2)) := by
  have hi1 : (0 : Int) ≤ (p : Int) + 1 := by omega
  have hi2 : (p : Int) + 1 ≤ (s.size : Int) := by omega
  have hn' : Go.Lib.indexByte (s.extract (p + 1) s.size).data.toList 34 = (n : Int) := by rw [Go.Lib.extract_to_end]; exact hn
  rw [Go.Lib.extract_data] at hn'
  clear hn
  go_enter Try.func6, Try.ntmps6
  go_wp2
  go_quiet (fail)
  go_wp2_with (go_at_call 8; refine (Try.strings_IndexByte _ _ _).mono ?_; rintro e w' ⟨rfl, rfl⟩)
  rw [ext_ext s (p + 1) n]
  go_ret2
  exact ⟨rfl, nq, by rw [Int.add_assoc]⟩

theorem walk_long (a0 : ByteArray) (a1 : Int) (h : 1048576 < a0.size) (w : World) :
    Calls Try.prog 4 #[.string a0, .int .i64 a1] w fun e w' => e = .returned (.bool true) ∧ Below w.heap.size w w' := by
  go_enter Try.func4, Try.ntmps4
  go_wp2_with (go_at_call 7; refine (zz_no _ _ _ h).mono ?_; rintro e w' ⟨rfl, rfl⟩)
  go_ret
  exact ⟨rfl, Below.refl _ _⟩

theorem walk_out (a0 : ByteArray) (a1 : Int) (h : a0.size ≤ 1048576) (h1 : a1 < 0 ∨ (a0.size : Int) ≤ a1) (w : World) :
    Calls Try.prog 4 #[.string a0, .int .i64 a1] w fun e w' => e = .returned (.bool true) ∧ Below w.heap.size w w' := by
  have g0 : ¬ ((1048576 : Int) < (a0.size : Int)) := by omega
  by_cases g1 : a1 < 0
  · go_enter Try.func4, Try.ntmps4
    go_wp2_with (go_at_call 7; refine (zz _ _ _ h).mono ?_; rintro e w' ⟨rfl, rfl⟩)
    go_ret
    exact ⟨rfl, Below.refl _ _⟩
  · have g2 : (a0.size : Int) ≤ a1 := by omega
    go_enter Try.func4, Try.ntmps4
    go_wp2_with (go_at_call 7; refine (zz _ _ _ h).mono ?_; rintro e w' ⟨rfl, rfl⟩)
    go_ret
    exact ⟨rfl, Below.refl _ _⟩

theorem walk_other (a0 : ByteArray) (p : Nat) (h : a0.size ≤ 1048576) (hp : p < a0.size) (hq : ((a0[p].toNat : Int) != 34) = true) (w : World) :
    Calls Try.prog 4 #[.string a0, .int .i64 (p : Int)] w fun e w' => e = .returned (.bool true) ∧ Below w.heap.size w w' := by
  have g0 : ¬ ((1048576 : Int) < (a0.size : Int)) := by omega
  have g1 : ¬ ((p : Int) < 0) := by omega
  have g2 : ¬ ((a0.size : Int) ≤ (p : Int)) := by omega
  go_enter Try.func4, Try.ntmps4
  go_wp2_with (go_at_call 7; refine (zz _ _ _ h).mono ?_; rintro e w' ⟨rfl, rfl⟩)
  go_ret
  exact ⟨rfl, Below.refl _ _⟩

set_option maxHeartbeats 1000000 in
theorem walk_main (a0 : ByteArray) (p : Nat) (h : a0.size ≤ 1048576) (hp : p < a0.size) (hq : ((a0[p].toNat : Int) != 34) = false) (w : World) :
    Calls Try.prog 4 #[.string a0, .int .i64 (p : Int)] w fun e w' => e = .returned (.bool true) ∧ Below w.heap.size w w' := by
  have g0 : ¬ ((1048576 : Int) < (a0.size : Int)) := by omega
  have g1 : ¬ ((p : Int) < 0) := by omega
  have g2 : ¬ ((a0.size : Int) ≤ (p : Int)) := by omega
  go_enter Try.func4, Try.ntmps4
  go_wp2_with (go_at_call 7; refine (zz _ _ _ h).mono ?_; rintro e w' ⟨rfl, rfl⟩)

  go_loop [5, 6] (fun c i => ∃ k : Nat, p ≤ k ∧ k < a0.size ∧ i = .int .i64 (k : Int) ∧ c = .int .i64 (cl a0.data.toList (k + 1))) (fun _ i => (intOf i).toNat)
  case atStart => exact ⟨a0.size - 1, by omega, by omega, by go_num, by rw [show a0.size - 1 + 1 = a0.data.toList.length by rw [← Go.Lib.size_eq]; omega, cl_end]⟩
  case round =>
    obtain ⟨k, hk1, hk2, rfl, rfl⟩ := hrel
    by_cases hlt : p < k
    · cases hb : ((a0[k].toNat : Int) == 34)
      · have Hn : Hid _ := cl_no a0 k hk2 hb
        go_wp2
        go_round
        case rel => exact ⟨k - 1, by omega, by omega, by go_num, by rw [show k - 1 + 1 = k by omega, Hn.out]⟩
        case measure => simp [intOf]; omega
      · have Hn : Hid _ := cl_yes a0 k hk2 hb
        go_wp2
        go_round
        case rel => exact ⟨k - 1, by omega, by omega, by go_num, by rw [show k - 1 + 1 = k by omega, Hn.out]⟩
        case measure => simp [intOf]; omega
    · obtain rfl : k = p := by omega
      have hge := Go.Lib.indexByte_ge (a0.data.toList.drop (k + 1)) 34
      have hd : cl a0.data.toList (k + 1) = if Go.Lib.indexByte (a0.data.toList.drop (k + 1)) 34 = -1 then -1 else ((k + 1 : Nat) : Int) + Go.Lib.indexByte (a0.data.toList.drop (k + 1)) 34 := rfl
      by_cases hm : Go.Lib.indexByte (a0.data.toList.drop (k + 1)) 34 = -1
      · rw [if_pos hm] at hd
        rw [hd]
        have Hm : Hid _ := hm
        clear hd hm hge
        have k0 : (w.alloc (.cells #[.string a0, .int .i64 (k : Int)] 24)).cell? ⟨w.heap.size, 0, none⟩ = some (.string a0) := by go_simp
        have k1 : (w.alloc (.cells #[.string a0, .int .i64 (k : Int)] 24)).cell? ⟨w.heap.size, 1, none⟩ = some (.int .i64 (k : Int)) := by go_simp
        have K0 : Hid _ := k0
        have K1 : Hid _ := k1
        clear k0 k1
        go_wp2_with fail
        refine (quoted_none w.heap.size k a0 _ K0.out K1.out h hp Hm.out).mono ?_
        rintro e w3 ⟨⟨x, rfl⟩, hb⟩
        have hc1 : w3.cell? ⟨w.heap.size, 1, none⟩ = some (.int .i64 (k : Int)) := (hb.cell (p := ⟨w.heap.size, 1, none⟩) (by simp)).trans K1.out
        go_wp2
        go_ret
        exact ⟨rfl, ((Below.refl _ _).alloc (Nat.le_refl _) _).trans (hb.mono (by simp))⟩
      · rw [if_neg hm] at hd
        obtain ⟨n, hn⟩ := Int.eq_ofNat_of_zero_le (show 0 ≤ Go.Lib.indexByte (a0.data.toList.drop (k + 1)) 34 by omega)
        rw [hn] at hd
        rw [hd]
        have Hn : Hid _ := hn
        clear hd hm hge hn
        have k0 : (w.alloc (.cells #[.string a0, .int .i64 (k : Int)] 24)).cell? ⟨w.heap.size, 0, none⟩ = some (.string a0) := by go_simp
        have k1 : (w.alloc (.cells #[.string a0, .int .i64 (k : Int)] 24)).cell? ⟨w.heap.size, 1, none⟩ = some (.int .i64 (k : Int)) := by go_simp
        have k2 : (w.alloc (.cells #[.string a0, .int .i64 (k : Int)] 24)).frozen? ⟨w.heap.size, 1, none⟩ = false := by go_simp
        have K0 : Hid _ := k0
        have K1 : Hid _ := k1
        have K2 : Hid _ := k2
        clear k0 k1 k2
        have hnl : k + 1 + n < a0.size := by
          have hx := (Go.Lib.indexByte_some Hn.out).1
          rw [List.getElem?_drop] at hx
          rcases Nat.lt_or_ge (k + 1 + n) a0.data.toList.length with hl | hl
          · rw [Go.Lib.size_eq]; exact hl
          · rw [List.getElem?_eq_none hl] at hx; cases hx
        go_wp2_with fail
        refine (quoted_some w.heap.size k n a0 _ K0.out K1.out K2.out h hp Hn.out hnl).mono ?_
        rintro e w3 ⟨rfl, nq, rfl⟩
        go_wp2
        have he : ((k : Int) + (n : Int) + 2 == (k : Int) + 1 + (n : Int) + 1) = true := beq_iff_eq.2 (by omega)
        rw [he]
        go_ret
        exact ⟨rfl, (below_drewN ((Below.refl _ _).alloc (Nat.le_refl _) _) _).setCell (Nat.le_refl _) _⟩

theorem walk (a0 : ByteArray) (a1 : Int) (w : World) :
    Calls Try.prog 4 #[.string a0, .int .i64 a1] w fun e w' => e = .returned (.bool true) ∧ Below w.heap.size w w' := by
  by_cases h : a0.size ≤ 1048576
  · by_cases h1 : a1 < 0 ∨ (a0.size : Int) ≤ a1
    · exact walk_out a0 a1 h h1 w
    · obtain ⟨p, rfl⟩ := Int.eq_ofNat_of_zero_le (show 0 ≤ a1 by omega)
      have hp : p < a0.size := by omega
      cases hq : ((a0[p].toNat : Int) != 34)
      · exact walk_main a0 p h hp hq w
      · exact walk_other a0 p h hp hq w
  · exact walk_long a0 a1 (by omega) w

/-! ### THE ROW's STEP -/
set_option maxRecDepth 100000 in
theorem lifted (os : Os) (started : os.Started) (H : Type) (enc : TypeId × Value → H) :
    ReturnsInHanded {} Try.checked os 4 .any (Rows.fnQuotedAcceptsIffClosedSpec.pre6 enc Try.prog Try.f4 Rows.fnQuotedAcceptsIffClosedRow.domain false) (Rows.fnQuotedAcceptsIffClosedSpec.post enc Try.prog Try.f4 false true false false) := by
  refine returnsInHanded_of_change (C := Try.checked) own started (by kernel_rfl) Try.func4
    (ChangeSpec.witness6 (enc := enc) (C := Try.checked) false ⟨#[], #[.string ByteArray.empty, .int .i64 0], []⟩ 8 (by kernel_rfl) (by kernel_rfl) (by kernel_rfl) (by kernel_rfl)) ?_
  intro W base args ds gs before hval0 hW hcnd _
  have hval : ∀ (j : Nat) t v, Try.f4.params[j]? = some t → args[j]? = some v → Value.okWide Try.prog W .any base t v := hval0
  have hW' := hW
  obtain ⟨p, q, hA0, hV, rfl, hfz, hnd⟩ := hW
  have hA : DataW.TrodAll enc Try.prog W 0 (fun _ => true) true Try.f4.params.toList args.toList ds p := hA0
  rw [Try.params4] at hA hval
  obtain ⟨v0, vs0, d0, ds0, p0, q0, hargs, rfl, rfl, h0, r0⟩ := trodAll_cons hA
  obtain ⟨v1, vs1, d1, ds1, p1, q1, rfl, rfl, rfl, h1, r1⟩ := trodAll_cons r0
  obtain ⟨rfl, rfl, rfl⟩ := trodAll_nil r1
  obtain rfl : args = #[v0, v1] := by cases args; simp_all
  obtain ⟨rfl, rfl⟩ := trodVars_none hV
  obtain ⟨a0, rfl, rfl, rfl, w0⟩ := open_string Try.underlying9 (hval 0 9 v0 rfl rfl) h0
  obtain ⟨a1, rfl, rfl, rfl, w1⟩ := open_int Try.underlying3 (hval 1 3 v1 rfl rfl) h1
  clear hA0 hval0
  simp only [List.append_nil] at hW'
  refine (walk a0 a1 W).mono fun e W' ⟨he, bel⟩ => ?_
  subst he
  exact ⟨_, rfl, _, _, _, [], _, [], hW', trodAll_mk1 (shut_bool Try.underlying4 _), (trodAll_cons_mk (shut_string Try.underlying9 w0) (trodAll_cons_mk (shut_int Try.underlying3 w1) trodAll_mk0)), rfl, bel.frame _, fun h => by cases h⟩

theorem over : Rows.fnQuotedAcceptsIffClosedRow.holds Try.pinned (OpenSpec.ofChange Rows.fnQuotedAcceptsIffClosedSpec) :=
  OpenClaim.holds_of_wide 4 Try.f4 rfl rfl rfl rfl rfl rfl rfl ⟨rfl, rfl, rfl, rfl, rfl⟩ rfl rfl rfl rfl rfl (by kernel_rfl) Try.func4 (by kernel_rfl)
    (of_decide_eq_true (by kernel_rfl)) (by unfold Func.isWrapper; first | (rw [if_pos (by decide +kernel)]; kernel_rfl) | (rw [if_neg (by decide +kernel)]; exact ⟨rfl, rfl⟩))
    (fun os started H enc _ => lifted os started H enc)

/-- THE STATEMENT -/
theorem proved : Rows.FnQuotedAcceptsIffClosedSaid :=
  over
end Go.Proofs.Qxb6002363a.fnQuotedAcceptsIffClosed
