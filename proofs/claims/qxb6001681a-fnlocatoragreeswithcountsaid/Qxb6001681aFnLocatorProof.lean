/-
  'Rows.FnLocatorAgreesWithCountSaid', PROVED. The walk over the callees' contracts; the row's step by the guide's template.
-/
import Derived.Test.Qxb6001681aRows
import Derived.Test.Qxb6001681aPlace
import Derived.Test.Qxb6001681aShelf
import Derived.Test.Qxb6001681aLocate
import Derived.Test.Qxb6001681aLineStart
import Derived.Test.Qxb6001681aClone
import Derived.WalkKit
import Derived.ProofKit
import Derived.OpenShut
import Derived.ShutString
namespace Go.Proofs.Qxb6001681a.fnLocatorAgreesWithCount
open Go.ChangeShapes Go.WideShapes Go.ChangeAt Go.RowKit
open Go.ChangeMaps (open_string shut_string)

theorem own : ownKnob Try.prog.godebug = none := by kernel_rfl
theorem laidOut : laidOutB Try.prog = true := by kernel_rfl

/-- A slice of integers that came in: nil; or a row of 'cap' cells, the numbers 'zs'. -/
def IsRow (k : IntKind) (w : World) (a : Option Addr) (len cap : Nat) (zs : List Int) : Prop :=
  (a = none ∧ len = 0 ∧ cap = 0 ∧ zs = []) ∨
  ∃ x, a = some x ∧ len ≤ cap ∧ cap ≤ maxLen ∧ zs.length = cap ∧ (∀ i, i < zs.length → w.cell? (x.add i) = some (.int k (zs.getD i 0))) ∧ ∀ n ∈ zs, (Lit.int k n).wf = true

/-- A fresh Locator stands at 0. -/
theorem fresh_loc (s : ByteArray) (w : World) : Loc (w.alloc (.cells #[.string s, .int .i64 0, .int .i64 1, .int .i64 1] 53)) w.heap.size s 0 := by
  constructor
  case c2 => show _ = some (Value.int .i64 1); go_simp
  case c3 => show _ = some (Value.int .i64 1); go_simp
  all_goals go_simp

/-- A Locator that is given a longer text stands where it stood. -/
theorem loc_grow {w : World} {b o : Nat} {s t : ByteArray} {m : List UInt8} (hL : Loc w b s o) (ho : o ≤ s.size) (ht : t.data.toList = s.data.toList ++ m) :
    Loc (w.setCell ⟨b, 0, none⟩ (.string t)) b t o := by
  have e1 := Pl.line_cat s.data.toList m o (by rw [← Lib.size_eq]; exact ho)
  have e2 := Pl.st_cat s.data.toList m o (by rw [← Lib.size_eq]; exact ho)
  rw [← ht] at e1 e2
  obtain ⟨lt, c0, c1, c2, c3, f0, f1, f2, f3⟩ := hL
  constructor
  case c2 => rw [e1]; clear e1 e2; go_simp
  case c3 => rw [e2]; clear e1 e2; go_simp
  all_goals (clear e1 e2; go_simp)

/-- A new block leaves a Locator as it was. -/
theorem loc_alloc {w : World} {b o : Nat} {s : ByteArray} (hL : Loc w b s o) (x : Obj) : Loc (w.alloc x) b s o := by
  have hb : Below (b + 1) w (w.alloc x) := (Below.refl _ _).alloc hL.lt x
  refine ⟨Nat.lt_of_lt_of_le hL.lt hb.size, ?_, ?_, ?_, ?_, ?_, ?_, ?_, ?_⟩
  · rw [hb.cell (p := ⟨b, 0, none⟩) (Nat.lt_succ_self b)]; exact hL.c0
  · rw [hb.cell (p := ⟨b, 1, none⟩) (Nat.lt_succ_self b)]; exact hL.c1
  · rw [hb.cell (p := ⟨b, 2, none⟩) (Nat.lt_succ_self b)]; exact hL.c2
  · rw [hb.cell (p := ⟨b, 3, none⟩) (Nat.lt_succ_self b)]; exact hL.c3
  · rw [hb.frozen (p := ⟨b, 0, none⟩) (Nat.lt_succ_self b)]; exact hL.f0
  · rw [hb.frozen (p := ⟨b, 1, none⟩) (Nat.lt_succ_self b)]; exact hL.f1
  · rw [hb.frozen (p := ⟨b, 2, none⟩) (Nat.lt_succ_self b)]; exact hL.f2
  · rw [hb.frozen (p := ⟨b, 3, none⟩) (Nat.lt_succ_self b)]; exact hL.f3

/-- cloneInts at whatever slice came in. -/
theorem clone_any (w : World) (a : Option Addr) (len cap : Nat) (zs : List Int) (hlen : len ≤ 1048576) (hr : IsRow .i64 w a len cap zs) :
    Calls Try.prog 8 #[.slice a len cap] w fun e w' => ∃ v c, e = .returned (.slice v len c) ∧ Below w.heap.size w w' ∧ (len ≠ 0 → v = some ⟨w.heap.size, 0, none⟩ ∧ IntRow w' w.heap.size len) := by
  rcases hr with ⟨rfl, rfl, rfl, _⟩ | ⟨x, rfl, hlc, _, hz, hc, _⟩
  · refine (clone_nil w).mono ?_
    rintro e w' ⟨rfl, rfl⟩
    exact ⟨none, 0, rfl, Below.refl _ _, fun h => absurd rfl h⟩
  · refine (clone_some w x len cap zs hlen (by omega) hc).mono ?_
    rintro e w' ⟨rfl, hb, hI⟩
    exact ⟨_, _, rfl, hb, fun _ => ⟨rfl, hI⟩⟩

theorem walk_long (a0 a1 : ByteArray) (a2 : Option Addr) (len2 cap2 : Nat) (a3 : Int) (w : World) (w0 : a0.size ≤ maxLen) (w1 : a1.size ≤ maxLen) (w2 : len2 ≤ maxLen) (h : 1048576 < a0.size + a1.size + len2) :
    Calls Try.prog 3 #[.string a0, .string a1, .slice a2 len2 cap2, .int .i64 a3] w fun e w' => e = .returned (.bool true) ∧ Below w.heap.size w w' := by
  go_enter Try.func3, Try.ntmps3
  go_wp2_with (go_at_call 7; refine (zzBytes7_no _ _ _ _ _ _ _ h w0 w1 w2).mono ?_; rintro e w' ⟨rfl, rfl⟩)
  go_ret
  exact ⟨rfl, Below.refl _ _⟩

theorem walk_many (a0 a1 : ByteArray) (a2 : Option Addr) (len2 cap2 : Nat) (a3 : Int) (w : World) (h : a0.size + a1.size + len2 ≤ 1048576) (h2 : 131072 < len2 ∨ 1048576 < a0.size + a1.size + 8 * len2) :
    Calls Try.prog 3 #[.string a0, .string a1, .slice a2 len2 cap2, .int .i64 a3] w fun e w' => e = .returned (.bool true) ∧ Below w.heap.size w w' := by
  have g1 : ¬ ((1048576 : Int) < (a0.size : Int)) := by omega
  have g2 : ¬ ((1048576 : Int) < (a1.size : Int)) := by omega
  by_cases g3 : (131072 : Int) < (len2 : Int)
  · go_enter Try.func3, Try.ntmps3
    go_wp2_with (go_at_call 7; refine (zzBytes7 _ _ _ _ _ _ _ h).mono ?_; rintro e w' ⟨rfl, rfl⟩)
    go_ret
    exact ⟨rfl, Below.refl _ _⟩
  · have g4 : (1048576 : Int) < (a0.size : Int) + (a1.size : Int) + 8 * (len2 : Int) := by omega
    go_enter Try.func3, Try.ntmps3
    go_wp2_with (go_at_call 7; refine (zzBytes7 _ _ _ _ _ _ _ h).mono ?_; rintro e w' ⟨rfl, rfl⟩)
    go_ret
    exact ⟨rfl, Below.refl _ _⟩

set_option maxHeartbeats 2000000 in
theorem walk_main (a0 a1 : ByteArray) (a2 : Option Addr) (len2 cap2 : Nat) (z2 : List Int) (a3 : Int) (w : World) (w2 : IsRow .i64 w a2 len2 cap2 z2) (h : a0.size + a1.size + 8 * len2 ≤ 1048576) :
    Calls Try.prog 3 #[.string a0, .string a1, .slice a2 len2 cap2, .int .i64 a3] w fun e w' => e = .returned (.bool true) ∧ Below w.heap.size w w' := by
  have g1 : ¬ ((1048576 : Int) < (a0.size : Int)) := by omega
  have g2 : ¬ ((1048576 : Int) < (a1.size : Int)) := by omega
  have g3 : ¬ ((131072 : Int) < (len2 : Int)) := by omega
  have g4 : ¬ ((1048576 : Int) < (a0.size : Int) + (a1.size : Int) + 8 * (len2 : Int)) := by omega
  have W2 : Hid _ := w2
  clear w2
  go_enter Try.func3, Try.ntmps3
  go_wp2_with (go_at_call 7; refine (zzBytes7 _ _ _ _ _ _ _ (by omega)).mono ?_; rintro e w' ⟨rfl, rfl⟩)
  refine (clone_any _ _ _ _ _ (by omega) W2.out).mono ?_
  rintro e w1 ⟨v, c, rfl, hb1, hv⟩
  have HV : Hid _ := hv
  clear hv
  go_wp2_with fail
  refine (newLocator _ _).mono ?_
  rintro e w3 ⟨rfl, rfl⟩
  go_wp2_with fail
  have HL0 : Hid (Loc (w1.alloc (.cells #[.string a0, .int .i64 0, .int .i64 1, .int .i64 1] 53)) w1.heap.size a0 0) := fresh_loc a0 w1
  have hb2 : Below w1.heap.size w1 (w1.alloc (.cells #[.string a0, .int .i64 0, .int .i64 1, .int .i64 1] 53)) := (Below.refl _ _).alloc (Nat.le_refl _) _
  clear g1 g2 g3 g4
  go_loopw [9, 11] (fun tx i wr => ∃ (k o : Nat) (T : ByteArray), k ≤ len2 ∧ i = .int .i64 (k : Int) ∧ tx = .string T ∧ Hid (∃ m, T.data.toList = a0.data.toList ++ m ∧ (m = [] ∨ m = a1.data.toList)) ∧ o ≤ T.size ∧ Hid (Loc wr w1.heap.size T o) ∧ Below w1.heap.size w1 wr) (fun _ i _ => len2 - (intOf i).toNat)
  case atStart => exact ⟨0, 0, a0, Nat.zero_le _, rfl, rfl, ⟨[], by simp, .inl rfl⟩, Nat.zero_le _, HL0.out, hb2⟩
  case round =>
    obtain ⟨k, o, T, hk, rfl, rfl, HT, ho, HL, hbr⟩ := hrel
    by_cases hlt : k < len2
    · obtain ⟨hv1, hrow⟩ := HV.out (by omega)
      subst hv1
      have hbw := hrow.1
      obtain ⟨⟨z, hz⟩, -⟩ := (hrow.below hbr hbw).2 k hlt
      have hk2 : (k : Int) < (len2 : Int) := by omega
      clear hrow HL0 hb2
      by_cases hg : ((k : Int) == a3) = true
      · have c0 := HL.out.c0
        have f0 := HL.out.f0
        go_wp2_with fail
        refine (grow _ T (a0 ++ a1) _ c0 f0).mono ?_
        rintro e w2 ⟨rfl, hw2⟩
        have hcat : (a0 ++ a1).data.toList = a0.data.toList ++ a1.data.toList := by simp
        have hTT : ∃ m, (a0 ++ a1).data.toList = T.data.toList ++ m := by
          obtain ⟨m, h1, h2⟩ := HT.out
          rcases h2 with rfl | rfl
          · exact ⟨a1.data.toList, by rw [hcat, h1, List.append_nil]⟩
          · exact ⟨[], by rw [hcat, h1, List.append_nil]⟩
        have HL2 : Hid (Loc w2 w1.heap.size (a0 ++ a1) o) := by
          obtain ⟨m, hm⟩ := hTT
          rw [hw2]; exact loc_grow HL.out ho hm
        have hb2 : Below w1.heap.size w1 w2 := by rw [hw2]; exact hbr.setCell (Nat.le_refl _) _
        have hzz : w2.cell? ⟨w'.heap.size, k, none⟩ = some (.int .i64 z) := by
          rw [hw2, World.cell?_setCell_other _ _ _ _ (by intro e; have := congrArg Addr.block e; simp at this; omega)]; exact hz
        have ho2 : o ≤ (a0 ++ a1).size := by
          obtain ⟨m, hm⟩ := hTT
          have e := congrArg List.length hm
          rw [List.length_append, ← Lib.size_eq, ← Lib.size_eq] at e
          omega
        have HT2 : Hid (∃ m, (a0 ++ a1).data.toList = a0.data.toList ++ m ∧ (m = [] ∨ m = a1.data.toList)) := ⟨_, hcat, .inr rfl⟩
        have hsz : (a0 ++ a1).size = a0.size + a1.size := by
          have e := congrArg List.length hcat
          rw [List.length_append, ← Lib.size_eq, ← Lib.size_eq, ← Lib.size_eq] at e
          exact e
        clear hw2 hTT hcat c0 f0 hz HL hbr HT ho
        have hTs : (a0 ++ a1).size ≤ 1048576 := by omega
        by_cases z1 : z < 0
        · go_wp2_with fail
          go_roundw
          case rel => exact ⟨k + 1, o, (a0 ++ a1), by omega, by go_num, rfl, HT2.out, ho2, HL2.out, hb2⟩
          case measure => simp [intOf]; omega
        · by_cases zz2 : ((a0 ++ a1).size : Int) < z
          · go_wp2_with fail
            go_roundw
            case rel => exact ⟨k + 1, o, (a0 ++ a1), by omega, by go_num, rfl, HT2.out, ho2, HL2.out, hb2⟩
            case measure => simp [intOf]; omega
          · obtain ⟨p, rfl⟩ := Int.eq_ofNat_of_zero_le (show 0 ≤ z by omega)
            have hp : p ≤ (a0 ++ a1).size := by omega
            go_wp2_with fail
            refine (locate _ o p (a0 ++ a1) _ HL2.out hp (by omega)).mono ?_
            rintro e w3 ⟨rfl, hb3, hL3⟩
            have HL3 : Hid _ := hL3
            clear hL3
            go_wp2_with fail
            refine (countPlace (a0 ++ a1) p _ hp (by omega)).mono ?_
            rintro e w4 ⟨rfl, rfl⟩
            go_wp2
            go_roundw
            case rel => exact ⟨k + 1, p, (a0 ++ a1), by omega, by go_num, rfl, HT2.out, hp, loc_alloc HL3.out _, (hb2.trans hb3).alloc (Nat.le_trans hb2.size hb3.size) _⟩
            case measure => simp [intOf]; omega
      · have hg' : ((k : Int) == a3) = false := by simpa using hg
        clear hg
        have HT2 := HT
        have ho2 := ho
        have hsz : T.size ≤ a0.size + a1.size := by
          obtain ⟨m, h1, h2⟩ := HT.out
          have e := congrArg List.length h1
          rw [List.length_append, ← Lib.size_eq, ← Lib.size_eq] at e
          rcases h2 with rfl | rfl
          · simp at e; omega
          · rw [← Lib.size_eq] at e; omega
        have hTs : T.size ≤ 1048576 := by omega
        by_cases z1 : z < 0
        · go_wp2_with fail
          go_roundw
          case rel => exact ⟨k + 1, o, T, by omega, by go_num, rfl, HT2.out, ho2, HL.out, hbr⟩
          case measure => simp [intOf]; omega
        · by_cases zz2 : (T.size : Int) < z
          · go_wp2_with fail
            go_roundw
            case rel => exact ⟨k + 1, o, T, by omega, by go_num, rfl, HT2.out, ho2, HL.out, hbr⟩
            case measure => simp [intOf]; omega
          · obtain ⟨p, rfl⟩ := Int.eq_ofNat_of_zero_le (show 0 ≤ z by omega)
            have hp : p ≤ T.size := by omega
            go_wp2_with fail
            refine (locate _ o p T _ HL.out hp (by omega)).mono ?_
            rintro e w3 ⟨rfl, hb3, hL3⟩
            have HL3 : Hid _ := hL3
            clear hL3
            go_wp2_with fail
            refine (countPlace T p _ hp (by omega)).mono ?_
            rintro e w4 ⟨rfl, rfl⟩
            go_wp2
            go_roundw
            case rel => exact ⟨k + 1, p, T, by omega, by go_num, rfl, HT2.out, hp, loc_alloc HL3.out _, (hbr.trans hb3).alloc (Nat.le_trans hbr.size hb3.size) _⟩
            case measure => simp [intOf]; omega
    · go_wp2
      go_ret
      exact ⟨rfl, hb1.trans (hbr.mono hb1.size)⟩

theorem walk (a0 : ByteArray) (a1 : ByteArray) (a2 : Option Addr) (len2 cap2 : Nat) (z2 : List Int) (a3 : Int) (w : World) (w0 : a0.size ≤ maxLen) (w1 : a1.size ≤ maxLen) (w2 : IsRow .i64 w a2 len2 cap2 z2) :
    Calls Try.prog 3 #[.string a0, .string a1, .slice a2 len2 cap2, .int .i64 a3] w fun e w' => e = .returned (.bool true) ∧ Below w.heap.size w w' := by
  have hl : len2 ≤ maxLen := by
    rcases w2 with ⟨_, h, _, _⟩ | ⟨_, _, h1, h2, _, _, _⟩
    · rw [h]; exact Nat.zero_le _
    · exact Nat.le_trans h1 h2
  by_cases h1 : 1048576 < a0.size + a1.size + len2
  · exact walk_long a0 a1 a2 len2 cap2 a3 w w0 w1 hl h1
  · by_cases h2 : 131072 < len2 ∨ 1048576 < a0.size + a1.size + 8 * len2
    · exact walk_many a0 a1 a2 len2 cap2 a3 w (by omega) h2
    · exact walk_main a0 a1 a2 len2 cap2 z2 a3 w w2 (by omega)

/-! ### THE ROW's STEP -/
set_option maxRecDepth 100000 in
theorem lifted (os : Os) (started : os.Started) (H : Type) (enc : TypeId × Value → H) :
    ReturnsInHanded {} Try.checked os 3 .any (Rows.fnLocatorAgreesWithCountSpec.pre6 enc Try.prog Try.f3 Rows.fnLocatorAgreesWithCountRow.domain false) (Rows.fnLocatorAgreesWithCountSpec.post enc Try.prog Try.f3 false true false false) := by
  refine returnsInHanded_of_change (C := Try.checked) own started (by kernel_rfl) Try.func3
    (ChangeSpec.witness6 (enc := enc) (C := Try.checked) false ⟨#[], #[.string ByteArray.empty, .string ByteArray.empty, .slice none 0 0, .int .i64 0], []⟩ 8 (by kernel_rfl) (by kernel_rfl) (by kernel_rfl) (by kernel_rfl)) ?_
  intro W base args ds gs before hval0 hW hcnd _
  have hval : ∀ (j : Nat) t v, Try.f3.params[j]? = some t → args[j]? = some v → Value.okWide Try.prog W .any base t v := hval0
  have hW' := hW
  obtain ⟨p, q, hA0, hV, rfl, hfz, hnd⟩ := hW
  have hA : DataW.TrodAll enc Try.prog W 0 (fun _ => true) true Try.f3.params.toList args.toList ds p := hA0
  rw [Try.params3] at hA hval
  obtain ⟨v0, vs0, d0, ds0, p0, q0, hargs, rfl, rfl, h0, r0⟩ := trodAll_cons hA
  obtain ⟨v1, vs1, d1, ds1, p1, q1, rfl, rfl, rfl, h1, r1⟩ := trodAll_cons r0
  obtain ⟨v2, vs2, d2, ds2, p2, q2, rfl, rfl, rfl, h2, r2⟩ := trodAll_cons r1
  obtain ⟨v3, vs3, d3, ds3, p3, q3, rfl, rfl, rfl, h3, r3⟩ := trodAll_cons r2
  obtain ⟨rfl, rfl, rfl⟩ := trodAll_nil r3
  obtain rfl : args = #[v0, v1, v2, v3] := by cases args; simp_all
  obtain ⟨rfl, rfl⟩ := trodVars_none hV
  obtain ⟨a0, rfl, rfl, rfl, w0⟩ := open_string Try.underlying9 (hval 0 9 v0 rfl rfl) h0
  obtain ⟨a1, rfl, rfl, rfl, w1⟩ := open_string Try.underlying9 (hval 1 9 v1 rfl rfl) h1
  obtain ⟨a2, len2, cap2, rfl⟩ := okWide_slice Try.underlying22 (hval 2 22 v2 rfl rfl)
  have k2 := h2
  have lt2 : ∀ x ∈ p2, x.block < W.heap.size := by obtain ⟨m, hm⟩ := k2; exact DataW.trod_lt m _ _ _ hm
  obtain ⟨z2, w2⟩ : ∃ zs, IsRow .i64 W a2 len2 cap2 zs := by
    obtain ⟨fuel, hf⟩ := h2
    rcases open_ints Try.underlying22 Try.underlying3 (by kernel_rfl) hf with ⟨hcs, _⟩ | ⟨x, l, c, zs, hcs, _, hl, hm, hz, _, hcell, hwz⟩
    · simp [Value.cells] at hcs
      obtain ⟨rfl, rfl, rfl⟩ := hcs
      exact ⟨[], .inl ⟨rfl, rfl, rfl, rfl⟩⟩
    · simp [Value.cells] at hcs
      obtain ⟨rfl, rfl, rfl⟩ := hcs
      exact ⟨zs, .inr ⟨_, rfl, hl, hm, by simpa using hz, hcell, hwz⟩⟩
  obtain ⟨a3, rfl, rfl, rfl, w3⟩ := open_int Try.underlying3 (hval 3 3 v3 rfl rfl) h3
  clear hA0 hval0
  refine (walk a0 a1 a2 len2 cap2 z2 a3 W w0 w1 w2).mono fun e W' ⟨he, bel⟩ => ?_
  subst he
  exact ⟨_, rfl, _, _, _, [], _, [], hW', trodAll_mk1 (shut_bool Try.underlying4 _), (trodAll_cons_mk (shut_string Try.underlying9 w0) (trodAll_cons_mk (shut_string Try.underlying9 w1) (trodAll_cons_mk (Below.trod laidOut (by kernel_rfl) (of_decide_eq_true (by kernel_rfl)) k2 bel lt2) (trodAll_cons_mk (shut_int Try.underlying3 w3) trodAll_mk0)))), rfl, bel.frame _, fun h => by cases h⟩

theorem over : Rows.fnLocatorAgreesWithCountRow.holds Try.pinned (OpenSpec.ofChange Rows.fnLocatorAgreesWithCountSpec) :=
  OpenClaim.holds_of_wide 3 Try.f3 rfl rfl rfl rfl rfl rfl rfl ⟨rfl, rfl, rfl, rfl, rfl⟩ rfl rfl rfl rfl rfl (by kernel_rfl) Try.func3 (by kernel_rfl)
    (of_decide_eq_true (by kernel_rfl)) (by unfold Func.isWrapper; first | (rw [if_pos (by decide +kernel)]; kernel_rfl) | (rw [if_neg (by decide +kernel)]; exact ⟨rfl, rfl⟩))
    (fun os started H enc _ => lifted os started H enc)

/-- THE STATEMENT -/
theorem proved : Rows.FnLocatorAgreesWithCountSaid := over
end Go.Proofs.Qxb6001681a.fnLocatorAgreesWithCount
