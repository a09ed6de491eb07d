/-
  'Rows.FnLineStartIsLocatedAtColumnOneSaid', PROVED. The walk over the callees' contracts; the row's step by the guide's template.
-/
import Derived.Test.Qxb6001681aRows
import Derived.Test.Qxb6001681aPlace
import Derived.Test.Qxb6001681aShelf
import Derived.Test.Qxb6001681aLocate
import Derived.Test.Qxb6001681aLineStart
import Derived.WalkKit
import Derived.ProofKit
import Derived.OpenShut
import Derived.ShutString
namespace Go.Proofs.Qxb6001681a.fnLineStartIsLocatedAtColumnOne
open Go.ChangeShapes Go.WideShapes Go.ChangeAt Go.RowKit
open Go.ChangeMaps (open_string shut_string)

theorem own : ownKnob Try.prog.godebug = none := by kernel_rfl

/-- A fresh Locator stands at 0. -/
theorem fresh_loc (s : ByteArray) (w : World) : Loc (w.alloc (.cells #[.string s, .int .i64 0, .int .i64 1, .int .i64 1] 53)) w.heap.size s 0 := by
  constructor
  case c2 => show _ = some (Value.int .i64 1); go_simp
  case c3 => show _ = some (Value.int .i64 1); go_simp
  all_goals go_simp

theorem locate_at (s : ByteArray) (p : Nat) (L C : Int) (w : World) (hp : p ≤ s.size) (hs : s.size ≤ 1048576) (h1 : (Pl.lineAt s.data.toList p : Int) = L) (h2 : (p : Int) - (Pl.st s.data.toList p : Int) + 1 = C) :
    Calls Try.prog 11 #[.pointer (some ⟨w.heap.size, 0, none⟩), .int .i64 (p : Int)] (w.alloc (.cells #[.string s, .int .i64 0, .int .i64 1, .int .i64 1] 53)) fun e w' => e = .returned (.agg #[.int .i64 L, .int .i64 C]) ∧ Below w.heap.size w w' := by
  refine (locate w.heap.size 0 p s _ (fresh_loc s w) hp (by omega)).mono ?_
  rintro e w' ⟨rfl, hB, _⟩
  rw [h1, h2]
  exact ⟨rfl, ((Below.refl _ _).alloc (Nat.le_refl _) _).trans hB⟩

/-- Too long a text: true at once. -/
theorem walk_long (a0 : ByteArray) (a1 : Int) (h : 1048576 < a0.size) (w : World) :
    Calls Try.prog 4 #[.string a0, .int .i64 a1] w fun e w' => e = .returned (.bool true) ∧ Below w.heap.size w w' := by
  go_enter Try.func4, Try.ntmps4
  go_wp2_with (go_at_call 13; refine (zzBytes13_no _ _ _ h).mono ?_; rintro e w' ⟨rfl, rfl⟩)
  go_ret
  exact ⟨rfl, Below.refl _ _⟩

set_option maxHeartbeats 1000000 in
theorem walk_short (a0 : ByteArray) (a1 : Int) (h : a0.size ≤ 1048576) (w1 : (Lit.int .i64 a1).wf = true) (w : World) :
    Calls Try.prog 4 #[.string a0, .int .i64 a1] w fun e w' => e = .returned (.bool true) ∧ Below w.heap.size w w' := by
  have hn : ¬ ((1048576 : Int) < (a0.size : Int)) := by omega
  go_enter Try.func4, Try.ntmps4
  go_wp2_with (go_at_call 13; refine (zzBytes13 _ _ _ h).mono ?_; rintro e w' ⟨rfl, rfl⟩)
  refine (lineStart _ _ _ h w1).mono ?_
  rintro e w' ⟨⟨r, hr, rfl, hS⟩, rfl⟩
  have HS : Hid _ := hS
  clear hS
  have hr1 : ¬ ((r : Int) < 0) := by omega
  have hr2 : ¬ ((a0.size : Int) < (r : Int)) := by omega
  go_wp2
  go_loop [6, 7] (fun n i => ∃ k : Nat, k ≤ a0.size ∧ i = .int .i64 (k : Int) ∧ n = .int .i64 (Pl.lineAt a0.data.toList k : Int)) (fun _ i => a0.size - (intOf i).toNat)
  case atStart => exact ⟨0, Nat.zero_le _, rfl, rfl⟩
  case round =>
    obtain ⟨k, hk, rfl, rfl⟩ := hrel
    have hb := Pl.line_bd a0.data.toList k
    by_cases hlt : k < a0.size
    · have hg := Pl.nlAt_get a0 k hlt
      cases hnl : Pl.nlAt a0.data.toList k
      · have Hn : Hid _ := Pl.lineAt_no hnl
        rw [hnl] at hg
        have hg' : ((a0[k].toNat : Int) == 10) = false := hg.symm
        clear hg hnl
        go_wp2
        go_round
        case rel => exact ⟨k + 1, by omega, by go_num, by rw [Hn.out]⟩
        case measure => simp [intOf]; omega
      · have Hn : Hid _ := Pl.lineAt_yes hnl
        rw [hnl] at hg
        have hg' : ((a0[k].toNat : Int) == 10) = true := hg.symm
        clear hg hnl
        go_wp2
        go_round
        case rel => exact ⟨k + 1, by omega, by go_num, by rw [Hn.out]; go_num⟩
        case measure => simp [intOf]; omega
    · obtain rfl : k = a0.size := by omega
      clear hlt
      rcases HS.out with ⟨hS1, hS2⟩ | ⟨hS1, hS2, hS3⟩ | ⟨hS1, hS2⟩
      · subst hS2
        have ht : ¬ ((Pl.lineAt a0.data.toList a0.size : Int) < a1) := by omega
        have hz : ((0 : Int) != 0) = false := rfl
        by_cases h1 : a1 < 1
        · go_wp2_with fail
          refine (newLocator _ _).mono ?_
          rintro e w2 ⟨rfl, rfl⟩
          go_wp2_with fail
          refine (locate_at a0 0 1 1 _ (Nat.zero_le _) h rfl rfl).mono ?_
          rintro e w3 ⟨rfl, hB⟩
          go_wp2
          go_ret
          exact ⟨rfl, hB.alloc hB.size _⟩
        · have h2 : a1 = 1 := by omega
          have H2 : Hid (a1 = 1) := h2
          clear h2
          go_wp2_with fail
          refine (newLocator _ _).mono ?_
          rintro e w2 ⟨rfl, rfl⟩
          go_wp2_with fail
          refine (locate_at a0 0 a1 1 _ (Nat.zero_le _) h (by rw [H2.out]; rfl) rfl).mono ?_
          rintro e w3 ⟨rfl, hB⟩
          go_wp2
          go_ret
          exact ⟨rfl, hB.alloc hB.size _⟩
      · have hm := Pl.line_mono a0.data.toList r (a0.size - r)
        rw [show r + (a0.size - r) = a0.size by omega] at hm
        have ht : ¬ ((Pl.lineAt a0.data.toList a0.size : Int) < a1) := by omega
        have H2 : Hid _ := hS2
        have H3 : Hid _ := hS3
        clear hS2 hS3 hm
        go_wp2_with fail
        refine (newLocator _ _).mono ?_
        rintro e w2 ⟨rfl, rfl⟩
        go_wp2_with fail
        refine (locate_at a0 r a1 1 _ hr h H2.out (by rw [H3.out]; omega)).mono ?_
        rintro e w3 ⟨rfl, hB⟩
        go_wp2
        go_ret
        exact ⟨rfl, hB.alloc hB.size _⟩
      · subst hS2
        go_wp2
        go_ret
        exact ⟨rfl, Below.refl _ _⟩

theorem walk (a0 : ByteArray) (a1 : Int) (w1 : (Lit.int .i64 a1).wf = true) (w : World) :
    Calls Try.prog 4 #[.string a0, .int .i64 a1] w fun e w' => e = .returned (.bool true) ∧ Below w.heap.size w w' := by
  by_cases h : a0.size ≤ 1048576
  · exact walk_short a0 a1 h w1 w
  · exact walk_long a0 a1 (by omega) w

/-! ### THE ROW's STEP -/
set_option maxRecDepth 100000 in
theorem lifted (os : Os) (started : os.Started) (H : Type) (enc : TypeId × Value → H) :
    ReturnsInHanded {} Try.checked os 4 .any (Rows.fnLineStartIsLocatedAtColumnOneSpec.pre6 enc Try.prog Try.f4 Rows.fnLineStartIsLocatedAtColumnOneRow.domain false) (Rows.fnLineStartIsLocatedAtColumnOneSpec.post enc Try.prog Try.f4 false true false false) := by
  refine returnsInHanded_of_change (C := Try.checked) own started (by kernel_rfl) Try.func4
    (ChangeSpec.witness6 (enc := enc) (C := Try.checked) false ⟨#[], #[.string ByteArray.empty, .int .i64 0], []⟩ 8 (by kernel_rfl) (by kernel_rfl) (by kernel_rfl) (by kernel_rfl)) ?_
  intro W base args ds gs before hval0 hW hcnd _
  have hval : ∀ (j : Nat) t v, Try.f4.params[j]? = some t → args[j]? = some v → Value.okWide Try.prog W .any base t v := hval0
  have hW' := hW
  obtain ⟨p, q, hA0, hV, rfl, hfz, hnd⟩ := hW
  have hA : DataW.TrodAll enc Try.prog W 0 (fun _ => true) true Try.f4.params.toList args.toList ds p := hA0
  rw [Try.params4] at hA hval
  obtain ⟨v0, vs0, d0, ds0, p0, q0, hargs, rfl, rfl, h0, r0⟩ := trodAll_cons hA
  obtain ⟨v1, vs1, d1, ds1, p1, q1, rfl, rfl, rfl, h1, r1⟩ := trodAll_cons r0
  obtain ⟨rfl, rfl, rfl⟩ := trodAll_nil r1
  obtain rfl : args = #[v0, v1] := by cases args; simp_all
  obtain ⟨rfl, rfl⟩ := trodVars_none hV
  obtain ⟨a0, rfl, rfl, rfl, w0⟩ := open_string Try.underlying9 (hval 0 9 v0 rfl rfl) h0
  obtain ⟨a1, rfl, rfl, rfl, w1⟩ := open_int Try.underlying3 (hval 1 3 v1 rfl rfl) h1
  clear hA0 hval0
  simp only [List.append_nil] at hW'
  refine (walk a0 a1 w1 W).mono fun e W' ⟨he, bel⟩ => ?_
  subst he
  exact ⟨_, rfl, _, _, _, [], _, [], hW', trodAll_mk1 (shut_bool Try.underlying4 _), (trodAll_cons_mk (shut_string Try.underlying9 w0) (trodAll_cons_mk (shut_int Try.underlying3 w1) trodAll_mk0)), rfl, bel.frame _, fun h => by cases h⟩

theorem over : Rows.fnLineStartIsLocatedAtColumnOneRow.holds Try.pinned (OpenSpec.ofChange Rows.fnLineStartIsLocatedAtColumnOneSpec) :=
  OpenClaim.holds_of_wide 4 Try.f4 rfl rfl rfl rfl rfl rfl rfl ⟨rfl, rfl, rfl, rfl, rfl⟩ rfl rfl rfl rfl rfl (by kernel_rfl) Try.func4 (by kernel_rfl)
    (of_decide_eq_true (by kernel_rfl)) (by unfold Func.isWrapper; first | (rw [if_pos (by decide +kernel)]; kernel_rfl) | (rw [if_neg (by decide +kernel)]; exact ⟨rfl, rfl⟩))
    (fun os started H enc _ => lifted os started H enc)

/-- THE STATEMENT -/
theorem proved : Rows.FnLineStartIsLocatedAtColumnOneSaid :=
  over
end Go.Proofs.Qxb6001681a.fnLineStartIsLocatedAtColumnOne
