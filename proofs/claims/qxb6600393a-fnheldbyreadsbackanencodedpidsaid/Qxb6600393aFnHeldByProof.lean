/-
  'Rows.FnHeldByReadsBackAnEncodedPidSaid', PROVED. The walk over the callees' contracts; the row's step by the guide's template.
-/
import Derived.Test.Qxb6600393aRows
import Derived.Test.Qxb6600393aShelf
import Derived.Test.Qxb6600393aPlain
import Derived.Test.Qxb6600393aWalks
import Derived.WalkKit
import Derived.ProofKit
import Derived.OpenShut
import Derived.ShutString
namespace Go.Proofs.Qxb6600393a.fnHeldByReadsBackAnEncodedPid
open Go.ChangeShapes Go.WideShapes Go.ChangeAt Go.RowKit
open Go.ChangeMaps (open_string shut_string)

theorem own : ownKnob Try.prog.godebug = none := by kernel_rfl

/-- ZZHeldBy hands on what heldBy answers. -/
theorem zzHeldBy (N R1 R2 L : ByteArray) (t : List UInt8) (v : Int) (hN : N.data.toList = [80, 65, 67, 75, 70, 69, 82, 82, 89, 95] ++ R1.data.toList) (h1 : R1.data.toList = R2.data.toList ++ [95, 72, 69, 65, 68]) (h2 : R2.data.toList = L.data.toList ++ 95 :: t)
    (hl : Pl.Letters L.data.toList) (hne : L.data.toList ≠ []) (hv : Pl.val L.data.toList 0 = v) (hv1 : v ≤ 9223372036854775807) (hs : N.size ≤ 2097152) (w : World) :
    Calls Try.prog 9 #[.string N] w fun e w' => e = .returned (.tuple #[.int .i64 v, .bool true]) ∧ Below w.heap.size w w' := by
  have HN : Hid _ := hN
  have H1 : Hid _ := h1
  have H2 : Hid _ := h2
  have Hl : Hid _ := hl
  have Hn : Hid _ := hne
  have Hv : Hid _ := hv
  clear hN h1 h2 hl hne hv
  go_enter Try.func9, Try.ntmps9
  go_wp2_with fail
  refine (heldBy N R1 R2 L t HN.out H1.out H2.out Hl.out Hn.out (by rw [Hv.out]; exact hv1) hs _).mono ?_
  rintro e w2 ⟨rfl, hb⟩
  rw [Hv.out]
  go_wp2
  go_ret2
  exact ⟨rfl, hb⟩

theorem walk_long (a0 : Int) (a1 : ByteArray) (h : 1048576 < a1.size) (w : World) :
    Calls Try.prog 4 #[.int .i64 a0, .string a1] w fun e w' => e = .returned (.bool true) ∧ Below w.heap.size w w' := by
  go_enter Try.func4, Try.ntmps4
  go_wp2_with (go_at_call 11; refine (zz_no _ _ _ h).mono ?_; rintro e w' ⟨rfl, rfl⟩)
  go_ret
  exact ⟨rfl, Below.refl _ _⟩

theorem walk_neg (a0 : Int) (a1 : ByteArray) (h : a1.size ≤ 1048576) (h0 : a0 < 0) (w : World) :
    Calls Try.prog 4 #[.int .i64 a0, .string a1] w fun e w' => e = .returned (.bool true) ∧ Below w.heap.size w w' := by
  have g0 : ¬ ((1048576 : Int) < (a1.size : Int)) := by omega
  go_enter Try.func4, Try.ntmps4
  go_wp2_with (go_at_call 11; refine (zz _ _ _ h).mono ?_; rintro e w' ⟨rfl, rfl⟩)
  go_ret
  exact ⟨rfl, Below.refl _ _⟩

set_option maxHeartbeats 1000000 in
theorem walk_main (n : Nat) (a1 : ByteArray) (h : a1.size ≤ 1048576) (hn : n ≤ 9223372036854775807) (w : World) :
    Calls Try.prog 4 #[.int .i64 (n : Int), .string a1] w fun e w' => e = .returned (.bool true) ∧ Below w.heap.size w w' := by
  have g0 : ¬ ((1048576 : Int) < (a1.size : Int)) := by omega
  have g1 : ¬ ((n : Int) < 0) := by omega
  go_enter Try.func4, Try.ntmps4
  go_wp2_with (go_at_call 11; refine (zz _ _ _ h).mono ?_; rintro e w' ⟨rfl, rfl⟩)
  refine (letters_any n hn _).mono ?_
  rintro e w2 ⟨⟨ls, rfl, hne, hlen, hl, hv⟩, hb⟩
  obtain ⟨L, hL⟩ : ∃ L : ByteArray, L = ⟨ls.toArray⟩ := ⟨_, rfl⟩
  have hLd : L.data.toList = ls := by rw [hL]
  rw [← hL]
  have hLs : L.size ≤ 19 := by rw [Go.Lib.size_eq, hLd]; exact hlen
  rw [← hLd] at hne hl hv
  have Hne : Hid _ := hne
  have Hl : Hid _ := hl
  have Hv : Hid _ := hv
  clear hne hl hv hlen hL hLd
  have hsz : (({ data := #[80, 65, 67, 75, 70, 69, 82, 82, 89, 95] } : ByteArray) ++ L ++ { data := #[95] } ++ a1 ++ { data := #[95, 72, 69, 65, 68] }).size ≤ 2097152 := by
    rw [Go.Lib.size_eq]
    have e1 := Go.Lib.size_eq L
    have e2 := Go.Lib.size_eq a1
    simp
    omega
  have HS : Hid _ := hsz
  clear hsz
  go_wp2_with fail
  refine (zzHeldBy _ (L ++ { data := #[95] } ++ a1 ++ { data := #[95, 72, 69, 65, 68] }) (L ++ { data := #[95] } ++ a1) L a1.data.toList (n : Int) (by simp) (by simp) (by simp) Hl.out Hne.out Hv.out (by omega) HS.out _).mono ?_
  rintro e w3 ⟨rfl, hb3⟩
  go_wp2
  go_ret
  exact ⟨rfl, hb.trans (hb3.mono hb.size)⟩

theorem walk (a0 : Int) (a1 : ByteArray) (w0 : (Lit.int .i64 a0).wf = true) (w : World) :
    Calls Try.prog 4 #[.int .i64 a0, .string a1] w fun e w' => e = .returned (.bool true) ∧ Below w.heap.size w w' := by
  have hbd := bounds_i64 w0
  by_cases h : a1.size ≤ 1048576
  · by_cases h0 : a0 < 0
    · exact walk_neg a0 a1 h h0 w
    · obtain ⟨n, rfl⟩ := Int.eq_ofNat_of_zero_le (show 0 ≤ a0 by omega)
      exact walk_main n a1 h (by omega) w
  · exact walk_long a0 a1 (by omega) w

/-! ### THE ROW's STEP -/
set_option maxRecDepth 100000 in
theorem lifted (os : Os) (started : os.Started) (H : Type) (enc : TypeId × Value → H) :
    ReturnsInHanded {} Try.checked os 4 .any (Rows.fnHeldByReadsBackAnEncodedPidSpec.pre6 enc Try.prog Try.f4 Rows.fnHeldByReadsBackAnEncodedPidRow.domain false) (Rows.fnHeldByReadsBackAnEncodedPidSpec.post enc Try.prog Try.f4 false true false false) := by
  refine returnsInHanded_of_change (C := Try.checked) own started (by kernel_rfl) Try.func4
    (ChangeSpec.witness6 (enc := enc) (C := Try.checked) false ⟨#[], #[.int .i64 0, .string ByteArray.empty], []⟩ 8 (by kernel_rfl) (by kernel_rfl) (by kernel_rfl) (by kernel_rfl)) ?_
  intro W base args ds gs before hval0 hW hcnd _
  have hval : ∀ (j : Nat) t v, Try.f4.params[j]? = some t → args[j]? = some v → Value.okWide Try.prog W .any base t v := hval0
  have hW' := hW
  obtain ⟨p, q, hA0, hV, rfl, hfz, hnd⟩ := hW
  have hA : DataW.TrodAll enc Try.prog W 0 (fun _ => true) true Try.f4.params.toList args.toList ds p := hA0
  rw [Try.params4] at hA hval
  obtain ⟨v0, vs0, d0, ds0, p0, q0, hargs, rfl, rfl, h0, r0⟩ := trodAll_cons hA
  obtain ⟨v1, vs1, d1, ds1, p1, q1, rfl, rfl, rfl, h1, r1⟩ := trodAll_cons r0
  obtain ⟨rfl, rfl, rfl⟩ := trodAll_nil r1
  obtain rfl : args = #[v0, v1] := by cases args; simp_all
  obtain ⟨rfl, rfl⟩ := trodVars_none hV
  obtain ⟨a0, rfl, rfl, rfl, w0⟩ := open_int Try.underlying3 (hval 0 3 v0 rfl rfl) h0
  obtain ⟨a1, rfl, rfl, rfl, w1⟩ := open_string Try.underlying9 (hval 1 9 v1 rfl rfl) h1
  clear hA0 hval0
  simp only [List.append_nil] at hW'
  refine (walk a0 a1 w0 W).mono fun e W' ⟨he, bel⟩ => ?_
  subst he
  exact ⟨_, rfl, _, _, _, [], _, [], hW', trodAll_mk1 (shut_bool Try.underlying4 _), (trodAll_cons_mk (shut_int Try.underlying3 w0) (trodAll_cons_mk (shut_string Try.underlying9 w1) trodAll_mk0)), rfl, bel.frame _, fun h => by cases h⟩

theorem over : Rows.fnHeldByReadsBackAnEncodedPidRow.holds Try.pinned (OpenSpec.ofChange Rows.fnHeldByReadsBackAnEncodedPidSpec) :=
  OpenClaim.holds_of_wide 4 Try.f4 rfl rfl rfl rfl rfl rfl rfl ⟨rfl, rfl, rfl, rfl, rfl⟩ rfl rfl rfl rfl rfl (by kernel_rfl) Try.func4 (by kernel_rfl)
    (of_decide_eq_true (by kernel_rfl)) (by unfold Func.isWrapper; first | (rw [if_pos (by decide +kernel)]; kernel_rfl) | (rw [if_neg (by decide +kernel)]; exact ⟨rfl, rfl⟩))
    (fun os started H enc _ => lifted os started H enc)

/-- THE STATEMENT -/
theorem proved : Rows.FnHeldByReadsBackAnEncodedPidSaid :=
  over
end Go.Proofs.Qxb6600393a.fnHeldByReadsBackAnEncodedPid
