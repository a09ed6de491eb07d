/-
  THE WALK OF '(*scanner).scanValue' (function 18) where the text goes on behind the blanks; 'ZZScanValue' (15).
-/
import Derived.Test.Qxb6600908aRows
import Derived.Test.Qxb6600908aShelf
import Derived.Test.Qxb6600908aIndexAny
import Derived.Test.Qxb6600908aScan
import Derived.WalkKit
import Derived.ProofKit
import Derived.OpenShut
import Derived.WalkSmall
import Derived.WalkSpells
import Derived.Deep.QuietTactic
import Derived.BigQuiet
import Derived.Deep.RegionLaw
import Derived.Deep.AppendLies
import Derived.Deep.LoopGhost
namespace Go.Proofs.Qxb6600908a
open Go.ChangeShapes Go.WideShapes Go.ChangeAt Go.RowKit

theorem Try.info40 : (Try.prog.info? 40).map (fun i => (i.zero, i.size, i.bytes)) = some (some (.agg #[.int .i64 0, .string ⟨#[]⟩, .string ⟨#[]⟩]), 3, 40) := by kernel_rfl

/-- A scanner's cells behind the append of a note. -/
theorem note_kept {w3 w1 : World} {o : Obj} {b : Nat} (hg : ((w3.alloc o).drew).grownBy w1 none) (hb : b < w3.heap.size) (k : Nat) :
    w1.cell? ⟨b, k, none⟩ = w3.cell? ⟨b, k, none⟩ ∧ w1.frozen? ⟨b, k, none⟩ = w3.frozen? ⟨b, k, none⟩ := by
  have h1 : Below (b + 1) w3 (w3.alloc o).drew := ((Below.refl _ _).alloc hb o).drew
  have h2 : Below (b + 1) w3 w1 := h1.grown hg (by simp; omega) (fun k hk => by cases hk)
  exact ⟨h2.cell (p := ⟨b, k, none⟩) (Nat.lt_succ_self b), h2.frozen (p := ⟨b, k, none⟩) (Nat.lt_succ_self b)⟩

/-- The note stored: what is known of the world behind it. -/
theorem note_done {w w3 w1 : World} {o : Obj} {b q g cap : Nat} {T key V : ByteArray} {ln : Int} (hb : Below b w w3) (hS : Sc w3 b T q ln) (hg : ((w3.alloc o).drew).grownBy w1 none)
    (hown : w1.ownsRow w3.heap.size 40 3 (.slice (some ⟨g, 0, none⟩) 1 cap) 1 [.int .i64 ln, .string key, .string V]) (hat : g = w3.heap.size + 1) :
    Below b w (w1.setCell ⟨b, 3, none⟩ (.slice (some ⟨g, 0, none⟩) 1 cap)) ∧ Noted (w1.setCell ⟨b, 3, none⟩ (.slice (some ⟨g, 0, none⟩) 1 cap)) b q ln key V := by
  have lt3 := hS.lt
  have k1 := (note_kept hg lt3 1).1.trans hS.c1
  have k3 := (note_kept hg lt3 3).1.trans hS.c3
  have hb1 : Below b w3 w1 := (((Below.refl b w3).alloc (Nat.le_of_lt lt3) o).drew).grown hg (by simp; omega) (fun k hk => by cases hk)
  have hne : ∀ k, (⟨b, 3, none⟩ : Addr) ≠ ⟨g, k, none⟩ := fun k e => by have := congrArg Addr.block e; simp at this; omega
  refine ⟨(hb.trans hb1).setCell (Nat.le_refl b) _, ?_, g, cap, World.cell?_setCell_same _ _ _ k3, ?_, ?_, ?_⟩
  · rw [World.cell?_setCell_other _ _ _ _ (by intro e; have := congrArg Addr.off e; simp at this)]; exact k1
  · rw [World.cell?_setCell_other _ _ _ _ (hne 0), hown.cellAt 0 (by omega)]; rfl
  · rw [World.cell?_setCell_other _ _ _ _ (hne 1), hown.cellAt 1 (by omega)]; rfl
  · rw [World.cell?_setCell_other _ _ _ _ (hne 2), hown.cellAt 2 (by omega)]; rfl

set_option maxHeartbeats 4000000 in
theorem scan_mid (b p q : Nat) (T key V : ByteArray) (ln : Int) (w : World) (hS : Sc w b T p ln) (hB : Blanks T p q) (hs : T.size ≤ 2097152) (hqT : q < T.size) (hV : ValueAt T q V) :
    Calls Try.prog 18 #[.pointer (some ⟨b, 0, none⟩), .string key] w fun e w' => e = .returned (.tuple #[]) ∧ Below b w w' ∧ After w' b T q ln key V := by
  obtain ⟨i0, hi0, hz0, hz1, hz2⟩ := info_parts Try.info40
  have HV : Hid _ := hV
  clear hV
  have HB : Hid _ := hB
  have hlo := hB.lo
  have hhi := hB.hi
  obtain ⟨lt, c0, c1, c2, c3, f1, f3⟩ := hS
  have HS : Hid (Sc w b T p ln) := ⟨lt, c0, c1, c2, c3, f1, f3⟩
  clear hB
  go_enter Try.func18, Try.ntmps18
  go_wp2
  clear c0 c1 c2 c3 f1 f3
  go_loopg [13] (q - (p + 1)) (fun g _ wr => ∃ i : Nat, i + g = q ∧ p + 1 ≤ i ∧ Hid (Sc wr b T i ln) ∧ Below b w wr)
  case atStart => exact ⟨p + 1, by omega, Nat.le_refl _, HS.out.move _ _ (by omega), Below.setCell (p := ⟨b, 1, none⟩) (Below.refl b w) (Nat.le_refl b) _⟩
  case round =>
    obtain ⟨i, hig, hi1, HR, hb⟩ := hrel
    obtain ⟨lt2, c0, c1, c2, c3, f1, f3⟩ := HR.out
    cases gk with
    | succ g =>
      have hit : i < T.size := by omega
      have hd : decide ((i : Int) < (T.size : Int)) = true := decide_eq_true (by omega)
      have j1 : (i : Int) < (T.size : Int) := by omega
      have j0 : (0 : Int) ≤ (i : Int) := by omega
      by_cases h32 : (T[i].toNat : Int) = 32
      · have e1 : ((T[i].toNat : Int) == 32) = true := beq_iff_eq.2 h32
        clear h32
        go_wp2
        go_quiet (fail)
        go_wp2
        go_roundg g
        case measure => omega
        case rel => exact ⟨i + 1, by omega, by omega, (HR.out.drewN _).move _ _ (by omega), Below.setCell (p := ⟨b, 1, none⟩) (below_drewN hb _) (Nat.le_refl b) _⟩
      · have h9 := (HB.out.all i hit hi1 (by omega)).resolve_left h32
        have e1 : ((T[i].toNat : Int) == 32) = false := beq_eq_false_iff_ne.2 h32
        have e2 : ((T[i].toNat : Int) == 9) = true := beq_iff_eq.2 h9
        clear h32 h9
        go_wp2
        go_quiet (fail)
        go_wp2
        go_roundg g
        case measure => omega
        case rel => exact ⟨i + 1, by omega, by omega, (HR.out.drewN _).move _ _ (by omega), Below.setCell (p := ⟨b, 1, none⟩) (below_drewN hb _) (Nat.le_refl b) _⟩
    | zero =>
      obtain rfl : i = q := by omega
      have j0 : (0 : Int) ≤ (i : Int) := by omega
      have j2 : (i : Int) ≤ (T.size : Int) := by omega
      have hd : decide ((i : Int) < (T.size : Int)) = true := decide_eq_true (by omega)
      have j1 : (i : Int) < (T.size : Int) := by omega
      obtain ⟨n1, n2⟩ := HB.out.stop hqT
      have e1 : ((T[i].toNat : Int) == 32) = false := beq_eq_false_iff_ne.2 n1
      have e2 : ((T[i].toNat : Int) == 9) = false := beq_eq_false_iff_ne.2 n2
      clear n1 n2
      go_wp2
      go_quiet (fail)
      go_wp2
      go_quiet (fail)
      go_wp2_with fail
      refine (indexAny7 _ (by simp; omega) _).mono ?_
      rintro e w3 ⟨rfl, hb3⟩
      have hb4 : Below b w w3 := (below_drewN hb _).trans (hb3.mono (Nat.le_of_lt lt2))
      have HS3 : Hid (Sc w3 b T i ln) := (HR.out.drewN _).below hb3 lt2
      have HW := HV.out
      clear HR hb hb3 c0 c1 c2 c3 f1 f3 lt2 e1 e2 hd HV
      generalize T.extract i T.size = R at *
      obtain ⟨lt3, c0, c1, c2, c3, f1, f3⟩ := HS3.out
      rcases HW with ⟨hw1, hw2⟩ | ⟨hw1, hw2, hw3⟩
      · rw [hw1]
        subst hw2
        clear hw1
        by_cases hne : 0 < R.size
        · have hem : R.toList.isEmpty = false := by
            rw [Lib.toList_data]
            cases hx : R.data.toList with
            | nil => have := Lib.size_eq R; rw [hx, List.length_nil] at this; omega
            | cons _ _ => rfl
          have k0 : (0 : Int) < (R.size : Int) := by omega
          by_cases ho : openIdx R[0] < 0
          · go_wp2_with (go_at_call 22; refine (indexOpens _ _).mono ?_; rintro e w' ⟨rfl, hw⟩; rw [hw])
            go_region_law ((refine step_append_lies _ (by rfl) _ _ _ (by rfl) w3.heap.size 40 i0 _ 3 40 Try.underlying35 hi0 hz0 hz1 hz2 rfl (by omega) (.slice none 0 0) 0 [] (by rfl) (World.ownsRow_nil _ _ _ _) ⟨w3.heap.size, 0, none⟩ 1 1 [.int .i64 ln, .string key, .string R] (by rfl) (by rfl) (World.news_of_block (cs := #[.int .i64 ln, .string key, .string R]) (t := 40) (fr := (0, 0)) (heap_alloc_new w3 _)) (by simp [Value.oneCell']) (by omega) (by unfold maxLen; omega) (by omega) (by simp) (w3.heap.size + 1) (by simp) ?_; intro g cap w1 hown hgrow hat hlt; have s3 : w1.cell? ⟨b, 3, none⟩ = some (.slice none 0 0) := (note_kept hgrow lt3 3).1.trans c3; have s1 : w1.cell? ⟨b, 1, none⟩ = some (.int .i64 (i : Int)) := (note_kept hgrow lt3 1).1.trans c1; have sf : w1.frozen? ⟨b, 3, none⟩ = false := (note_kept hgrow lt3 3).2.trans f3))
            all_goals
              have hfin := note_done (w := w) (T := T) (q := i) hb4 HS3.out hgrow hown (by simpa [Value.ownBlock] using hat)
              clear hown hgrow
              go_wp2
              go_end0
              exact ⟨rfl, hfin.1, .inr ⟨by unfold notes; rw [dif_pos hne]; exact decide_eq_true ho, hfin.2⟩⟩
          · go_wp2_with (go_at_call 22; refine (indexOpens _ _).mono ?_; rintro e w' ⟨rfl, hw⟩; rw [hw])
            go_end0
            exact ⟨rfl, hb4, .inl ⟨by unfold notes; rw [dif_pos hne]; exact decide_eq_false (by omega), HS3.out⟩⟩
        · have hem : R.toList.isEmpty = true := by
            rw [Lib.toList_data]
            cases hx : R.data.toList with
            | nil => rfl
            | cons _ _ => have := Lib.size_eq R; rw [hx, List.length_cons] at this; omega
          go_wp2
          go_end0
          exact ⟨rfl, hb4, .inl ⟨by unfold notes; rw [dif_neg hne], HS3.out⟩⟩
      · rw [hw1]
        have m1 : (V.size : Int) ≤ (R.size : Int) := by omega
        have m0 : (0 : Int) ≤ (V.size : Int) := by omega
        clear hw1
        by_cases hne : 0 < V.size
        · have hem : V.toList.isEmpty = false := by
            rw [Lib.toList_data]
            cases hx : V.data.toList with
            | nil => have := Lib.size_eq V; rw [hx, List.length_nil] at this; omega
            | cons _ _ => rfl
          have k0 : (0 : Int) < (V.size : Int) := by omega
          by_cases ho : openIdx V[0] < 0
          · go_wp2_with (go_at_call 22; refine (indexOpens _ _).mono ?_; rintro e w' ⟨rfl, hw⟩; rw [hw])
            go_region_law ((refine step_append_lies _ (by rfl) _ _ _ (by rfl) w3.heap.size 40 i0 _ 3 40 Try.underlying35 hi0 hz0 hz1 hz2 rfl (by omega) (.slice none 0 0) 0 [] (by rfl) (World.ownsRow_nil _ _ _ _) ⟨w3.heap.size, 0, none⟩ 1 1 [.int .i64 ln, .string key, .string V] (by rfl) (by rfl) (World.news_of_block (cs := #[.int .i64 ln, .string key, .string V]) (t := 40) (fr := (0, 0)) (heap_alloc_new w3 _)) (by simp [Value.oneCell']) (by omega) (by unfold maxLen; omega) (by omega) (by simp) (w3.heap.size + 1) (by simp) ?_; intro g cap w1 hown hgrow hat hlt; have s3 : w1.cell? ⟨b, 3, none⟩ = some (.slice none 0 0) := (note_kept hgrow lt3 3).1.trans c3; have s1 : w1.cell? ⟨b, 1, none⟩ = some (.int .i64 (i : Int)) := (note_kept hgrow lt3 1).1.trans c1; have sf : w1.frozen? ⟨b, 3, none⟩ = false := (note_kept hgrow lt3 3).2.trans f3))
            all_goals
              have hfin := note_done (w := w) (T := T) (q := i) hb4 HS3.out hgrow hown (by simpa [Value.ownBlock] using hat)
              clear hown hgrow
              go_wp2
              go_end0
              exact ⟨rfl, hfin.1, .inr ⟨by unfold notes; rw [dif_pos hne]; exact decide_eq_true ho, hfin.2⟩⟩
          · go_wp2_with (go_at_call 22; refine (indexOpens _ _).mono ?_; rintro e w' ⟨rfl, hw⟩; rw [hw])
            go_end0
            exact ⟨rfl, hb4, .inl ⟨by unfold notes; rw [dif_pos hne]; exact decide_eq_false (by omega), HS3.out⟩⟩
        · have hem : V.toList.isEmpty = true := by
            rw [Lib.toList_data]
            cases hx : V.data.toList with
            | nil => rfl
            | cons _ _ => have := Lib.size_eq V; rw [hx, List.length_cons] at this; omega
          go_wp2
          go_end0
          exact ⟨rfl, hb4, .inl ⟨by unfold notes; rw [dif_neg hne], HS3.out⟩⟩
end Go.Proofs.Qxb6600908a
