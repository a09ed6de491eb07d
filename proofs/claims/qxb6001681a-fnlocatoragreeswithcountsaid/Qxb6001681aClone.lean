/-
  THE WALKS OF 'cloneInts' (function 8), 'countPlace' (12), '(*Locator).Grow' (10) and the bound on lengths (7).
-/
import Derived.Test.Qxb6001681aRows
import Derived.Test.Qxb6001681aPlace
import Derived.WalkKit
import Derived.ProofKit
import Derived.OpenShut
import Derived.WalkSpells
import Derived.HandedShaped
namespace Go.Proofs.Qxb6001681a
open Go.ChangeShapes Go.WideShapes Go.ChangeAt Go.RowKit

/-- Block B holds n whole numbers, which may be written. -/
def IntRow (w : World) (B n : Nat) : Prop := B < w.heap.size ∧ ∀ j, j < n → (∃ z : Int, w.cell? ⟨B, j, none⟩ = some (.int .i64 z)) ∧ w.frozen? ⟨B, j, none⟩ = false

theorem IntRow.set {w : World} {B n : Nat} (h : IntRow w B n) (a : Addr) (z : Int) : IntRow (w.setCell a (.int .i64 z)) B n :=
  ⟨by have := h.1; simpa [World.setCell] using this, fun j hj => ⟨someInt_setCell (h.2 j hj).1 a z, by rw [World.frozen?_setCell]; exact (h.2 j hj).2⟩⟩

theorem IntRow.below {w w' : World} {B n C : Nat} (h : IntRow w B n) (hb : Below C w w') (hC : B < C) : IntRow w' B n :=
  ⟨Nat.lt_of_lt_of_le h.1 hb.size, fun j hj => ⟨by rw [hb.cell (p := ⟨B, j, none⟩) hC]; exact (h.2 j hj).1, by rw [hb.frozen (p := ⟨B, j, none⟩) hC]; exact (h.2 j hj).2⟩⟩

theorem IntRow.of_owns {w : World} {base g n : Nat} (h : w.ownsRow base 3 1 (.slice (some ⟨g, 0, none⟩) n n) n (madeCells #[Value.int .i64 0] n).toList) : IntRow w g n := by
  refine ⟨(h.lt g rfl).2, fun j hj => ⟨⟨0, ?_⟩, h.frozenAt j⟩⟩
  rw [h.cellAt j (by omega)]
  rw [toList_madeCells_one, List.getElem?_replicate, if_pos (by omega)]

theorem Try.info3 : (Try.prog.info? 3).map (fun i => (i.zero, i.size, i.bytes)) = some (some (.int .i64 0), 1, 8) := by kernel_rfl

theorem clone_nil (w : World) :
    Calls Try.prog 8 #[.slice none 0 0] w fun e w' => e = .returned (.slice none 0 0) ∧ w' = w := by
  have hnil := fun wx => Lib.run_eql_slice_nil (P := Try.prog) wx 22 3 none 0 0 0 0 Try.underlying22
  go_enter Try.func8, Try.ntmps8
  go_wp2
  go_ret
  exact ⟨rfl, rfl⟩

set_option maxHeartbeats 1000000 in
theorem clone_some (w : World) (x : Addr) (len cap : Nat) (zs : List Int) (hlen : len ≤ 1048576) (hl : len ≤ zs.length)
    (hc : ∀ i, i < zs.length → w.cell? (x.add i) = some (.int .i64 (zs.getD i 0))) :
    Calls Try.prog 8 #[.slice (some x) len cap] w fun e w' => e = .returned (.slice (some ⟨w.heap.size, 0, none⟩) len len) ∧ Below w.heap.size w w' ∧ IntRow w' w.heap.size len := by
  have hnil := fun wx => Lib.run_eql_slice_nil (P := Try.prog) wx 22 3 (some x) len cap 0 0 Try.underlying22
  obtain ⟨i0, hi, hz0, hz1, hz2⟩ := info_parts Try.info3
  go_enter Try.func8, Try.ntmps8
  go_wp2_with (at_make; refine wpList_make_full _ rfl _ _ 22 rfl w.heap.size 3 i0 (.int .i64 0) 1 Try.underlying22 hi hz0 hz1 .i64 .i64 _ _ len rfl rfl rfl rfl ?b2 ?b3 (Nat.le_refl _) ?_)
  case b2 => rw [hz2]; omega
  case b3 => unfold maxLen; omega
  intro w1 hown hgrow
  have hrow := IntRow.of_owns hown
  have hbel : Below w.heap.size w w1 := (Below.refl _ _).grown hgrow (Nat.le_refl _) (fun k hk => by cases hk)
  clear hown hgrow hi hz0 hz1 hz2 hnil
  have HR : Hid _ := hrow
  have HC : Hid _ := hc
  clear hrow hc
  go_wp2
  go_loopw [4] (fun i wr => ∃ k : Nat, k ≤ len ∧ i = .int .i64 (k : Int) ∧ Hid (IntRow wr w.heap.size len) ∧ Below w.heap.size w wr) (fun i _ => len - (intOf i).toNat)
  case atStart => exact ⟨0, Nat.zero_le _, rfl, HR.out, hbel⟩
  case round =>
    obtain ⟨k, hk, rfl, HI, hb⟩ := hrel
    by_cases hlt : k < len
    · obtain ⟨⟨z, hz⟩, hf⟩ := HI.out.2 k hlt
      obtain ⟨b, off, hx, hcs⟩ := ints_at HC.out (by omega)
      have hcx := hcs k (by omega)
      have hbl : b < w.heap.size := World.block_lt_of_cell? _ _ hcx
      have hcy : wr.cell? ⟨b, off + k, none⟩ = some (.int .i64 (zs.getD k 0)) := (hb.cell (p := ⟨b, off + k, none⟩) hbl).trans hcx
      subst hx
      clear hcs hcx
      go_wp2
      go_roundw
      case rel => exact ⟨k + 1, by omega, by go_num, HI.out.set _ _, hb.setCell (Nat.le_refl _) _⟩
      case measure => simp [intOf]; omega
    · go_wp2
      go_ret
      obtain rfl : k = len := by omega
      exact ⟨rfl, hb, HI.out⟩

theorem countPlace (s : ByteArray) (p : Nat) (w : World) (hp : p ≤ s.size) (hs : s.size ≤ 2097152) :
    Calls Try.prog 12 #[.string s, .int .i64 (p : Int)] w fun e w' => e = .returned (.tuple #[.int .i64 (Pl.lineAt s.data.toList p : Int), .int .i64 ((p : Int) - (Pl.st s.data.toList p : Int) + 1)]) ∧ w' = w := by
  go_enter Try.func12, Try.ntmps12
  go_wp2
  go_loop [6, 7, 8] (fun n t i => ∃ k : Nat, k ≤ p ∧ i = .int .i64 (k : Int) ∧ n = .int .i64 (Pl.lineAt s.data.toList k : Int) ∧ t = .int .i64 (Pl.st s.data.toList k : Int)) (fun _ _ i => p - (intOf i).toNat)
  case atStart => exact ⟨0, Nat.zero_le _, rfl, rfl, rfl⟩
  case round =>
    obtain ⟨k, hk, rfl, rfl, rfl⟩ := hrel
    have hb := Pl.line_bd s.data.toList k
    have hb2 := Pl.st_le s.data.toList k
    by_cases hlt : k < p
    · have hks : k < s.size := by omega
      have hg := Pl.nlAt_get s k hks
      cases hnl : Pl.nlAt s.data.toList k
      · have Hn : Hid _ := Pl.lineAt_no hnl
        have Ht : Hid _ := Pl.st_no hnl
        rw [hnl] at hg
        have hg' : ((s[k].toNat : Int) == 10) = false := hg.symm
        clear hg hnl
        go_wp2
        go_round
        case rel => exact ⟨k + 1, by omega, by go_num, by rw [Hn.out], by rw [Ht.out]⟩
        case measure => simp [intOf]; omega
      · have Hn : Hid _ := Pl.lineAt_yes hnl
        have Ht : Hid _ := Pl.st_yes hnl
        rw [hnl] at hg
        have hg' : ((s[k].toNat : Int) == 10) = true := hg.symm
        clear hg hnl
        go_wp2
        go_round
        case rel => exact ⟨k + 1, by omega, by go_num, by rw [Hn.out]; go_num, by rw [Ht.out]; go_num⟩
        case measure => simp [intOf]; omega
    · obtain rfl : k = p := by omega
      go_wp2
      go_ret2
      exact ⟨rfl, rfl⟩

theorem grow (b : Nat) (s t : ByteArray) (w : World) (c0 : w.cell? ⟨b, 0, none⟩ = some (.string s)) (f0 : w.frozen? ⟨b, 0, none⟩ = false) :
    Calls Try.prog 10 #[.pointer (some ⟨b, 0, none⟩), .string t] w fun e w' => e = .returned (.tuple #[]) ∧ w' = w.setCell ⟨b, 0, none⟩ (.string t) := by
  go_enter Try.func10, Try.ntmps10
  go_wp2
  go_end0
  exact ⟨rfl, rfl⟩

theorem zzBytes7 (s t : ByteArray) (a : Option Addr) (len cap : Nat) (g : Int) (w : World) (h : s.size + t.size + len ≤ 1048576) :
    Calls Try.prog 7 #[.string s, .string t, .slice a len cap, .int .i64 g] w fun e w' => e = .returned (.bool true) ∧ w' = w := by
  go_enter Try.func7, Try.ntmps7
  go_wp2
  go_ret
  exact ⟨rfl, rfl⟩

theorem zzBytes7_no (s t : ByteArray) (a : Option Addr) (len cap : Nat) (g : Int) (w : World) (h : 1048576 < s.size + t.size + len) (h1 : s.size ≤ maxLen) (h2 : t.size ≤ maxLen) (h3 : len ≤ maxLen) :
    Calls Try.prog 7 #[.string s, .string t, .slice a len cap, .int .i64 g] w fun e w' => e = .returned (.bool false) ∧ w' = w := by
  unfold maxLen at h1 h2 h3
  by_cases c1 : (1048576 : Int) < (s.size : Int)
  · go_enter Try.func7, Try.ntmps7
    go_wp2
    go_ret
    exact ⟨rfl, rfl⟩
  · by_cases c2 : (1048576 : Int) < (t.size : Int)
    · go_enter Try.func7, Try.ntmps7
      go_wp2
      go_ret
      exact ⟨rfl, rfl⟩
    · by_cases c3 : (1048576 : Int) < (s.size : Int) + (t.size : Int)
      · go_enter Try.func7, Try.ntmps7
        go_wp2
        go_ret
        exact ⟨rfl, rfl⟩
      · by_cases c4 : (1048576 : Int) < (len : Int)
        · go_enter Try.func7, Try.ntmps7
          go_wp2
          go_ret
          exact ⟨rfl, rfl⟩
        · have c5 : (1048576 : Int) < (s.size : Int) + (t.size : Int) + (len : Int) := by omega
          go_enter Try.func7, Try.ntmps7
          go_wp2
          go_ret
          exact ⟨rfl, rfl⟩
end Go.Proofs.Qxb6001681a
