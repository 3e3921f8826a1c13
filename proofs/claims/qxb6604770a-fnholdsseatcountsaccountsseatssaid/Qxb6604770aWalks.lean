/-
  Seat b6604770a (greylot): the walks that both laws share: zzCloneU32, ZZholdsSeat (through holdsSeat), the two length checks.
-/
import Derived.Test.Qxb6604770aRows
import Derived.WalkKit
import Derived.WalkSpells
import Derived.ProofKit
import Derived.Below
namespace Go.Proofs.Qxb6604770a
open Go.RowKit

theorem Try.info23 : (Try.prog.info? 23).map (fun i => (i.zero, i.size, i.bytes)) = some (some (.int .u32 0), 1, 4) := by kernel_rfl

/-- A copy of nil is nil. -/
theorem clone_nil (w : World) :
    Calls Try.prog 6 #[.slice none 0 0] w fun e w' => e = .returned (.slice none 0 0) ∧ w' = w := by
  have q22 : ∀ (w : World) (a : Option Addr) (n c n' c' : Nat), (binOp .eql 22 (.slice a n c) (.slice none n' c')).run Try.prog w = .ok (.bool a.isNone) w := fun w a n c n' c' => Lib.run_eql_slice_nil w _ _ a n c n' c' Try.underlying22
  go_enter Try.func6, Try.ntmps6
  go_wp2
  go_ret
  exact ⟨rfl, rfl⟩

/-- What has been copied so far: the first k numbers, zeros behind them. -/
def part (zs : List Int) (len k : Nat) : List Value := ((zs.take k).map (Value.int .u32)) ++ List.replicate (len - k) (.int .u32 0)

theorem part_zero (zs : List Int) (len : Nat) : part zs len 0 = List.replicate len (.int .u32 0) := by simp [part]
theorem part_len (zs : List Int) (len k : Nat) (hk : k ≤ len) (hz : len ≤ zs.length) : (part zs len k).length = len := by
  simp [part]; omega
theorem part_full (zs : List Int) (len : Nat) : part zs len len = (zs.take len).map (Value.int .u32) := by simp [part]
theorem part_set (zs : List Int) (len k : Nat) (hk : k < len) (hz : len ≤ zs.length) : (part zs len k).set k (.int .u32 (zs.getD k 0)) = part zs len (k + 1) := by
  have hl : ((zs.take k).map (Value.int .u32)).length = k := by simp; omega
  have e1 : List.replicate (len - k) (Value.int .u32 0) = .int .u32 0 :: List.replicate (len - (k + 1)) (.int .u32 0) := by
    rw [show len - k = (len - (k + 1)) + 1 by omega, List.replicate_succ]
  have e2 : zs.take (k + 1) = zs.take k ++ [zs.getD k 0] := by
    rw [List.take_succ_eq_append_getElem (by omega)]
    simp [List.getD, show k < zs.length by omega]
  unfold part
  rw [e1, List.set_append_right _ _ (by omega), hl, Nat.sub_self, List.set_cons_zero, e2]
  simp

/-- A copy of a row: a new row of the same numbers. -/
theorem clone_row (b off len cap : Nat) (spot) (zs : List Int) (w : World) (hlen : len ≤ 65536) (hz : len ≤ zs.length) (hs : 0 < len → spot = none)
    (hc : ∀ j, j < len → w.cell? ⟨b, off + j, none⟩ = some (.int .u32 (zs.getD j 0))) (hb : 0 < len → b < w.heap.size) :
    Calls Try.prog 6 #[.slice (some ⟨b, off, spot⟩) len cap] w fun e w' => e = .returned (.slice (some ⟨w.heap.size, 0, none⟩) len len) ∧
      w'.ownsRow w.heap.size 23 1 (.slice (some ⟨w.heap.size, 0, none⟩) len len) len ((zs.take len).map (Value.int .u32)) ∧ Below w.heap.size w w' := by
  have q22 : ∀ (w : World) (a : Option Addr) (n c n' c' : Nat), (binOp .eql 22 (.slice a n c) (.slice none n' c')).run Try.prog w = .ok (.bool a.isNone) w := fun w a n c n' c' => Lib.run_eql_slice_nil w _ _ a n c n' c' Try.underlying22
  obtain ⟨i0, hi, hz0, hz1, hz2⟩ := info_parts Try.info23
  go_enter Try.func6, Try.ntmps6
  go_wp2_with (at_make; refine wpList_make_full _ rfl _ _ 22 rfl w.heap.size 23 i0 (.int .u32 0) 1 Try.underlying22 hi hz0 hz1 _ _ _ _ len rfl rfl rfl rfl ?b2 ?b3 ?b4 ?_)
  case b2 => rw [hz2]; omega
  case b3 => unfold maxLen; omega
  case b4 => exact Nat.le_refl _
  intro w1 hown1 hg1
  have hown0 : w1.ownsRow w.heap.size 23 1 (.slice (some ⟨w.heap.size, 0, none⟩) len len) len (part zs len 0) := by
    rw [part_zero]
    rw [← toList_madeCells_one]; exact hown1
  have hbel1 : Below w.heap.size w w1 := (Below.refl _ _).grown hg1 (Nat.le_refl _) (fun k h => by cases h)
  clear hown1 hg1 hi hz0 hz1 hz2
  go_wp2
  go_loopw [4] (fun i wr => ∃ k : Nat, k ≤ len ∧ i = .int .i64 k ∧ wr.ownsRow w.heap.size 23 1 (.slice (some ⟨w.heap.size, 0, none⟩) len len) len (part zs len k) ∧ Below w.heap.size w wr)
    (fun i _ => len - (intOf i).toNat)
  case atStart => exact ⟨0, Nat.zero_le _, rfl, hown0, hbel1⟩
  case round =>
    obtain ⟨k, hk, rfl, hown, hbel⟩ := hrel
    by_cases hlt : k < len
    · obtain rfl := hs (by omega)
      have hcx : wr.cell? ⟨b, off + k, none⟩ = some (.int .u32 (zs.getD k 0)) := (hbel.cell (by exact hb (by omega))).trans (hc k hlt)
      have hfz : wr.frozen? ⟨w.heap.size, k, none⟩ = false := hown.frozenAt k
      obtain ⟨u0, hu0⟩ : ∃ u0, wr.cell? ⟨w.heap.size, k, none⟩ = some u0 := by
        rw [hown.cellAt k (by omega)]
        exact ⟨_, List.getElem?_eq_getElem (by rw [part_len zs len k hk hz]; exact hlt)⟩
      have hst := hown.stored k (.int .u32 (zs.getD k 0))
      rw [part_set zs len k hlt hz] at hst
      have HR : Hid ((wr.setCell ⟨w.heap.size, k, none⟩ (.int .u32 (zs.getD k 0))).ownsRow w.heap.size 23 1 (.slice (some ⟨w.heap.size, 0, none⟩) len len) len (part zs len (k + 1))) := hst.1
      have HB : Hid (Below w.heap.size w (wr.setCell ⟨w.heap.size, k, none⟩ (.int .u32 (zs.getD k 0)))) := hbel.setCell (Nat.le_refl _) _
      clear hst hown hbel hc hown0 hbel1
      go_wp2
      go_roundw
      case rel => exact ⟨k + 1, by omega, by go_num, HR.out, HB.out⟩
      case measure => simp [intOf]; omega
    · have hkl : k = len := by omega
      subst hkl
      go_wp2
      go_ret
      exact ⟨rfl, by rw [← part_full]; exact hown, hbel⟩

/-- A seat behind the list's end: nobody's. -/
theorem holds_out (a : Option Addr) (n c : Nat) (seat acc : Int) (w : World) (h0 : 0 ≤ seat) (h1 : seat ≤ 4294967295) (hn : n ≤ 65536) (hout : (n : Int) ≤ seat) :
    Calls Try.prog 7 #[.slice a n c, .int .u32 seat, .int .u32 acc] w fun e w' => e = .returned (.bool false) ∧ w' = w := by
  go_enter Try.func7, Try.ntmps7
  go_wp2
  go_ret
  exact ⟨rfl, rfl⟩

/-- A seat of the list: its account's. -/
theorem holds_in (b n c k : Nat) (v acc : Int) (w : World) (hn : n ≤ 65536) (hk : k < n) (hc : w.cell? ⟨b, k, none⟩ = some (.int .u32 v)) :
    Calls Try.prog 7 #[.slice (some ⟨b, 0, none⟩) n c, .int .u32 k, .int .u32 acc] w fun e w' => e = .returned (.bool (v == acc)) ∧ w' = w := by
  go_enter Try.func7, Try.ntmps7
  go_wp2
  go_ret
  exact ⟨rfl, rfl⟩
end Go.Proofs.Qxb6604770a
