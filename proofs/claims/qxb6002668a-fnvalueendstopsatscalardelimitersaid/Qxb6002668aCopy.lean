/-
  Seat b6002668a (flumeward): the walk of zzcopyBytes: a copy of its own of whatever bytes came in.
-/
import Derived.Test.Qxb6002668aOwn
namespace Go.Proofs.Qxb6002668a
open Go.RowKit

theorem copy_nil (w : World) :
    Calls Try.prog 14 #[.slice none 0 0] w fun e w' => e = .returned (.slice none 0 0) ∧ w' = w := by
  have q23 : ∀ (w : World) (a : Option Addr) (n c n' c' : Nat), (binOp .eql 23 (.slice a n c) (.slice none n' c')).run Try.prog w = .ok (.bool a.isNone) w := fun w a n c n' c' => Lib.run_eql_slice_nil w _ _ a n c n' c' Try.underlying23
  go_enter Try.func14, Try.ntmps14
  go_wp2
  go_ret
  exact ⟨rfl, rfl⟩

/-- What has been copied so far: the first k numbers, zeros behind them. -/
def part (zs : List Int) (len k : Nat) : List Value := ((zs.take k).map (Value.int .u8)) ++ List.replicate (len - k) (.int .u8 0)

theorem part_zero (zs : List Int) (len : Nat) : part zs len 0 = List.replicate len (.int .u8 0) := by simp [part]
theorem part_len (zs : List Int) (len k : Nat) (hk : k ≤ len) (hz : len ≤ zs.length) : (part zs len k).length = len := by
  simp [part]; omega
theorem part_full (zs : List Int) (len : Nat) : part zs len len = (zs.take len).map (Value.int .u8) := by simp [part]
theorem part_set (zs : List Int) (len k : Nat) (hk : k < len) (hz : len ≤ zs.length) : (part zs len k).set k (.int .u8 (zs.getD k 0)) = part zs len (k + 1) := by
  have hl : ((zs.take k).map (Value.int .u8)).length = k := by simp; omega
  have e1 : List.replicate (len - k) (Value.int .u8 0) = .int .u8 0 :: List.replicate (len - (k + 1)) (.int .u8 0) := by
    rw [show len - k = (len - (k + 1)) + 1 by omega, List.replicate_succ]
  unfold part
  rw [e1, List.set_append_right _ _ (by omega), hl, Nat.sub_self, List.set_cons_zero, take_snoc zs k (by omega)]
  simp

theorem copy_row (b off len cap : Nat) (spot) (zs : List Int) (w : World) (hlen : len ≤ 1048576) (hz : len ≤ zs.length) (hs : 0 < len → spot = none)
    (hc : ∀ j, j < len → w.cell? ⟨b, off + j, none⟩ = some (.int .u8 (zs.getD j 0))) (hb : 0 < len → b < w.heap.size) :
    Calls Try.prog 14 #[.slice (some ⟨b, off, spot⟩) len cap] w fun e w' => e = .returned (.slice (some ⟨w.heap.size, 0, none⟩) len len) ∧
      w'.ownsRow w.heap.size 5 1 (.slice (some ⟨w.heap.size, 0, none⟩) len len) len ((zs.take len).map (Value.int .u8)) ∧ Below w.heap.size w w' := by
  have q23 : ∀ (w : World) (a : Option Addr) (n c n' c' : Nat), (binOp .eql 23 (.slice a n c) (.slice none n' c')).run Try.prog w = .ok (.bool a.isNone) w := fun w a n c n' c' => Lib.run_eql_slice_nil w _ _ a n c n' c' Try.underlying23
  obtain ⟨i0, hi, hz0, hz1, hz2⟩ := info_parts Try.info5
  go_enter Try.func14, Try.ntmps14
  go_wp2_with (at_make; refine wpList_make_full _ rfl _ _ 23 rfl w.heap.size 5 i0 (.int .u8 0) 1 Try.underlying23 hi hz0 hz1 _ _ _ _ len rfl rfl rfl rfl ?b2 ?b3 ?b4 ?_)
  case b2 => rw [hz2]; omega
  case b3 => unfold maxLen; omega
  case b4 => exact Nat.le_refl _
  intro w1 hown1 hg1
  have hown0 : w1.ownsRow w.heap.size 5 1 (.slice (some ⟨w.heap.size, 0, none⟩) len len) len (part zs len 0) := by
    rw [part_zero]
    rw [← toList_madeCells_one]; exact hown1
  have hbel1 : Below w.heap.size w w1 := (Below.refl _ _).grown hg1 (Nat.le_refl _) (fun k h => by cases h)
  clear hown1 hg1 hi hz0 hz1 hz2
  go_wp2
  go_loopw [4] (fun i wr => ∃ k : Nat, k ≤ len ∧ i = .int .i64 k ∧ wr.ownsRow w.heap.size 5 1 (.slice (some ⟨w.heap.size, 0, none⟩) len len) len (part zs len k) ∧ Below w.heap.size w wr)
    (fun i _ => len - (intOf i).toNat)
  case atStart => exact ⟨0, Nat.zero_le _, rfl, hown0, hbel1⟩
  case round =>
    obtain ⟨k, hk, rfl, hown, hbel⟩ := hrel
    by_cases hlt : k < len
    · obtain rfl := hs (by omega)
      have hcx : wr.cell? ⟨b, off + k, none⟩ = some (.int .u8 (zs.getD k 0)) := (hbel.cell (by exact hb (by omega))).trans (hc k hlt)
      have hfz : wr.frozen? ⟨w.heap.size, k, none⟩ = false := hown.frozenAt k
      obtain ⟨u0, hu0⟩ : ∃ u0, wr.cell? ⟨w.heap.size, k, none⟩ = some u0 := by
        rw [hown.cellAt k (by omega)]
        exact ⟨_, List.getElem?_eq_getElem (by rw [part_len zs len k hk hz]; exact hlt)⟩
      have hst := hown.stored k (.int .u8 (zs.getD k 0))
      rw [part_set zs len k hlt hz] at hst
      have HR : Hid ((wr.setCell ⟨w.heap.size, k, none⟩ (.int .u8 (zs.getD k 0))).ownsRow w.heap.size 5 1 (.slice (some ⟨w.heap.size, 0, none⟩) len len) len (part zs len (k + 1))) := hst.1
      have HB : Hid (Below w.heap.size w (wr.setCell ⟨w.heap.size, k, none⟩ (.int .u8 (zs.getD k 0)))) := hbel.setCell (Nat.le_refl _) _
      clear hst hown hbel hc hown0 hbel1
      go_wp2
      go_roundw
      case rel => exact ⟨k + 1, by omega, by go_num, HR.out, HB.out⟩
      case measure => simp [intOf]; omega
    · have hkl : k = len := by omega
      subst hkl
      go_wp2
      go_ret
      exact ⟨rfl, by rw [← part_full]; exact hown, hbel⟩

/-- What the walk is told of bytes that came in (the shells' 'IsRow' at u8). -/
def Came (w : World) (a : Option Addr) (len cap : Nat) (zs : List Int) : Prop :=
  (a = none ∧ len = 0 ∧ cap = 0 ∧ zs = []) ∨
  ∃ x, a = some x ∧ len ≤ cap ∧ cap ≤ maxLen ∧ zs.length = cap ∧ (∀ i, i < zs.length → w.cell? (x.add i) = some (.int .u8 (zs.getD i 0))) ∧ ∀ n ∈ zs, (Lit.int .u8 n).wf = true

theorem Came.len {w : World} {a : Option Addr} {len cap : Nat} {zs : List Int} (h : Came w a len cap zs) : len ≤ zs.length ∧ len ≤ 9223372036854775807 := by
  rcases h with ⟨_, rfl, _, rfl⟩ | ⟨x, _, h1, h2, h3, _⟩
  · simp
  · unfold maxLen at h2; omega

/-- An element that came in lies in old memory. -/
theorem Came.cell {w : World} {a : Option Addr} {len cap : Nat} {zs : List Int} (h : Came w a len cap zs) (hl : 0 < len) :
    ∃ b off, a = some ⟨b, off, none⟩ ∧ b < w.heap.size ∧ ∀ j, j < len → w.cell? ⟨b, off + j, none⟩ = some (.int .u8 (zs.getD j 0)) := by
  rcases h with ⟨_, rfl, _, rfl⟩ | ⟨⟨b, off, spot⟩, rfl, h1, h2, h3, hcell, _⟩
  · omega
  · have hs : spot = none := by simpa [Addr.add] using World.cell?_spot (hcell 0 (by omega))
    subst hs
    have hc : ∀ j, j < len → w.cell? ⟨b, off + j, none⟩ = some (.int .u8 (zs.getD j 0)) := fun j hj => by
      rw [← Go.WideShapes.add_plain]; exact hcell j (by omega)
    exact ⟨b, off, rfl, World.block_lt_of_cell? w _ (hc 0 hl), hc⟩

theorem Came.later {w w' : World} {a : Option Addr} {len cap : Nat} {zs : List Int} (h : Came w a len cap zs) (hb : Below w.heap.size w w') : Came w' a len cap zs := by
  rcases h with h | ⟨x, rfl, h1, h2, h3, hcell, h4⟩
  · exact .inl h
  · exact .inr ⟨x, rfl, h1, h2, h3, fun i hi => (hb.cell (World.block_lt_of_cell? w _ (hcell i hi))).trans (hcell i hi), h4⟩

/-- zzcopyBytes: a copy of its own. -/
theorem copy_any (a : Option Addr) (len cap : Nat) (zs : List Int) (w : World) (hc : Came w a len cap zs) (hlen : len ≤ 1048576) :
    Calls Try.prog 14 #[.slice a len cap] w fun e w' => ∃ a' cap', e = .returned (.slice a' len cap') ∧ Holds w' a' len cap' (zs.take len) ∧ Below w.heap.size w w' := by
  have hl := hc.len
  rcases hc with ⟨rfl, rfl, rfl, rfl⟩ | ⟨⟨b, off, spot⟩, rfl, h1, h2, h3, hcell, _⟩
  · refine (copy_nil w).mono fun e w' ⟨he, hw⟩ => ⟨none, 0, he, ?_, ?_⟩
    · exact Holds.nil _
    · rw [hw]; exact Below.refl _ _
  · have hs : 0 < len → spot = none := fun h => by simpa [Addr.add] using World.cell?_spot (hcell 0 (by omega))
    have hc : ∀ j, j < len → w.cell? ⟨b, off + j, none⟩ = some (.int .u8 (zs.getD j 0)) := fun j hj => by
      obtain rfl := hs (by omega)
      rw [← Go.WideShapes.add_plain]; exact hcell j (by omega)
    refine (copy_row b off len cap spot zs w hlen hl.1 hs hc (fun h => World.block_lt_of_cell? w _ (hc 0 h))).mono fun e w' ⟨he, hown, hbel⟩ => ⟨_, _, he, ⟨by simp; omega, ?_⟩, hbel⟩
    obtain ⟨o1, o2⟩ := hown
    refine ⟨o1, ?_⟩
    rcases o2 with o2 | ⟨g, c, cur, hv, _, r⟩
    · exact .inl o2
    · exact .inr ⟨g, c, cur, hv, Nat.zero_le _, r⟩

end Go.Proofs.Qxb6002668a
