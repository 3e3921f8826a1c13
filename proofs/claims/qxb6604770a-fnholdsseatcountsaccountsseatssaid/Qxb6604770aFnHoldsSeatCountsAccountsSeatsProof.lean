/-
  The proof of 'Rows.FnHoldsSeatCountsAccountsSeatsSaid': the given shell, its hole filled by this seat's own walk; all else is the shell's.
-/
import Derived.Test.Qxb6604770aRows
import Derived.Test.Qxb6604770aWalks
import Derived.WalkKit
import Derived.ProofKit
import Derived.OpenShut
import Derived.ShutString
import Derived.ChangeOld
import Derived.Below
namespace Go.Proofs.Qxb6604770a.fnHoldsSeatCountsAccountsSeats
open Go.ChangeShapes Go.WideShapes Go.ChangeAt Go.RowKit
open Go.ChangeMaps (open_string shut_string)
set_option linter.unusedVariables false

theorem own : ownKnob Try.prog.godebug = none := by kernel_rfl
theorem laidOut : laidOutB Try.prog = true := by kernel_rfl

/-- WHAT THE WALK IS TOLD OF A SLICE OF INTEGERS THAT CAME IN: it is nil; or it leads to a row of 'cap' cells, the numbers 'zs' (the first 'len' are its elements, the rest its spare room), each fitting its kind. -/
def IsRow (k : IntKind) (w : World) (a : Option Addr) (len cap : Nat) (zs : List Int) : Prop :=
  (a = none ∧ len = 0 ∧ cap = 0 ∧ zs = []) ∨
  ∃ x, a = some x ∧ len ≤ cap ∧ cap ≤ maxLen ∧ zs.length = cap ∧ (∀ i, i < zs.length → w.cell? (x.add i) = some (.int k (zs.getD i 0))) ∧ ∀ n ∈ zs, (Lit.int k n).wf = true

/-! ### THE WALK -/
/-- How often account stands among the first k numbers. -/
def cnt (zs : List Int) (acc : Int) : Nat → Int
  | 0 => 0
  | k + 1 => cnt zs acc k + if (zs.getD k 0 == acc) = true then 1 else 0
theorem cnt_bd (zs : List Int) (acc : Int) (k : Nat) : 0 ≤ cnt zs acc k ∧ cnt zs acc k ≤ k := by
  induction k with
  | zero => simp [cnt]
  | succ k ih => simp only [cnt]; split <;> omega
theorem cnt_hit (zs : List Int) (acc : Int) (k : Nat) (h : (zs.getD k 0 == acc) = true) : cnt zs acc (k + 1) = cnt zs acc k + 1 := by
  simp only [cnt]; rw [if_pos h]
theorem cnt_miss (zs : List Int) (acc : Int) (k : Nat) (h : (zs.getD k 0 == acc) = false) : cnt zs acc (k + 1) = cnt zs acc k := by
  simp only [cnt]; rw [if_neg (by rw [h]; simp)]; omega

theorem walk_big (a0 : Option Addr) (len0 cap0 : Nat) (a1 : Int) (w : World) (hm : len0 ≤ 9223372036854775807) (h : 65536 < len0) :
    Calls Try.prog 4 #[.slice a0 len0 cap0, .int .u32 a1] w fun e w' => e = .returned (.bool true) ∧ Below w.heap.size w w' := by
  by_cases h2 : 1048576 < len0
  · go_enter Try.func4, Try.ntmps4
    go_wp2
    go_ret
    exact ⟨rfl, Below.refl _ _⟩
  · go_enter Try.func4, Try.ntmps4
    go_wp2
    go_ret
    exact ⟨rfl, Below.refl _ _⟩

theorem walk_nil (a1 : Int) (w : World) :
    Calls Try.prog 4 #[.slice none 0 0, .int .u32 a1] w fun e w' => e = .returned (.bool true) ∧ Below w.heap.size w w' := by
  go_enter Try.func4, Try.ntmps4
  go_wp2_with (first | (go_at_call 6; refine (clone_nil _).mono ?_; rintro e w' ⟨rfl, rfl⟩) | (go_at_call 8; go_in))
  go_loop [5, 6] (fun v i => ∃ k : Nat, k ≤ 2 ∧ v = .int .i64 0 ∧ i = .int .i64 k) (fun _ i => 2 - (intOf i).toNat)
  case atStart => exact ⟨0, by omega, rfl, rfl⟩
  case round =>
    obtain ⟨k, hk, rfl, rfl⟩ := hrel
    by_cases hlt : k ≤ 1
    · go_wp2_with (go_at_call 7; refine (holds_out _ _ _ _ _ _ (by omega) (by omega) (by omega) (by omega)).mono ?_; rintro e w' ⟨rfl, rfl⟩)
      go_round
      case rel => exact ⟨k + 1, by omega, rfl, by go_num⟩
      case measure => simp [intOf]; omega
    · go_wp2_with (go_at_call 7; refine (holds_out _ _ _ _ _ _ (by omega) (by omega) (by omega) (by omega)).mono ?_; rintro e w' ⟨rfl, rfl⟩)
      go_loop [7, 8] (fun v i => v = .int .i64 0 ∧ i = .int .i64 0) (fun _ _ => 0)
      case atStart => exact ⟨rfl, rfl⟩
      case round =>
        obtain ⟨rfl, rfl⟩ := hrel
        go_wp2
        go_ret
        exact ⟨rfl, Below.refl _ _⟩

set_option maxHeartbeats 800000 in
theorem walk_row (b off len cap : Nat) (spot) (zs : List Int) (a1 : Int) (w : World) (hlen : len ≤ 65536) (hz : len ≤ zs.length) (hs : 0 < len → spot = none)
    (hc : ∀ j, j < len → w.cell? ⟨b, off + j, none⟩ = some (.int .u32 (zs.getD j 0))) (hb : 0 < len → b < w.heap.size) :
    Calls Try.prog 4 #[.slice (some ⟨b, off, spot⟩) len cap, .int .u32 a1] w fun e w' => e = .returned (.bool true) ∧ Below w.heap.size w w' := by
  go_enter Try.func4, Try.ntmps4
  go_wp2_with (first | (go_at_call 6; refine (clone_row b off len cap spot zs _ hlen hz hs hc hb).mono ?_; rintro e w1 ⟨rfl, hown, hbel⟩) | (go_at_call 8; go_in))
  have hc1 : ∀ j, j < len → w1.cell? ⟨w.heap.size, j, none⟩ = some (.int .u32 (zs.getD j 0)) := by
    intro j hj
    rw [hown.cellAt j (by omega)]
    simp [hj, List.getD, show j < zs.length by omega]
  have HB : Hid (Below w.heap.size w w1) := hbel
  clear hown hbel hc
  go_loop [5, 6] (fun v i => ∃ k : Nat, k ≤ len + 2 ∧ i = .int .i64 k ∧ v = .int .i64 (cnt zs a1 (min k len))) (fun _ i => len + 2 - (intOf i).toNat)
  case atStart => exact ⟨0, Nat.zero_le _, rfl, by rw [Nat.zero_min]; rfl⟩
  case round =>
    obtain ⟨k, hk, rfl, rfl⟩ := hrel
    have hbd := cnt_bd zs a1 (min k len)
    have hmin : min k len ≤ 65536 := by omega
    by_cases hlt : k < len
    · have hcx := hc1 k hlt
      have H1 := cnt_hit zs a1 k
      have H2 := cnt_miss zs a1 k
      have E0 : Hid (cnt zs a1 (min k len) = cnt zs a1 k) := by show _ = _; rw [Nat.min_eq_left (by omega)]
      have E1 : Hid (cnt zs a1 (min (k + 1) len) = cnt zs a1 (k + 1)) := by show _ = _; rw [Nat.min_eq_left (by omega)]
      clear hc1
      generalize zs.getD k 0 = v at hcx H1 H2
      have fin : ∀ W2 : Int, cnt zs a1 (k + 1) = W2 → Hid (cnt zs a1 (k + 1) = W2) := fun _ h => h
      cases t1 : (v == a1)
      · have HE := fin _ (H2 t1)
        clear H1 H2 fin
        go_wp2_with (go_at_call 7; refine (holds_in _ len len k v a1 _ hlen hlt hcx).mono ?_; rintro e w' ⟨rfl, rfl⟩)
        go_round
        case rel => exact ⟨k + 1, by omega, by go_num, by rw [E1.out, HE.out, E0.out]⟩
        case measure => simp [intOf]; omega
      · have HE := fin _ (H1 t1)
        clear H1 H2 fin
        go_wp2_with (go_at_call 7; refine (holds_in _ len len k v a1 _ hlen hlt hcx).mono ?_; rintro e w' ⟨rfl, rfl⟩)
        go_round
        case rel => exact ⟨k + 1, by omega, by go_num, by rw [E1.out, HE.out, E0.out]⟩
        case measure => simp [intOf]; omega
    · have E0 : Hid (min k len = len) := by show _ = _; omega
      have E1 : Hid (min (k + 1) len = len) := by show _ = _; omega
      by_cases hlt2 : k < len + 2
      · go_wp2_with (go_at_call 7; refine (holds_out _ _ _ _ _ _ (by omega) (by omega) (by omega) (by omega)).mono ?_; rintro e w' ⟨rfl, rfl⟩)
        go_round
        case rel => exact ⟨k + 1, by omega, by go_num, by rw [E1.out, E0.out]⟩
        case measure => simp [intOf]; omega
      · go_wp2_with (go_at_call 7; refine (holds_out _ _ _ _ _ _ (by omega) (by omega) (by omega) (by omega)).mono ?_; rintro e w' ⟨rfl, rfl⟩)
        go_loop [7, 8] (fun v i => ∃ m : Nat, m ≤ len ∧ i = .int .i64 m ∧ v = .int .i64 (cnt zs a1 m)) (fun _ i => len - (intOf i).toNat)
        case atStart => exact ⟨0, Nat.zero_le _, rfl, rfl⟩
        case round =>
          obtain ⟨m, hm, rfl, rfl⟩ := hrel
          have hbm := cnt_bd zs a1 m
          by_cases hml : m < len
          · have hcx := hc1 m hml
            have H1 := cnt_hit zs a1 m
            have H2 := cnt_miss zs a1 m
            clear hc1
            generalize zs.getD m 0 = v at hcx H1 H2
            have fin : ∀ W2 : Int, cnt zs a1 (m + 1) = W2 → Hid (cnt zs a1 (m + 1) = W2) := fun _ h => h
            cases t1 : (v == a1)
            · have HE := fin _ (H2 t1)
              clear H1 H2 fin
              go_wp2
              go_round
              case rel => exact ⟨m + 1, by omega, by go_num, by rw [HE.out]⟩
              case measure => simp [intOf]; omega
            · have HE := fin _ (H1 t1)
              clear H1 H2 fin
              go_wp2
              go_round
              case rel => exact ⟨m + 1, by omega, by go_num, by rw [HE.out]⟩
              case measure => simp [intOf]; omega
          · have hmm : m = len := by omega
            subst hmm
            clear hc1
            go_wp2
            go_ret
            exact ⟨by rw [E0.out]; simp, HB.out⟩

theorem walk (a0 : Option Addr) (len0 cap0 : Nat) (z0 : List Int) (a1 : Int) (w : World) (w0 : IsRow .u32 w a0 len0 cap0 z0) (w1 : (Lit.int .u32 a1).wf = true) :
    Calls Try.prog 4 #[.slice a0 len0 cap0, .int .u32 a1] w fun e w' => e = .returned (.bool true) ∧ Below w.heap.size w w' := by
  rcases w0 with ⟨rfl, rfl, rfl, rfl⟩ | ⟨x, rfl, hl, hm, hz, hcell, hwz⟩
  · exact walk_nil a1 w
  · by_cases hbig : 65536 < len0
    · exact walk_big _ _ _ _ _ (by unfold maxLen at hm; omega) hbig
    · obtain ⟨b, off, spot⟩ := x
      have hs : 0 < len0 → spot = none := fun h => by simpa [Addr.add] using World.cell?_spot (hcell 0 (by omega))
      have hc : ∀ j, j < len0 → w.cell? ⟨b, off + j, none⟩ = some (.int .u32 (z0.getD j 0)) := fun j hj => by
        obtain rfl := hs (by omega)
        rw [← add_plain]; exact hcell j (by omega)
      exact walk_row b off len0 cap0 spot z0 a1 w (by omega) (by omega) hs hc (fun h => World.block_lt_of_cell? w _ (hc 0 h))

/-! ### THE ROW's STEP: WRITTEN OUT: LEAVE IT -/
set_option maxRecDepth 100000 in
theorem lifted (os : Os) (started : os.Started) (H : Type) (enc : TypeId × Value → H) :
    ReturnsInHanded {} Try.checked os 4 .any (Rows.fnHoldsSeatCountsAccountsSeatsSpec.pre6 enc Try.prog Try.f4 Rows.fnHoldsSeatCountsAccountsSeatsRow.domain false) (Rows.fnHoldsSeatCountsAccountsSeatsSpec.post enc Try.prog Try.f4 false true false false) := by
  refine returnsInHanded_of_change (C := Try.checked) own started (by kernel_rfl) Try.func4
    (ChangeSpec.witness6 (enc := enc) (C := Try.checked) false ⟨#[], #[.slice none 0 0, .int .u32 0], []⟩ 8 (by kernel_rfl) (by kernel_rfl) (by kernel_rfl) (by kernel_rfl)) ?_
  intro W base args ds gs before hval0 hW hcnd _
  have hval : ∀ (j : Nat) t v, Try.f4.params[j]? = some t → args[j]? = some v → Value.okWide Try.prog W .any base t v := hval0
  have hW' := hW
  obtain ⟨p, q, hA0, hV, rfl, hfz, hnd⟩ := hW
  have hA : DataW.TrodAll enc Try.prog W 0 (fun _ => true) true Try.f4.params.toList args.toList ds p := hA0
  rw [Try.params4] at hA hval
  obtain ⟨v0, vs0, d0, ds0, p0, q0, hargs, rfl, rfl, h0, r0⟩ := trodAll_cons hA
  obtain ⟨v1, vs1, d1, ds1, p1, q1, rfl, rfl, rfl, h1, r1⟩ := trodAll_cons r0
  obtain ⟨rfl, rfl, rfl⟩ := trodAll_nil r1
  obtain rfl : args = #[v0, v1] := by cases args; simp_all
  obtain ⟨rfl, rfl⟩ := trodVars_none hV
  obtain ⟨a0, len0, cap0, rfl⟩ := okWide_slice Try.underlying22 (hval 0 22 v0 rfl rfl)
  have k0 := h0
  have lt0 : ∀ x ∈ p0, x.block < W.heap.size := by obtain ⟨m, hm⟩ := k0; exact DataW.trod_lt m _ _ _ hm
  obtain ⟨z0, w0⟩ : ∃ zs, IsRow .u32 W a0 len0 cap0 zs := by
    obtain ⟨fuel, hf⟩ := h0
    rcases open_ints Try.underlying22 Try.underlying23 (by kernel_rfl) hf with ⟨hcs, _⟩ | ⟨x, l, c, zs, hcs, _, hl, hm, hz, _, hcell, hwz⟩
    · simp [Value.cells] at hcs
      obtain ⟨rfl, rfl, rfl⟩ := hcs
      exact ⟨[], .inl ⟨rfl, rfl, rfl, rfl⟩⟩
    · simp [Value.cells] at hcs
      obtain ⟨rfl, rfl, rfl⟩ := hcs
      exact ⟨zs, .inr ⟨_, rfl, hl, hm, by simpa using hz, hcell, hwz⟩⟩
  obtain ⟨a1, rfl, rfl, rfl, w1⟩ := open_int Try.underlying23 (hval 1 23 v1 rfl rfl) h1
  clear hA0 hval0
  refine (walk a0 len0 cap0 z0 a1 W w0 w1).mono fun e W' ⟨he, bel⟩ => ?_
  subst he
  exact ⟨_, rfl, _, _, _, [], _, [], hW', trodAll_mk1 (shut_bool Try.underlying4 _), (trodAll_cons_mk (Below.trod laidOut (by kernel_rfl) (of_decide_eq_true (by kernel_rfl)) k0 bel lt0) (trodAll_cons_mk (shut_int Try.underlying23 w1) trodAll_mk0)), rfl, bel.frame _, fun h => by cases h⟩

theorem over : Rows.fnHoldsSeatCountsAccountsSeatsRow.holds Try.pinned (OpenSpec.ofChange Rows.fnHoldsSeatCountsAccountsSeatsSpec) :=
  OpenClaim.holds_of_wide 4 Try.f4 rfl rfl rfl rfl rfl rfl rfl ⟨rfl, rfl, rfl, rfl, rfl⟩ rfl rfl rfl rfl rfl (by kernel_rfl) Try.func4 (by kernel_rfl)
    (of_decide_eq_true (by kernel_rfl)) (by unfold Func.isWrapper; first | (rw [if_pos (by decide +kernel)]; kernel_rfl) | (rw [if_neg (by decide +kernel)]; exact ⟨rfl, rfl⟩))
    (fun os started H enc _ => lifted os started H enc)

/-- ████ THE STATEMENT ████ -/
theorem proved : Rows.FnHoldsSeatCountsAccountsSeatsSaid := over
end Go.Proofs.Qxb6604770a.fnHoldsSeatCountsAccountsSeats
namespace Go.Proofs.Qxb6604770a
theorem fnHoldsSeatCountsAccountsSeats_proved : Rows.FnHoldsSeatCountsAccountsSeatsSaid := fnHoldsSeatCountsAccountsSeats.proved
end Go.Proofs.Qxb6604770a
