/-
  The proof of 'Rows.FnHoldsSeatMeansSeatAmongAccountsSeatsSaid': the given shell, its hole filled by this seat's own walk; all else is the shell's.
-/
import Derived.Test.Qxb6604770aRows
import Derived.Test.Qxb6604770aWalks
import Derived.WalkKit
import Derived.ProofKit
import Derived.OpenShut
import Derived.ShutString
import Derived.ChangeOld
import Derived.Below
namespace Go.Proofs.Qxb6604770a.fnHoldsSeatMeansSeatAmongAccountsSeats
open Go.ChangeShapes Go.WideShapes Go.ChangeAt Go.RowKit
open Go.ChangeMaps (open_string shut_string)
set_option linter.unusedVariables false

theorem own : ownKnob Try.prog.godebug = none := by kernel_rfl
theorem laidOut : laidOutB Try.prog = true := by kernel_rfl

/-- WHAT THE WALK IS TOLD OF A SLICE OF INTEGERS THAT CAME IN: it is nil; or it leads to a row of 'cap' cells, the numbers 'zs' (the first 'len' are its elements, the rest its spare room), each fitting its kind. -/
def IsRow (k : IntKind) (w : World) (a : Option Addr) (len cap : Nat) (zs : List Int) : Prop :=
  (a = none ∧ len = 0 ∧ cap = 0 ∧ zs = []) ∨
  ∃ x, a = some x ∧ len ≤ cap ∧ cap ≤ maxLen ∧ zs.length = cap ∧ (∀ i, i < zs.length → w.cell? (x.add i) = some (.int k (zs.getD i 0))) ∧ ∀ n ∈ zs, (Lit.int k n).wf = true

/-! ### THE WALK -/
/-- Is 'seat' below k and account's? -/
def wantB (zs : List Int) (seat acc : Int) (k : Nat) : Bool := decide (seat < k ∧ zs.getD seat.toNat 0 = acc)
theorem want_zero (zs : List Int) (seat acc : Int) (h : 0 ≤ seat) : wantB zs seat acc 0 = false := by
  unfold wantB; apply decide_eq_false; omega
theorem want_hit (zs : List Int) (seat acc : Int) (k : Nat) (h : (zs.getD k 0 == acc) = true) (e : ((k : Int) == seat) = true) : wantB zs seat acc (k + 1) = true := by
  have e' : seat = k := by simpa using (beq_iff_eq.1 e).symm
  subst e'
  unfold wantB; apply decide_eq_true
  exact ⟨by omega, by simpa using h⟩
theorem want_miss (zs : List Int) (seat acc : Int) (k : Nat) (h : (zs.getD k 0 == acc) = false) : wantB zs seat acc (k + 1) = wantB zs seat acc k := by
  unfold wantB
  apply decide_eq_decide.2
  constructor
  · rintro ⟨h1, h2⟩
    refine ⟨?_, h2⟩
    by_cases e : seat = k
    · subst e; simp at h h2; exact absurd h2 h
    · omega
  · rintro ⟨h1, h2⟩; exact ⟨by omega, h2⟩
theorem want_other (zs : List Int) (seat acc : Int) (k : Nat) (e : ((k : Int) == seat) = false) : wantB zs seat acc (k + 1) = wantB zs seat acc k := by
  have e' : ¬ (k : Int) = seat := by simpa using e
  unfold wantB
  apply decide_eq_decide.2
  constructor
  · rintro ⟨h1, h2⟩; exact ⟨by omega, h2⟩
  · rintro ⟨h1, h2⟩; exact ⟨by omega, h2⟩

theorem walk_big (a0 : Option Addr) (len0 cap0 : Nat) (a1 a2 : Int) (w : World) (hm : len0 ≤ 9223372036854775807) (h : 65536 < len0) :
    Calls Try.prog 3 #[.slice a0 len0 cap0, .int .u32 a1, .int .u32 a2] w fun e w' => e = .returned (.bool true) ∧ Below w.heap.size w w' := by
  by_cases h2 : 1048576 < len0
  · go_enter Try.func3, Try.ntmps3
    go_wp2
    go_ret
    exact ⟨rfl, Below.refl _ _⟩
  · go_enter Try.func3, Try.ntmps3
    go_wp2
    go_ret
    exact ⟨rfl, Below.refl _ _⟩

theorem walk_nil (a1 a2 : Int) (w : World) (h1 : 0 ≤ a1) (h1' : a1 ≤ 4294967295) :
    Calls Try.prog 3 #[.slice none 0 0, .int .u32 a1, .int .u32 a2] w fun e w' => e = .returned (.bool true) ∧ Below w.heap.size w w' := by
  go_enter Try.func3, Try.ntmps3
  go_wp2_with (first | (go_at_call 6; refine (clone_nil _).mono ?_; rintro e w' ⟨rfl, rfl⟩) | (go_at_call 5; go_in))
  go_loop [7, 8] (fun v i => v = .bool false ∧ i = .int .i64 0) (fun _ _ => 0)
  case atStart => exact ⟨rfl, rfl⟩
  case round =>
    obtain ⟨rfl, rfl⟩ := hrel
    go_wp2_with (go_at_call 7; refine (holds_out _ _ _ _ _ _ h1 h1' (by omega) (by simpa using h1)).mono ?_; rintro e w' ⟨rfl, rfl⟩)
    go_ret
    exact ⟨rfl, Below.refl _ _⟩

theorem walk_row (b off len cap : Nat) (spot) (zs : List Int) (a1 a2 : Int) (w : World) (h1 : 0 ≤ a1) (h1' : a1 ≤ 4294967295) (hlen : len ≤ 65536) (hz : len ≤ zs.length) (hs : 0 < len → spot = none)
    (hc : ∀ j, j < len → w.cell? ⟨b, off + j, none⟩ = some (.int .u32 (zs.getD j 0))) (hb : 0 < len → b < w.heap.size) :
    Calls Try.prog 3 #[.slice (some ⟨b, off, spot⟩) len cap, .int .u32 a1, .int .u32 a2] w fun e w' => e = .returned (.bool true) ∧ Below w.heap.size w w' := by
  go_enter Try.func3, Try.ntmps3
  go_wp2_with (first | (go_at_call 6; refine (clone_row b off len cap spot zs _ hlen hz hs hc hb).mono ?_; rintro e w1 ⟨rfl, hown, hbel⟩) | (go_at_call 5; go_in))
  have hc1 : ∀ j, j < len → w1.cell? ⟨w.heap.size, j, none⟩ = some (.int .u32 (zs.getD j 0)) := by
    intro j hj
    rw [hown.cellAt j (by omega)]
    simp [hj, List.getD, show j < zs.length by omega]
  have HB : Hid (Below w.heap.size w w1) := hbel
  clear hown hbel hc
  go_loop [7, 8] (fun v i => ∃ k : Nat, k ≤ len ∧ i = .int .i64 k ∧ v = .bool (wantB zs a1 a2 k)) (fun _ i => len - (intOf i).toNat)
  case atStart => exact ⟨0, Nat.zero_le _, rfl, by rw [want_zero _ _ _ h1]⟩
  case round =>
    obtain ⟨k, hk, rfl, rfl⟩ := hrel
    by_cases hlt : k < len
    · have hcx := hc1 k hlt
      have H1 := want_hit zs a1 a2 k
      have H2 := want_miss zs a1 a2 k
      have H3 := want_other zs a1 a2 k
      clear hc1
      generalize zs.getD k 0 = v at hcx H1 H2
      obtain ⟨W1, hg⟩ : ∃ b, wantB zs a1 a2 (k + 1) = b := ⟨_, rfl⟩
      rw [hg] at H1 H2 H3
      have HG : Hid (wantB zs a1 a2 (k + 1) = W1) := hg
      clear hg
      have fin : ∀ W2 : Bool, W1 = W2 → Hid (W1 = W2) := fun _ h => h
      cases t1 : (v == a2)
      · have HE := fin _ (H2 t1)
        clear H1 H2 H3 fin
        go_wp2
        go_round
        case rel => exact ⟨k + 1, by omega, by go_num, by rw [HG.out, HE.out]⟩
        case measure => simp [intOf]; omega
      · cases t2 : ((k : Int) == a1)
        · have HE := fin _ (H3 t2)
          clear H1 H2 H3 fin
          go_wp2
          go_round
          case rel => exact ⟨k + 1, by omega, by go_num, by rw [HG.out, HE.out]⟩
          case measure => simp [intOf]; omega
        · have HE := fin _ (H1 t1 t2)
          clear H1 H2 H3 fin
          go_wp2
          go_round
          case rel => exact ⟨k + 1, by omega, by go_num, by rw [HG.out, HE.out]⟩
          case measure => simp [intOf]; omega
    · have hkl : k = len := by omega
      subst hkl
      by_cases hin : a1 < k
      · obtain ⟨q, rfl⟩ : ∃ q : Nat, a1 = q := ⟨a1.toNat, by omega⟩
        have hcq := hc1 q (by omega)
        have HE : Hid (wantB zs q a2 k = (zs.getD q 0 == a2)) := by
          show wantB zs q a2 k = _
          unfold wantB
          rw [Bool.eq_iff_iff]
          simp [hin]
        clear hc1
        generalize zs.getD q 0 = v at hcq HE
        go_wp2_with (go_at_call 7; refine (holds_in _ k k q v a2 _ hlen (by omega) hcq).mono ?_; rintro e w' ⟨rfl, rfl⟩)
        go_ret
        exact ⟨by rw [HE.out]; simp, HB.out⟩
      · have HE : Hid (wantB zs a1 a2 k = false) := by
          show wantB zs a1 a2 k = _
          unfold wantB
          simp [hin]
        clear hc1
        go_wp2_with (go_at_call 7; refine (holds_out _ _ _ _ _ _ h1 h1' hlen (by omega)).mono ?_; rintro e w' ⟨rfl, rfl⟩)
        go_ret
        exact ⟨by rw [HE.out]; simp, HB.out⟩

theorem walk (a0 : Option Addr) (len0 cap0 : Nat) (z0 : List Int) (a1 : Int) (a2 : Int) (w : World) (w0 : IsRow .u32 w a0 len0 cap0 z0) (w1 : (Lit.int .u32 a1).wf = true) (w2 : (Lit.int .u32 a2).wf = true) :
    Calls Try.prog 3 #[.slice a0 len0 cap0, .int .u32 a1, .int .u32 a2] w fun e w' => e = .returned (.bool true) ∧ Below w.heap.size w w' := by
  have b1 := bounds_u32 w1
  rcases w0 with ⟨rfl, rfl, rfl, rfl⟩ | ⟨x, rfl, hl, hm, hz, hcell, hwz⟩
  · exact walk_nil a1 a2 w b1.1 b1.2
  · by_cases hbig : 65536 < len0
    · exact walk_big _ _ _ _ _ _ (by unfold maxLen at hm; omega) hbig
    · obtain ⟨b, off, spot⟩ := x
      have hs : 0 < len0 → spot = none := fun h => by simpa [Addr.add] using World.cell?_spot (hcell 0 (by omega))
      have hc : ∀ j, j < len0 → w.cell? ⟨b, off + j, none⟩ = some (.int .u32 (z0.getD j 0)) := fun j hj => by
        obtain rfl := hs (by omega)
        rw [← add_plain]; exact hcell j (by omega)
      exact walk_row b off len0 cap0 spot z0 a1 a2 w b1.1 b1.2 (by omega) (by omega) hs hc (fun h => World.block_lt_of_cell? w _ (hc 0 h))

/-! ### THE ROW's STEP: WRITTEN OUT: LEAVE IT -/
set_option maxRecDepth 100000 in
theorem lifted (os : Os) (started : os.Started) (H : Type) (enc : TypeId × Value → H) :
    ReturnsInHanded {} Try.checked os 3 .any (Rows.fnHoldsSeatMeansSeatAmongAccountsSeatsSpec.pre6 enc Try.prog Try.f3 Rows.fnHoldsSeatMeansSeatAmongAccountsSeatsRow.domain false) (Rows.fnHoldsSeatMeansSeatAmongAccountsSeatsSpec.post enc Try.prog Try.f3 false true false false) := by
  refine returnsInHanded_of_change (C := Try.checked) own started (by kernel_rfl) Try.func3
    (ChangeSpec.witness6 (enc := enc) (C := Try.checked) false ⟨#[], #[.slice none 0 0, .int .u32 0, .int .u32 0], []⟩ 8 (by kernel_rfl) (by kernel_rfl) (by kernel_rfl) (by kernel_rfl)) ?_
  intro W base args ds gs before hval0 hW hcnd _
  have hval : ∀ (j : Nat) t v, Try.f3.params[j]? = some t → args[j]? = some v → Value.okWide Try.prog W .any base t v := hval0
  have hW' := hW
  obtain ⟨p, q, hA0, hV, rfl, hfz, hnd⟩ := hW
  have hA : DataW.TrodAll enc Try.prog W 0 (fun _ => true) true Try.f3.params.toList args.toList ds p := hA0
  rw [Try.params3] at hA hval
  obtain ⟨v0, vs0, d0, ds0, p0, q0, hargs, rfl, rfl, h0, r0⟩ := trodAll_cons hA
  obtain ⟨v1, vs1, d1, ds1, p1, q1, rfl, rfl, rfl, h1, r1⟩ := trodAll_cons r0
  obtain ⟨v2, vs2, d2, ds2, p2, q2, rfl, rfl, rfl, h2, r2⟩ := trodAll_cons r1
  obtain ⟨rfl, rfl, rfl⟩ := trodAll_nil r2
  obtain rfl : args = #[v0, v1, v2] := by cases args; simp_all
  obtain ⟨rfl, rfl⟩ := trodVars_none hV
  obtain ⟨a0, len0, cap0, rfl⟩ := okWide_slice Try.underlying22 (hval 0 22 v0 rfl rfl)
  have k0 := h0
  have lt0 : ∀ x ∈ p0, x.block < W.heap.size := by obtain ⟨m, hm⟩ := k0; exact DataW.trod_lt m _ _ _ hm
  obtain ⟨z0, w0⟩ : ∃ zs, IsRow .u32 W a0 len0 cap0 zs := by
    obtain ⟨fuel, hf⟩ := h0
    rcases open_ints Try.underlying22 Try.underlying23 (by kernel_rfl) hf with ⟨hcs, _⟩ | ⟨x, l, c, zs, hcs, _, hl, hm, hz, _, hcell, hwz⟩
    · simp [Value.cells] at hcs
      obtain ⟨rfl, rfl, rfl⟩ := hcs
      exact ⟨[], .inl ⟨rfl, rfl, rfl, rfl⟩⟩
    · simp [Value.cells] at hcs
      obtain ⟨rfl, rfl, rfl⟩ := hcs
      exact ⟨zs, .inr ⟨_, rfl, hl, hm, by simpa using hz, hcell, hwz⟩⟩
  obtain ⟨a1, rfl, rfl, rfl, w1⟩ := open_int Try.underlying23 (hval 1 23 v1 rfl rfl) h1
  obtain ⟨a2, rfl, rfl, rfl, w2⟩ := open_int Try.underlying23 (hval 2 23 v2 rfl rfl) h2
  clear hA0 hval0
  refine (walk a0 len0 cap0 z0 a1 a2 W w0 w1 w2).mono fun e W' ⟨he, bel⟩ => ?_
  subst he
  exact ⟨_, rfl, _, _, _, [], _, [], hW', trodAll_mk1 (shut_bool Try.underlying4 _), (trodAll_cons_mk (Below.trod laidOut (by kernel_rfl) (of_decide_eq_true (by kernel_rfl)) k0 bel lt0) (trodAll_cons_mk (shut_int Try.underlying23 w1) (trodAll_cons_mk (shut_int Try.underlying23 w2) trodAll_mk0))), rfl, bel.frame _, fun h => by cases h⟩

theorem over : Rows.fnHoldsSeatMeansSeatAmongAccountsSeatsRow.holds Try.pinned (OpenSpec.ofChange Rows.fnHoldsSeatMeansSeatAmongAccountsSeatsSpec) :=
  OpenClaim.holds_of_wide 3 Try.f3 rfl rfl rfl rfl rfl rfl rfl ⟨rfl, rfl, rfl, rfl, rfl⟩ rfl rfl rfl rfl rfl (by kernel_rfl) Try.func3 (by kernel_rfl)
    (of_decide_eq_true (by kernel_rfl)) (by unfold Func.isWrapper; first | (rw [if_pos (by decide +kernel)]; kernel_rfl) | (rw [if_neg (by decide +kernel)]; exact ⟨rfl, rfl⟩))
    (fun os started H enc _ => lifted os started H enc)

/-- ████ THE STATEMENT ████ -/
theorem proved : Rows.FnHoldsSeatMeansSeatAmongAccountsSeatsSaid := over
end Go.Proofs.Qxb6604770a.fnHoldsSeatMeansSeatAmongAccountsSeats
namespace Go.Proofs.Qxb6604770a
theorem fnHoldsSeatMeansSeatAmongAccountsSeats_proved : Rows.FnHoldsSeatMeansSeatAmongAccountsSeatsSaid := fnHoldsSeatMeansSeatAmongAccountsSeats.proved
end Go.Proofs.Qxb6604770a
