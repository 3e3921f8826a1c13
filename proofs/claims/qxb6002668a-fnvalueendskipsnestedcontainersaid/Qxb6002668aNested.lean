/-
  Seat b6002668a (flumeward): the walk of FnValueEndSkipsNestedContainer, out of the contracts of what it calls.
-/
import Derived.Test.Qxb6002668aCopy
import Derived.Test.Qxb6002668aEnd
import Derived.Test.Qxb6002668aRender
namespace Go.Proofs.Qxb6002668a
open Go.RowKit

/-- The law's own check of the total length. -/
theorem bytes24 (a0 a2 a3 a4 : Option Addr) (n0 c0 n2 c2 n3 c3 n4 c4 : Nat) (b : Bool) (w : World) (h0 : n0 ≤ 9223372036854775807) (h2 : n2 ≤ 9223372036854775807) (h3 : n3 ≤ 9223372036854775807) (h4 : n4 ≤ 9223372036854775807) :
    Calls Try.prog 24 #[.slice a0 n0 c0, .bool b, .slice a2 n2 c2, .slice a3 n3 c3, .slice a4 n4 c4] w fun e w' => e = .returned (.bool (decide (n0 + n2 + n3 + n4 ≤ 1048576))) ∧ w' = w := by
  go_enter Try.func24, Try.ntmps24
  go_wp2
  all_goals
    go_ret
    refine ⟨?_, rfl⟩
    first
      | (rw [show decide (n0 + n2 + n3 + n4 ≤ 1048576) = true from decide_eq_true (by omega)]; rfl)
      | (rw [show decide (n0 + n2 + n3 + n4 ≤ 1048576) = false from decide_eq_false (by omega)]; rfl)

/-- ZZvalueEnd at a container. -/
theorem zzvalueEnd_box (g n cap p q : Nat) (R : List Int) (w : World) (hn : n ≤ 1073741824) (hR : Closed R) (hp : p + R.length ≤ n)
    (hc : ∀ j, p ≤ j → j < p + R.length → w.cell? ⟨g, j, none⟩ = some (.int .u8 (R.getD (j - p) 0))) (hq : q = p + R.length) :
    Calls Try.prog 23 #[.slice (some ⟨g, 0, none⟩) n cap, .int .i64 (p : Int)] w fun e w' => w' = w ∧ e = .returned (.int .i64 (q : Int)) := by
  subst hq
  have HC : Hid (∀ j, p ≤ j → j < p + R.length → w.cell? ⟨g, j, none⟩ = some (.int .u8 (R.getD (j - p) 0))) := hc
  clear hc
  go_enter Try.func23, Try.ntmps23
  go_wp2_with (go_at_call 31; refine (valueEnd_box g n cap p R _ hn hR hp HC.out).mono ?_; rintro e w' ⟨rfl, rfl⟩)
  go_ret
  exact ⟨rfl, ret_int (by omega)⟩

/-- A middle part, byte by byte. -/
theorem getD_mid (P R S : List Int) (j : Nat) (h1 : P.length ≤ j) (h2 : j < P.length + R.length) : (P ++ R ++ S).getD j 0 = R.getD (j - P.length) 0 := by
  have h3 : j < (P ++ R).length := by simp; omega
  simp only [List.getD]
  rw [List.getElem?_append_left h3, List.getElem?_append_right h1]

theorem byte_getD {zs : List Int} (h : ∀ n ∈ zs, (Lit.int .u8 n).wf = true) (j : Nat) : 0 ≤ zs.getD j 0 ∧ zs.getD j 0 ≤ 255 := by
  by_cases hj : j < zs.length
  · have e : zs.getD j 0 = zs[j] := by simp [List.getD, hj]
    rw [e]
    have := h _ (List.getElem_mem hj)
    simp [Lit.wf, IntKind.min, IntKind.max, IntKind.signed, IntKind.bits] at this
    omega
  · have e : zs.getD j 0 = 0 := by simp [List.getD, List.getElem?_eq_none (by omega : zs.length ≤ j)]
    rw [e]; omega

theorem Came.byte {w : World} {a : Option Addr} {len cap : Nat} {zs : List Int} (h : Came w a len cap zs) (j : Nat) : 0 ≤ (zs.take len).getD j 0 ∧ (zs.take len).getD j 0 ≤ 255 := by
  refine byte_getD (fun n hn => ?_) j
  rcases h with ⟨_, _, _, rfl⟩ | ⟨x, _, _, _, _, _, hw⟩
  · simp at hn
  · exact hw n (List.mem_of_mem_take hn)

set_option maxRecDepth 100000 in
set_option maxHeartbeats 4000000 in
theorem nested_walk (a0 : Option Addr) (len0 cap0 : Nat) (z0 : List Int) (a1 : Bool) (a2 : Option Addr) (len2 cap2 : Nat) (z2 : List Int) (a3 : Option Addr) (len3 cap3 : Nat) (z3 : List Int) (a4 : Option Addr) (len4 cap4 : Nat) (z4 : List Int) (w : World) (w0 : Came w a0 len0 cap0 z0) (w2 : Came w a2 len2 cap2 z2) (w3 : Came w a3 len3 cap3 z3) (w4 : Came w a4 len4 cap4 z4) :
    Calls Try.prog 9 #[.slice a0 len0 cap0, .bool a1, .slice a2 len2 cap2, .slice a3 len3 cap3, .slice a4 len4 cap4] w fun e w' => e = .returned (.bool true) ∧ Below w.heap.size w w' := by
  have l0 := w0.len.2
  have l2 := w2.len.2
  have l3 := w3.len.2
  have l4 := w4.len.2
  by_cases hsum : len0 + len2 + len3 + len4 ≤ 1048576
  · have hdec : decide (len0 + len2 + len3 + len4 ≤ 1048576) = true := decide_eq_true hsum
    by_cases hops : 65536 < len2
    · go_enter Try.func9, Try.ntmps9
      go_wp2_with (go_at_call 24; refine (bytes24 _ _ _ _ _ _ _ _ _ _ _ _ _ _ l0 l2 l3 l4).mono ?_; rintro e w' ⟨rfl, rfl⟩; rw [hdec])
      go_ret
      exact ⟨rfl, Below.refl _ _⟩
    · have hby := w2.byte
      have HBY : Hid (∀ j, 0 ≤ (z2.take len2).getD j 0 ∧ (z2.take len2).getD j 0 ≤ 255) := hby
      clear hby
      go_enter Try.func9, Try.ntmps9
      go_wp2_with (go_at_call 24; refine (bytes24 _ _ _ _ _ _ _ _ _ _ _ _ _ _ l0 l2 l3 l4).mono ?_; rintro e w' ⟨rfl, rfl⟩; rw [hdec])
      refine (copy_any a0 len0 cap0 z0 _ w0 (by omega)).mono ?_
      rintro e v1 ⟨b0, d0, rfl, H0, B1⟩
      go_wp2_with fail
      refine (copy_any a2 len2 cap2 z2 _ (w2.later B1) (by omega)).mono ?_
      rintro e v2 ⟨b2, d2, rfl, H2, B2⟩
      have C2 := B1.trans (B2.mono B1.size)
      go_wp2_with fail
      refine (copy_any a3 len3 cap3 z3 _ (w3.later C2) (by omega)).mono ?_
      rintro e v3 ⟨b3, d3, rfl, H3, B3⟩
      have C3 := C2.trans (B3.mono C2.size)
      go_wp2_with fail
      refine (copy_any a4 len4 cap4 z4 _ (w4.later C3) (by omega)).mono ?_
      rintro e v4 ⟨b4, d4, rfl, H4, B4⟩
      have C4 := C3.trans (B4.mono C3.size)
      have P4 : Holds v4 b0 len0 d0 (z0.take len0) := ((H0.later B2).later B3).later B4
      have O4 : Holds v4 b2 len2 d2 (z2.take len2) := (H2.later B3).later B4
      have T4 : Holds v4 b3 len3 d3 (z3.take len3) := H3.later B4
      have hS4 := H4.lt
      clear H0 H2 H3 B1 B2 B3 B4 C2 C3 w0 w2 w3 w4
      go_wp2_with (at_builtin; refine wpList_app _ rfl (.tmp 45) (.tmp 46) rfl none 0 0 [] rfl (Holds.nil _) b0 len0 d0 _ rfl P4 (by omega) ?_; intro a5 c5 v5 H5 G5)
      have E5 : Holds v5 a5 len0 c5 (z0.take len0) := by simpa using H5
      have D5 : Below v4.heap.size v4 v5 := G5.below (Nat.le_refl _) (fun k h => by cases h)
      have F5 := G5.from (B := v4.heap.size) (Nat.le_refl _) (fun k h => by cases h)
      have S5 := H4.later D5
      have O5 := O4.later D5
      have T5 := T4.later D5
      clear H5 G5 O4 T4 P4 H4
      refine (render_any a1 b2 len2 d2 _ b3 len3 d3 _ v5 O5 T5 (by omega) (by omega) HBY.out).mono ?_
      rintro e v6 ⟨a6, n6, c6, R, rfl, HR, hcl, hn6, B6⟩
      have E6 := E5.later B6
      have S6 := S5.later B6
      have C6 := (C4.trans (D5.mono C4.size)).trans (B6.mono (Nat.le_trans C4.size D5.size))
      have hv46 : v4.heap.size ≤ v6.heap.size := Nat.le_trans D5.size B6.size
      have hw4 := C4.size
      clear E5 S5 O5 T5 B6 C4 D5 HBY
      go_wp2_with (first | (at_builtin; refine wpList_app _ rfl (.tmp 48) (.tmp 52) rfl a5 len0 c5 _ rfl E6 a6 n6 c6 R rfl HR (by omega) ?_; intro a7 c7 v7 H7 G7; have S7 := (G7.other S6 (fun k hk e => by have h1 := hS4 k hk; have h2 := F5 k e; omega)).1) | (at_builtin; refine wpList_app _ rfl (.tmp 56) (.tmp 57) rfl a7 (len0 + n6) c7 _ rfl H7 b4 len4 d4 _ rfl S7 (by omega) ?_; intro a8 c8 v8 H8 G8))
      have C7 := C6.trans (G7.below (Nat.le_trans hw4 hv46) (fun k e => Nat.le_trans hw4 (F5 k e)))
      have F7 := G7.from hv46 F5
      have C8 := C7.trans (G8.below C7.size (fun k e => Nat.le_trans hw4 (F7 k e)))
      have hRl := HR.len
      have h2R := hcl.two
      have hPl : (z0.take len0).length = len0 := E6.len.symm
      obtain ⟨g8, rfl, _⟩ := H8.pos (by omega)
      have hc8 : ∀ j, len0 ≤ j → j < len0 + R.length → v8.cell? ⟨g8, j, none⟩ = some (.int .u8 (R.getD (j - len0) 0)) := by
        intro j h1 h2
        rw [H8.cell j (by omega), getD_mid _ R _ j (by omega) (by omega), hPl]
      have hR2 : Hid (n6 = R.length) := hRl
      clear hRl C6 C7 F7 H8 G8 H7 G7 S7 S6 E6 HR hPl
      refine (zzvalueEnd_box g8 (len0 + n6 + len4) c8 len0 (len0 + n6) R v8 (by omega) hcl (by have := hR2.out; omega) hc8 (by have := hR2.out; omega)).mono ?_
      rintro e v9 ⟨rfl, rfl⟩
      clear hc8
      go_wp2
      go_ret
      exact ⟨rfl, C8⟩
  · have hdec : decide (len0 + len2 + len3 + len4 ≤ 1048576) = false := decide_eq_false hsum
    go_enter Try.func9, Try.ntmps9
    go_wp2_with (go_at_call 24; refine (bytes24 _ _ _ _ _ _ _ _ _ _ _ _ _ _ l0 l2 l3 l4).mono ?_; rintro e w' ⟨rfl, rfl⟩; rw [hdec])
    go_ret
    exact ⟨rfl, Below.refl _ _⟩
end Go.Proofs.Qxb6002668a
