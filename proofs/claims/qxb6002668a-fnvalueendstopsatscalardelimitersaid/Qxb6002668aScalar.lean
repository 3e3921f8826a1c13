/-
  Seat b6002668a (flumeward): the walk of FnValueEndStopsAtScalarDelimiter, out of the contracts of what it calls.
-/
import Derived.Test.Qxb6002668aCopy
import Derived.Test.Qxb6002668aTok
namespace Go.Proofs.Qxb6002668a
open Go.RowKit

/-- The law's own check of the total length. -/
theorem bytes26 (a0 a1 a3 : Option Addr) (n0 c0 n1 c1 n3 c3 : Nat) (d : Int) (w : World) (h0 : n0 ≤ 9223372036854775807) (h1 : n1 ≤ 9223372036854775807) (h3 : n3 ≤ 9223372036854775807) :
    Calls Try.prog 26 #[.slice a0 n0 c0, .slice a1 n1 c1, .int .u8 d, .slice a3 n3 c3] w fun e w' => e = .returned (.bool (decide (n0 + n1 + n3 ≤ 1048576))) ∧ w = w' := by
  go_enter Try.func26, Try.ntmps26
  go_wp2
  all_goals
    go_ret
    refine ⟨?_, rfl⟩
    first
      | (rw [show decide (n0 + n1 + n3 ≤ 1048576) = true from decide_eq_true (by omega)]; rfl)
      | (rw [show decide (n0 + n1 + n3 ≤ 1048576) = false from decide_eq_false (by omega)]; rfl)

theorem delim_yes (v : Int) (w : World) (h : Delim v) : Calls Try.prog 27 #[.int .u8 v] w fun e w' => e = .returned (.bool true) ∧ w = w' := by
  unfold Delim at h
  rcases h with rfl | rfl | rfl | rfl | rfl | rfl | rfl
  all_goals
    go_enter Try.func27, Try.ntmps27
    go_wp2
    go_ret
    exact ⟨rfl, rfl⟩

theorem delim_no (v : Int) (w : World) (h : ¬ Delim v) : Calls Try.prog 27 #[.int .u8 v] w fun e w' => e = .returned (.bool false) ∧ w = w' := by
  unfold Delim at h
  have n1 : ¬ v = 44 := by omega
  have n2 : ¬ v = 93 := by omega
  have n3 : ¬ v = 125 := by omega
  have n4 : ¬ v = 32 := by omega
  have n5 : ¬ v = 9 := by omega
  have n6 : ¬ v = 10 := by omega
  have n7 : ¬ v = 13 := by omega
  clear h
  go_enter Try.func27, Try.ntmps27
  go_wp2
  go_ret
  exact ⟨rfl, rfl⟩

/-- zzdelim: a delimiter, whichever. -/
theorem zzdelim_any (k : Int) (w : World) (h0 : 0 ≤ k) (h1 : k < 7) : Calls Try.prog 28 #[.int .u8 k] w fun e w' => ∃ c, e = .returned (.int .u8 c) ∧ w = w' ∧ Delim c := by
  have hk : k = 0 ∨ k = 1 ∨ k = 2 ∨ k = 3 ∨ k = 4 ∨ k = 5 ∨ k = 6 := by omega
  clear h0 h1
  rcases hk with rfl | rfl | rfl | rfl | rfl | rfl | rfl
  all_goals
    go_enter Try.func28, Try.ntmps28
    go_wp2
    go_ret
    exact ⟨_, rfl, rfl, by unfold Delim; omega⟩

/-- ZZvalueEnd at a scalar. -/
theorem zzvalueEnd_tok (g n cap p : Nat) (T : List Int) (w : World) (hn : n ≤ 1073741824) (ht : 0 < T.length) (hp : p + T.length ≤ n)
    (hc : ∀ j, p ≤ j → j < p + T.length → w.cell? ⟨g, j, none⟩ = some (.int .u8 (T.getD (j - p) 0)))
    (h1 : ¬ T.getD 0 0 = 34) (h2 : ¬ T.getD 0 0 = 123) (h3 : ¬ T.getD 0 0 = 91) (hd : ∀ k, k < T.length → ¬ Delim (T.getD k 0))
    (he : p + T.length = n ∨ ∃ c, p + T.length < n ∧ w.cell? ⟨g, p + T.length, none⟩ = some (.int .u8 c) ∧ Delim c) (q : Nat) (hq : q = p + T.length) :
    Calls Try.prog 23 #[.slice (some ⟨g, 0, none⟩) n cap, .int .i64 (p : Int)] w fun e w' => w = w' ∧ e = .returned (.int .i64 (q : Int)) := by
  subst hq
  have C := valueEnd_tok g n cap p T w hn ht hp hc h1 h2 h3 hd he
  have HC : Hid (Calls Try.prog 31 #[.slice (some ⟨g, 0, none⟩) n cap, .int .i64 (p : Int)] w fun e w' => w' = w ∧ e = .returned (.int .i64 ((p + T.length : Nat) : Int))) := C
  clear C hc h1 h2 h3 hd he
  go_enter Try.func23, Try.ntmps23
  go_wp2_with (go_at_call 31; refine HC.out.mono ?_; rintro e w' ⟨rfl, rfl⟩)
  go_ret
  exact ⟨rfl, ret_int (by omega)⟩

set_option maxRecDepth 100000 in
set_option maxHeartbeats 4000000 in
theorem scalar_walk (a0 : Option Addr) (len0 cap0 : Nat) (z0 : List Int) (a1 : Option Addr) (len1 cap1 : Nat) (z1 : List Int) (a2 : Int) (a3 : Option Addr) (len3 cap3 : Nat) (z3 : List Int) (w : World) (w0 : Came w a0 len0 cap0 z0) (w1 : Came w a1 len1 cap1 z1) (b0 : 0 ≤ a2) (b1 : a2 ≤ 255) (w3 : Came w a3 len3 cap3 z3) :
    Calls Try.prog 10 #[.slice a0 len0 cap0, .slice a1 len1 cap1, .int .u8 a2, .slice a3 len3 cap3] w fun e w' => e = .returned (.bool true) ∧ Below w.heap.size w w' := by
  have l0 := w0.len.2
  have l1 := w1.len.2
  have l3 := w3.len.2
  by_cases hsum : len0 + len1 + len3 ≤ 1048576
  · have hdec : decide (len0 + len1 + len3 ≤ 1048576) = true := decide_eq_true hsum
    by_cases hz : len1 = 0
    · subst hz
      go_enter Try.func10, Try.ntmps10
      go_wp2_with (go_at_call 26; refine (bytes26 _ _ _ _ _ _ _ _ _ _ _ l0 l1 l3).mono ?_; rintro e w' ⟨rfl, rfl⟩; rw [hdec])
      go_ret
      exact ⟨rfl, Below.refl _ _⟩
    · obtain ⟨b, off, rfl, hb, hc⟩ := w1.cell (by omega)
      have hz' : ((len1 : Int) == 0) = false := by simpa using hz
      have hc0 : w.cell? ⟨b, off, none⟩ = some (.int .u8 (z1.getD 0 0)) := by simpa using hc 0 (by omega)
      have HC : Hid (∀ j, j < len1 → w.cell? ⟨b, off + j, none⟩ = some (.int .u8 (z1.getD j 0))) := hc
      obtain ⟨v0, hv0⟩ : ∃ v0, z1.getD 0 0 = v0 := ⟨_, rfl⟩
      rw [hv0] at hc0
      have HV : Hid (z1.getD 0 0 = v0) := hv0
      have hlen1 : 0 < len1 := by omega
      clear hc hv0 hz
      cases t1 : (v0 == 34)
      · cases t2 : (v0 == 123)
        · cases t3 : (v0 == 91)
          · go_enter Try.func10, Try.ntmps10
            go_wp2_with (go_at_call 26; refine (bytes26 _ _ _ _ _ _ _ _ _ _ _ l0 l1 l3).mono ?_; rintro e w' ⟨rfl, rfl⟩; rw [hdec])
            have hlz := w1.len.1
            go_loop [9] (fun i => ∃ k : Nat, k ≤ len1 ∧ i = .int .i64 k ∧ ∀ j, j < k → ¬ Delim (z1.getD j 0)) (fun i => len1 - (intOf i).toNat)
            case atStart => exact ⟨0, Nat.zero_le _, rfl, fun j h => by omega⟩
            case round =>
              obtain ⟨k, hk, rfl, hnd⟩ := hrel
              have HN : Hid (∀ j, j < k → ¬ Delim (z1.getD j 0)) := hnd
              clear hnd
              by_cases hlt : k < len1
              · have hcx := HC.out k hlt
                have HNk : Hid (¬ Delim (z1.getD k 0) → ∀ j, j < k + 1 → ¬ Delim (z1.getD j 0)) := by
                  intro h j hj
                  by_cases e : j = k
                  · subst e; exact h
                  · exact HN.out j (by omega)
                generalize z1.getD k 0 = v at hcx HNk
                by_cases hd : Delim v
                · have HD : Hid (Delim v) := hd
                  clear hd
                  go_wp2_with (go_at_call 27; refine (delim_yes v _ HD.out).mono ?_; rintro e w' ⟨rfl, rfl⟩)
                  go_ret
                  exact ⟨rfl, Below.refl _ _⟩
                · have HD : Hid (¬ Delim v) := hd
                  clear hd
                  go_wp2_with (go_at_call 27; refine (delim_no v _ HD.out).mono ?_; rintro e w' ⟨rfl, rfl⟩)
                  go_round
                  case rel => exact ⟨k + 1, by omega, by go_num, HNk.out HD.out⟩
                  case measure => simp [intOf]; omega
              · have hkl : k = len1 := by omega
                subst hkl
                have n34 : ¬ v0 = 34 := by simpa using t1
                have n123 : ¬ v0 = 123 := by simpa using t2
                have n91 : ¬ v0 = 91 := by simpa using t3
                have TL : (z1.take k).length = k := by simp; omega
                have TG : ∀ j, j < k → (z1.take k).getD j 0 = z1.getD j 0 := fun j hj => by simp [List.getD, hj]
                have HTL : Hid ((z1.take k).length = k) := TL
                have HTG : Hid (∀ j, j < k → (z1.take k).getD j 0 = z1.getD j 0) := TG
                have H34 : Hid (¬ v0 = 34 ∧ ¬ v0 = 123 ∧ ¬ v0 = 91) := ⟨n34, n123, n91⟩
                clear TL TG n34 n123 n91 t1 t2 t3 hc0 hz'
                go_wp2_with fail
                refine (copy_any a0 len0 cap0 z0 _ w0 (by omega)).mono ?_
                rintro e v1 ⟨e0, d0, rfl, H0, B1⟩
                go_wp2_with fail
                refine (copy_any _ k cap1 z1 _ (w1.later B1) (by omega)).mono ?_
                rintro e v2 ⟨e1, d1, rfl, H1, B2⟩
                have C2 := B1.trans (B2.mono B1.size)
                go_wp2_with fail
                refine (copy_any a3 len3 cap3 z3 _ (w3.later C2) (by omega)).mono ?_
                rintro e v3 ⟨e3, d3, rfl, H3, B3⟩
                have C3 := C2.trans (B3.mono C2.size)
                have P3 : Holds v3 e0 len0 d0 (z0.take len0) := (H0.later B2).later B3
                have T3 : Holds v3 e1 k d1 (z1.take k) := H1.later B3
                have hS3 := H3.lt
                have hT3 := T3.lt
                have hw3 := C3.size
                clear H0 H1 B1 B2 B3 C2 w0 w1 w3
                have rest : ∀ (v7 : World) (a7 : Option Addr) (n7 c7 : Nat) (S : List Int), Holds v7 a7 n7 c7 (z0.take len0 ++ z1.take k ++ S) → n7 ≤ 1073741824 → (S = [] ∨ Delim (S.getD 0 0)) →
                    ∃ g7, a7 = some ⟨g7, 0, none⟩ ∧ Calls Try.prog 23 #[.slice a7 n7 c7, .int .i64 (len0 : Int)] v7 fun e w' => v7 = w' ∧ e = .returned (.int .i64 ((len0 + k : Nat) : Int)) := by
                  intro v7 a7 n7 c7 S H7 hn7 hS
                  have hl7 := H7.len
                  have hPl : (z0.take len0).length = len0 := P3.len.symm
                  have hTl := HTL.out
                  rw [List.length_append, List.length_append, hPl, hTl] at hl7
                  obtain ⟨g7, rfl, _⟩ := H7.pos (by omega)
                  refine ⟨g7, rfl, ?_⟩
                  have h0 : (z1.take k).getD 0 0 = v0 := (HTG.out 0 hlen1).trans HV.out
                  refine zzvalueEnd_tok g7 n7 c7 len0 (z1.take k) v7 hn7 (by omega) (by omega) ?_ (by rw [h0]; exact H34.out.1) (by rw [h0]; exact H34.out.2.1) (by rw [h0]; exact H34.out.2.2) ?_ ?_ (len0 + k) (by omega)
                  · intro j h1 h2
                    rw [H7.cell j (by omega)]
                    have h3 : j < (z0.take len0 ++ z1.take k).length := by rw [List.length_append]; omega
                    simp only [List.getD]
                    rw [List.getElem?_append_left h3, List.getElem?_append_right (by omega), hPl]
                  · intro j hj
                    rw [HTG.out j (by omega)]
                    exact HN.out j (by omega)
                  · rcases hS with rfl | hS
                    · left; simp at hl7; omega
                    · by_cases hS0 : S.length = 0
                      · left; omega
                      · right
                        refine ⟨S.getD 0 0, by omega, ?_, hS⟩
                        rw [H7.cell _ (by omega)]
                        have h3 : (z0.take len0 ++ z1.take k).length = len0 + (z1.take k).length := by rw [List.length_append, hPl]
                        simp only [List.getD]
                        rw [List.getElem?_append_right (by omega), h3, Nat.sub_self]
                have RS : Hid (∀ (v7 : World) (a7 : Option Addr) (n7 c7 : Nat) (S : List Int), Holds v7 a7 n7 c7 (z0.take len0 ++ z1.take k ++ S) → n7 ≤ 1073741824 → (S = [] ∨ Delim (S.getD 0 0)) →
                    ∃ g7, a7 = some ⟨g7, 0, none⟩ ∧ Calls Try.prog 23 #[.slice a7 n7 c7, .int .i64 (len0 : Int)] v7 fun e w' => v7 = w' ∧ e = .returned (.int .i64 ((len0 + k : Nat) : Int))) := rest
                clear rest
                by_cases hr : a2 % 8 < 7
                · have hr0 : 0 ≤ a2 % 8 := by omega
                  go_wp2_with (first | (at_builtin; refine wpList_app _ rfl (.tmp 64) (.tmp 65) rfl none 0 0 [] rfl (Holds.nil _) e0 len0 d0 _ rfl P3 (by omega) ?_; intro a5 c5 v5 H5 G5; have T5 := (G5.other T3 (fun q hq e => by cases e)).1; have S5 := (G5.other H3 (fun q hq e => by cases e)).1; have F5 := G5.from (B := v3.heap.size) (Nat.le_refl _) (fun q h => by cases h); have D5 := G5.below (B := v3.heap.size) (Nat.le_refl _) (fun q h => by cases h); have N5 : Holds v5 a5 len0 c5 (z0.take len0) := by simpa using H5) | (at_builtin; refine wpList_app _ rfl (.tmp 67) (.tmp 68) rfl a5 len0 c5 _ rfl N5 e1 k d1 _ rfl T5 (by omega) ?_; intro a6 c6 v6 H6 G6; have S6 := (G6.other S5 (fun q hq e => by have h1 := hS3 q hq; have h2 := F5 q e; omega)).1; have F6 := G6.from D5.size F5; have D6 := D5.trans (G6.below D5.size F5)) | (go_at_call 28; refine (zzdelim_any _ _ hr0 hr).mono ?_; rintro e v66 ⟨c, rfl, rfl, hdc⟩; have HDC : Hid (Delim c) := hdc; clear hdc) | (at_builtin; refine wpList_app _ rfl (.tmp 73) (.tmp 77) rfl a6 (len0 + k) c6 _ rfl (H6.alloc _) _ 1 1 [c] rfl (Holds.one _ c) (by omega) ?_; intro a7 c7 v7 H7 G7; have G7' := (Grew.alloc _ _ _).trans G7; have S7 := (G7'.other S6 (fun q hq e => by have h1 := hS3 q hq; have h2 := F6 q e; omega)).1; have F7 := G7'.from D6.size F6; have D7 := D6.trans (G7'.below D6.size F6)) | (at_builtin; refine wpList_app _ rfl (.tmp 79) (.tmp 80) rfl a7 (len0 + k + 1) c7 _ rfl H7 e3 len3 d3 _ rfl S7 (by omega) ?_; intro a8 c8 v8 H8 G8))
                  have D8 := D7.trans (G8.below D7.size F7)
                  have E8 : Holds v8 a8 (len0 + k + 1 + len3) c8 (z0.take len0 ++ z1.take k ++ ([c] ++ z3.take len3)) := by rw [← List.append_assoc]; exact H8
                  obtain ⟨g8, rfl, C8⟩ := RS.out v8 a8 _ c8 _ E8 (by omega) (.inr (by simpa [List.getD] using HDC.out))
                  refine C8.mono ?_
                  rintro e v9 ⟨rfl, rfl⟩
                  clear RS E8 H8 G8 H7 G7 G7' S7 F7 D7 S6 F6 H6 G6 D6 T5 S5 F5 N5 H5 G5 D5 C8
                  go_wp2
                  go_ret
                  exact ⟨rfl, C3.trans (D8.mono hw3)⟩
                · go_wp2_with (first | (at_builtin; refine wpList_app _ rfl (.tmp 64) (.tmp 65) rfl none 0 0 [] rfl (Holds.nil _) e0 len0 d0 _ rfl P3 (by omega) ?_; intro a5 c5 v5 H5 G5; have T5 := (G5.other T3 (fun q hq e => by cases e)).1; have S5 := (G5.other H3 (fun q hq e => by cases e)).1; have F5 := G5.from (B := v3.heap.size) (Nat.le_refl _) (fun q h => by cases h); have D5 := G5.below (B := v3.heap.size) (Nat.le_refl _) (fun q h => by cases h); have N5 : Holds v5 a5 len0 c5 (z0.take len0) := by simpa using H5) | (at_builtin; refine wpList_app _ rfl (.tmp 67) (.tmp 68) rfl a5 len0 c5 _ rfl N5 e1 k d1 _ rfl T5 (by omega) ?_; intro a6 c6 v6 H6 G6; have S6 := (G6.other S5 (fun q hq e => by have h1 := hS3 q hq; have h2 := F5 q e; omega)).1; have F6 := G6.from D5.size F5; have D6 := D5.trans (G6.below D5.size F5)))
                  have E8 : Holds v6 a6 (len0 + k) c6 (z0.take len0 ++ z1.take k ++ []) := by rw [List.append_nil]; exact H6
                  obtain ⟨g8, rfl, C8⟩ := RS.out v6 a6 _ c6 _ E8 (by omega) (.inl rfl)
                  refine C8.mono ?_
                  rintro e v9 ⟨rfl, rfl⟩
                  clear RS E8 S6 F6 H6 G6 T5 S5 F5 N5 H5 G5 D5 C8
                  go_wp2
                  go_ret
                  exact ⟨rfl, C3.trans (D6.mono hw3)⟩
          · go_enter Try.func10, Try.ntmps10
            go_wp2_with (go_at_call 26; refine (bytes26 _ _ _ _ _ _ _ _ _ _ _ l0 l1 l3).mono ?_; rintro e w' ⟨rfl, rfl⟩; rw [hdec])
            go_ret
            exact ⟨rfl, Below.refl _ _⟩
        · go_enter Try.func10, Try.ntmps10
          go_wp2_with (go_at_call 26; refine (bytes26 _ _ _ _ _ _ _ _ _ _ _ l0 l1 l3).mono ?_; rintro e w' ⟨rfl, rfl⟩; rw [hdec])
          go_ret
          exact ⟨rfl, Below.refl _ _⟩
      · go_enter Try.func10, Try.ntmps10
        go_wp2_with (go_at_call 26; refine (bytes26 _ _ _ _ _ _ _ _ _ _ _ l0 l1 l3).mono ?_; rintro e w' ⟨rfl, rfl⟩; rw [hdec])
        go_ret
        exact ⟨rfl, Below.refl _ _⟩
  · have hdec : decide (len0 + len1 + len3 ≤ 1048576) = false := decide_eq_false hsum
    go_enter Try.func10, Try.ntmps10
    go_wp2_with (go_at_call 26; refine (bytes26 _ _ _ _ _ _ _ _ _ _ _ l0 l1 l3).mono ?_; rintro e w' ⟨rfl, rfl⟩; rw [hdec])
    go_ret
    exact ⟨rfl, Below.refl _ _⟩
end Go.Proofs.Qxb6002668a
