/-
  Seat b6002668a (flumeward): the walk of zzquote: what it appends is, to the scan, one whole string.
-/
import Derived.Test.Qxb6002668aOwn
namespace Go.Proofs.Qxb6002668a
open Go.RowKit

theorem Grew.cell {w w' : World} {a a' : Option Addr} (h : Grew w w' a a') {b o : Nat} {v : Value} (hc : w.cell? ⟨b, o, none⟩ = some v) (hne : blk a ≠ some b) : w'.cell? ⟨b, o, none⟩ = some v :=
  h.grown.cell hc (fun e => hne e.symm)

theorem quote_start : ∀ d, scan [34] (0, d) = some (1, d) := fun d => by rw [scan_one, stp_quote]
theorem quote_plain {q : List Int} {v : Int} (h : ∀ d, scan q (0, d) = some (1, d)) (h1 : ¬ v = 34) (h2 : ¬ v = 92) : ∀ d, scan (q ++ [v]) (0, d) = some (1, d) :=
  fun d => by rw [scan_snoc (h d), stp_in d v h1 h2]
theorem quote_esc {q : List Int} {v : Int} (h : ∀ d, scan q (0, d) = some (1, d)) : ∀ d, scan (q ++ [92, v]) (0, d) = some (1, d) :=
  fun d => by
    have e : q ++ [92, v] = (q ++ [92]) ++ [v] := by simp
    rw [e, scan_snoc ((scan_snoc (h d)).trans (stp_back d)), stp_esc]
theorem quote_end {q : List Int} (h : ∀ d, scan q (0, d) = some (1, d)) : ∀ d, scan (q ++ [34]) (0, d) = some (0, d) :=
  fun d => by rw [scan_snoc (h d), stp_strEnd]

set_option maxHeartbeats 1600000 in
theorem quote_any (a : Option Addr) (n cap : Nat) (l : List Int) (a2 : Option Addr) (m cap2 b off : Nat) (ct : List Int) (w : World) (H : Holds w a n cap l) (hb : n + 2 * m ≤ 1073741000) (ha2 : 0 < m → a2 = some ⟨b, off, none⟩)
    (hc : ∀ j, j < m → w.cell? ⟨b, off + j, none⟩ = some (.int .u8 (ct.getD j 0))) (hne : 0 < m → blk a ≠ some b) :
    Calls Try.prog 22 #[.slice a n cap, .slice a2 m cap2] w fun e w' => ∃ a' n' cap' q, e = .returned (.slice a' n' cap') ∧ Holds w' a' n' cap' (l ++ q) ∧ Grew w w' a a' ∧ (∀ d, scan q (0, d) = some (0, d)) ∧ q.length ≤ 2 * m + 2 ∧ n < n' := by
  have HL : Hid (n = l.length) := H.len
  go_enter Try.func22, Try.ntmps22
  go_wp2_with (at_builtin; refine wpList_app _ rfl _ _ rfl a n cap l rfl (H.alloc _) _ 1 1 [34] rfl (Holds.one _ 34) (by omega) ?_; intro a1 c1 w1 H1 G1)
  have HG : Grew w w1 a a1 := (Grew.alloc w _ a).trans G1
  clear G1
  go_loopw [0, 5] (fun s i wr => ∃ (k : Nat) (a' : Option Addr) (n' cap' : Nat) (q : List Int), k ≤ m ∧ i = .int .i64 k ∧ s = .slice a' n' cap' ∧ Holds wr a' n' cap' (l ++ q) ∧ Grew w wr a a' ∧ (∀ d, scan q (0, d) = some (1, d)) ∧ q.length ≤ 2 * k + 1 ∧ n < n')
    (fun _ i _ => m - (intOf i).toNat)
  case atStart => exact ⟨0, a1, n + 1, c1, [34], Nat.zero_le _, rfl, rfl, H1, HG, quote_start, by simp, by omega⟩
  case round =>
    obtain ⟨k, a', n', cap', q, hk, rfl, rfl, Hr, Gr, hq, hql, hnn⟩ := hrel
    have hn' : n' ≤ n + (2 * k + 1) := by
      have h1 := Hr.len
      rw [List.length_append, ← HL.out] at h1
      omega
    by_cases hlt : k < m
    · obtain rfl := ha2 (by omega)
      have hcx := Gr.cell (hc k hlt) (hne (by omega))
      generalize ct.getD k 0 = v at hcx
      clear hc H1 HG
      by_cases hesc : v = 34 ∨ v = 92
      · have Q2 : Hid (∀ d, scan (q ++ [92, v]) (0, d) = some (1, d)) := quote_esc hq
        clear hq
        have tt : (v == 34) = true ∨ ((v == 34) = false ∧ (v == 92) = true) := by
          rcases hesc with rfl | rfl
          · exact .inl rfl
          · exact .inr ⟨rfl, rfl⟩
        clear hesc
        rcases tt with t1 | ⟨t1, t2⟩
        all_goals
          go_wp2_with (first | (at_builtin; refine wpList_app _ rfl (.tmp 26) (.tmp 27) rfl a' n' cap' (l ++ q) rfl (Hr.alloc _) _ 1 1 [92] rfl (Holds.one _ 92) (by omega) ?_; intro a2 c2 w2 H2 G2) | (at_builtin; refine wpList_app _ rfl (.tmp 29) (.tmp 31) rfl a2 (n' + 1) c2 (l ++ q ++ [92]) rfl (H2.alloc _) _ 1 1 [v] rfl (Holds.one _ v) (by omega) ?_; intro a3 c3 w3 H3 G3))
          go_roundw
          case rel => exact ⟨k + 1, a3, n' + 1 + 1, c3, q ++ [92, v], by omega, by go_num, rfl, by simpa using H3, Gr.trans ((Grew.alloc _ _ _).trans (G2.trans ((Grew.alloc _ _ _).trans G3))), Q2.out, by simp; omega, by omega⟩
          case measure => simp [intOf]; omega
      · have n1 : ¬ v = 34 := fun e => hesc (.inl e)
        have n2 : ¬ v = 92 := fun e => hesc (.inr e)
        have Q2 : Hid (∀ d, scan (q ++ [v]) (0, d) = some (1, d)) := quote_plain hq n1 n2
        have t1 : (v == 34) = false := by simpa using n1
        have t2 : (v == 92) = false := by simpa using n2
        clear hq hesc n1 n2
        go_wp2_with (at_builtin; refine wpList_app _ rfl (.tmp 29) (.tmp 31) rfl a' n' cap' (l ++ q) rfl (Hr.alloc _) _ 1 1 [v] rfl (Holds.one _ v) (by omega) ?_; intro a3 c3 w3 H3 G3)
        go_roundw
        case rel => exact ⟨k + 1, a3, n' + 1, c3, q ++ [v], by omega, by go_num, rfl, by rw [← List.append_assoc]; exact H3, Gr.trans ((Grew.alloc _ _ _).trans G3), Q2.out, by simp; omega, by omega⟩
        case measure => simp [intOf]; omega
    · have hkm : Hid (k = m) := by show _ = _; omega
      clear hc H1 HG
      go_wp2_with (at_builtin; refine wpList_app _ rfl (.tmp 33) (.tmp 34) rfl a' n' cap' (l ++ q) rfl (Hr.alloc _) _ 1 1 [34] rfl (Holds.one _ 34) (by omega) ?_; intro a3 c3 w3 H3 G3)
      go_ret
      exact ⟨a3, n' + 1, c3, q ++ [34], rfl, by rw [← List.append_assoc]; exact H3, Gr.trans ((Grew.alloc _ _ _).trans G3), quote_end hq, by have := hkm.out; simp; omega, by omega⟩
end Go.Proofs.Qxb6002668a
