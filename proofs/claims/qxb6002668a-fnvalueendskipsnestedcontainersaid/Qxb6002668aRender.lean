/-
  Seat b6002668a (flumeward): the walk of zzrenderNested: what it writes is a closed container.
-/
import Derived.Test.Qxb6002668aInv
namespace Go.Proofs.Qxb6002668a
open Go.RowKit

set_option maxRecDepth 100000 in
set_option maxHeartbeats 4000000 in
theorem render_any (curly : Bool) (ao : Option Addr) (no co : Nat) (os : List Int) (at' : Option Addr) (nt ct : Nat) (ts : List Int) (w : World) (HO : Holds w ao no co os) (HT : Holds w at' nt ct ts)
    (hno : no ≤ 65536) (hnt : nt ≤ 1048576) (hby : ∀ j, 0 ≤ os.getD j 0 ∧ os.getD j 0 ≤ 255) :
    Calls Try.prog 25 #[.bool curly, .slice ao no co, .slice at' nt ct] w fun e w' => ∃ a' n' c' R, e = .returned (.slice a' n' c') ∧ Holds w' a' n' c' R ∧ Closed R ∧ n' ≤ 9 * no + 2 ∧ Below w.heap.size w w' := by
  have HB : Hid (∀ j, 0 ≤ os.getD j 0 ∧ os.getD j 0 ≤ 255) := hby
  clear hby
  have CO : ∀ k, k < no → ∃ g, ao = some ⟨g, 0, none⟩ ∧ g < w.heap.size ∧ w.cell? ⟨g, k, none⟩ = some (.int .u8 (os.getD k 0)) := by
    intro k hk
    obtain ⟨g, rfl, hg⟩ := HO.pos (by omega)
    exact ⟨g, rfl, hg, HO.cell k hk⟩
  have HCO : Hid (∀ k, k < no → ∃ g, ao = some ⟨g, 0, none⟩ ∧ g < w.heap.size ∧ w.cell? ⟨g, k, none⟩ = some (.int .u8 (os.getD k 0))) := CO
  clear CO
  obtain ⟨gt, TX⟩ : ∃ gt, ∀ (wr : World) (a : Option Addr) (p m : Nat), Below w.heap.size w wr → (∀ k, blk a = some k → w.heap.size ≤ k) → p + m ≤ nt →
      (0 < m → Option.map (fun x => x.add p) at' = some ⟨gt, p, none⟩) ∧ (∀ j, j < m → wr.cell? ⟨gt, p + j, none⟩ = some (.int .u8 ((ts.drop p).getD j 0))) ∧ (0 < m → blk a ≠ some gt) := by
    rcases HT.shape with ⟨_, h0, _⟩ | ⟨g, rfl⟩
    · exact ⟨0, fun wr a p m _ _ h => ⟨fun h' => by omega, fun j h' => by omega, fun h' => by omega⟩⟩
    · have hg := HT.lt g rfl
      refine ⟨g, fun wr a p m hb ho h => ⟨fun _ => by simp [Addr.add]; omega, fun j hj => ?_, fun _ e => by have := ho g e; omega⟩⟩
      rw [hb.cell (p := ⟨g, p + j, none⟩) hg, HT.cell (p + j) (by omega)]
      simp [List.getD]
  have HTX : Hid (∀ (wr : World) (a : Option Addr) (p m : Nat), Below w.heap.size w wr → (∀ k, blk a = some k → w.heap.size ≤ k) → p + m ≤ nt →
      (0 < m → Option.map (fun x => x.add p) at' = some ⟨gt, p, none⟩) ∧ (∀ j, j < m → wr.cell? ⟨gt, p + j, none⟩ = some (.int .u8 ((ts.drop p).getD j 0))) ∧ (0 < m → blk a ≠ some gt)) := TX
  clear TX
  have hct := HT.le.1
  clear HT HO
  cases curly
  all_goals
    go_enter Try.func25, Try.ntmps25
    go_wp2_with (first | (at_builtin; refine wpList_app _ rfl (.tmp 20) (.tmp 21) rfl none 0 0 [] rfl (Holds.nil _) _ 1 1 [91] rfl (Holds.one _ 91) (by omega) ?_; intro a1 c1 w1 H1 G1) | (at_builtin; refine wpList_app _ rfl (.tmp 23) (.tmp 24) rfl none 0 0 [] rfl (Holds.nil _) _ 1 1 [93] rfl (Holds.one _ 93) (by omega) ?_; intro a2 c2 w2 H2 G2) | (at_builtin; refine wpList_app _ rfl (.tmp 14) (.tmp 15) rfl none 0 0 [] rfl (Holds.nil _) _ 1 1 [123] rfl (Holds.one _ 123) (by omega) ?_; intro a1 c1 w1 H1 G1) | (at_builtin; refine wpList_app _ rfl (.tmp 17) (.tmp 18) rfl none 0 0 [] rfl (Holds.nil _) _ 1 1 [125] rfl (Holds.one _ 125) (by omega) ?_; intro a2 c2 w2 H2 G2))
    obtain ⟨o0, s0, RS⟩ : ∃ o0 s0, RInv w 0 w2 a1 1 c1 [o0] a2 1 c2 [s0] := by
      first
        | exact ⟨91, 93, RInv.start ((Grew.alloc _ _ _).trans G1) H1 ((Grew.alloc _ _ _).trans G2) H2 (.inr rfl) (.inr rfl)⟩
        | exact ⟨123, 125, RInv.start ((Grew.alloc _ _ _).trans G1) H1 ((Grew.alloc _ _ _).trans G2) H2 (.inl rfl) (.inl rfl)⟩
    clear H1 G1 H2 G2
    go_loopw [7, 8, 9, 10] (fun s t u i wr => ∃ (k : Nat) (a : Option Addr) (n c : Nat) (l : List Int) (a2 : Option Addr) (n2 c2 : Nat) (cl : List Int) (p : Nat), k ≤ no ∧ i = .int .i64 k ∧ s = .slice a n c ∧ t = .slice a2 n2 c2 ∧ u = .int .i64 p ∧ p ≤ nt ∧ RInv w k wr a n c l a2 n2 c2 cl)
      (fun _ _ _ i _ => no - (intOf i).toNat)
    case atStart => exact ⟨0, a1, 1, c1, [o0], a2, 1, c2, [s0], 0, Nat.zero_le _, rfl, rfl, rfl, rfl, Nat.zero_le _, RS⟩
    case round =>
      clear RS
      obtain ⟨k, a, n, c, l, a2, n2, c2, cl, p, hk, rfl, rfl, rfl, rfl, hp, RI⟩ := hrel
      have b1 := RI.few
      have b2 := RI.short
      have b3 := RI.one
      by_cases hlt : k < no
      · obtain ⟨g, rfl, hg, hcell⟩ := HCO.out k hlt
        have hcx : wr.cell? ⟨g, k, none⟩ = some (.int .u8 (os.getD k 0)) := (RI.bel.cell (by exact hg)).trans hcell
        have hv := HB.out k
        clear hcell
        generalize os.getD k 0 = v at hcx hv
        obtain ⟨hv0, hv1⟩ := hv
        have hcases : v % 8 = 0 ∨ v % 8 = 1 ∨ v % 8 = 2 ∨ v % 8 = 3 ∨ v % 8 = 4 ∨ v % 8 = 5 ∨ v % 8 = 6 ∨ v % 8 = 7 := by omega
        rcases hcases with hr | hr | hr | hr | hr | hr | hr | hr
        · -- '['
          go_wp2_with (first | (at_builtin; refine wpList_app _ rfl (.tmp 42) (.tmp 43) rfl a n c l rfl (RI.out.alloc _) _ 1 1 [91] rfl (Holds.one _ 91) (by omega) ?_; intro a3 c3 w3 H3 G3; have K3 := (((Grew.alloc _ _ _).trans G3).other RI.clo RI.apart).1) | (at_builtin; refine wpList_app _ rfl (.tmp 45) (.tmp 46) rfl a2 n2 c2 cl rfl (K3.alloc _) _ 1 1 [93] rfl (Holds.one _ 93) (by omega) ?_; intro a4 c4 w4 H4 G4))
          go_roundw
          case rel => exact ⟨k + 1, _, _, _, _, _, _, _, _, p, by omega, by go_num, rfl, rfl, rfl, hp, RI.opened ((Grew.alloc _ _ _).trans G3) H3 ((Grew.alloc _ _ _).trans G4) H4 (.inr rfl) (.inr rfl)⟩
          case measure => simp [intOf]; omega
        · -- an opening brace
          go_wp2_with (first | (at_builtin; refine wpList_app _ rfl (.tmp 50) (.tmp 51) rfl a n c l rfl (RI.out.alloc _) _ 1 1 [123] rfl (Holds.one _ 123) (by omega) ?_; intro a3 c3 w3 H3 G3; have K3 := (((Grew.alloc _ _ _).trans G3).other RI.clo RI.apart).1) | (at_builtin; refine wpList_app _ rfl (.tmp 53) (.tmp 54) rfl a2 n2 c2 cl rfl (K3.alloc _) _ 1 1 [125] rfl (Holds.one _ 125) (by omega) ?_; intro a4 c4 w4 H4 G4))
          go_roundw
          case rel => exact ⟨k + 1, _, _, _, _, _, _, _, _, p, by omega, by go_num, rfl, rfl, rfl, hp, RI.opened ((Grew.alloc _ _ _).trans G3) H3 ((Grew.alloc _ _ _).trans G4) H4 (.inl rfl) (.inl rfl)⟩
          case measure => simp [intOf]; omega
        · by_cases hm : 1 < n2
          · obtain ⟨m2, rfl⟩ : ∃ m2, n2 = m2 + 1 := ⟨n2 - 1, by omega⟩
            obtain ⟨g2, rfl, hg2⟩ := RI.clo.pos (by omega)
            have hcc := RI.clo.cell m2 (by omega)
            have hcap := RI.clo.le.1
            have HRC := fun w1 a' n' c' (G : Grew wr w1 a a') H => RI.closed (by omega : 1 ≤ m2) (w1 := w1) (a' := a') (n' := n') (c' := c') G H
            generalize cl.getD m2 0 = x at hcc HRC
            go_wp2_with (at_builtin; refine wpList_app _ rfl (.tmp 61) (.tmp 68) rfl a n c l rfl (RI.out.alloc _) _ 1 1 [x] rfl (Holds.one _ x) (by omega) ?_; intro a3 c3 w3 H3 G3)
            go_roundw
            case rel => exact ⟨k + 1, _, _, _, _, _, _, _, _, p, by omega, by go_num, rfl, rfl, rfl, hp, HRC _ _ _ _ ((Grew.alloc _ _ _).trans G3) H3⟩
            case measure => simp [intOf]; omega
          · have hm1 : Hid (n2 = 1) := by show _ = _; omega
            go_wp2_with (at_builtin; refine wpList_app _ rfl (.tmp 75) (.tmp 76) rfl a n c l rfl (RI.out.alloc _) _ 1 1 [44] rfl (Holds.one _ 44) (by omega) ?_; intro a3 c3 w3 H3 G3)
            go_roundw
            case rel => exact ⟨k + 1, _, _, _, _, _, _, _, _, p, by omega, by go_num, rfl, rfl, rfl, hp, RI.more ((Grew.alloc _ _ _).trans G3) H3 (scan_still 44 (by omega) (by omega) (by omega)) (by simp)⟩
            case measure => simp [intOf]; omega
        · -- a string
          have hg1 := fun m h => HTX.out wr a p m RI.bel RI.own h
          have QC : Hid (∀ m, p + m ≤ nt → (0 < m → Option.map (fun x => x.add p) at' = some ⟨gt, p, none⟩) ∧ (∀ j, j < m → wr.cell? ⟨gt, p + j, none⟩ = some (.int .u8 ((ts.drop p).getD j 0))) ∧ (0 < m → blk a ≠ some gt)) := hg1
          clear hg1
          by_cases hlong : 3 < nt - p
          · go_wp2_with fail
            refine (quote_any a n c l _ _ _ gt p (ts.drop p) _ RI.out (by omega) (QC.out 3 (by omega)).1 (QC.out 3 (by omega)).2.1 (QC.out 3 (by omega)).2.2).mono ?_
            rintro e w3 ⟨a3, n3, c3, q, rfl, H3, G3, hq, hql, hnn⟩
            go_wp2
            go_roundw
            case rel => exact ⟨k + 1, _, _, _, _, _, _, _, _, p + 3, by omega, by go_num, rfl, rfl, by go_num, by omega, RI.more G3 H3 hq (by omega)⟩
            case measure => simp [intOf]; omega
          · by_cases hcp : ct = p
            · subst hcp
              clear QC
              go_wp2_with fail
              refine (quote_any a n c l _ _ _ gt 0 [] _ RI.out (by omega) (by intro h; omega) (by intro j h; omega) (by intro h; omega)).mono ?_
              rintro e w3 ⟨a3, n3, c3, q, rfl, H3, G3, hq, hql, hnn⟩
              go_wp2
              go_roundw
              case rel => exact ⟨k + 1, _, _, _, _, _, _, _, _, nt, by omega, by go_num, rfl, rfl, by go_num, by omega, RI.more G3 H3 hq (by omega)⟩
              case measure => simp [intOf]; omega
            · go_wp2_with fail
              refine (quote_any a n c l _ _ _ gt p (ts.drop p) _ RI.out (by omega) (QC.out (nt - p) (by omega)).1 (QC.out (nt - p) (by omega)).2.1 (QC.out (nt - p) (by omega)).2.2).mono ?_
              rintro e w3 ⟨a3, n3, c3, q, rfl, H3, G3, hq, hql, hnn⟩
              go_wp2
              go_roundw
              case rel => exact ⟨k + 1, _, _, _, _, _, _, _, _, nt, by omega, by go_num, rfl, rfl, by go_num, by omega, RI.more G3 H3 hq (by omega)⟩
              case measure => simp [intOf]; omega
        · -- '12'
          go_wp2_with (at_builtin; refine wpList_app _ rfl (.tmp 99) (.tmp 100) rfl a n c l rfl (RI.out.alloc _) _ 2 2 [49, 50] rfl (Holds.two _ 49 50) (by omega) ?_; intro a3 c3 w3 H3 G3)
          go_roundw
          case rel => exact ⟨k + 1, _, _, _, _, _, _, _, _, p, by omega, by go_num, rfl, rfl, rfl, hp, RI.more ((Grew.alloc _ _ _).trans G3) H3 (scan_twelve) (by simp)⟩
          case measure => simp [intOf]; omega
        · -- ','
          go_wp2_with (at_builtin; refine wpList_app _ rfl (.tmp 104) (.tmp 105) rfl a n c l rfl (RI.out.alloc _) _ 1 1 [44] rfl (Holds.one _ 44) (by omega) ?_; intro a3 c3 w3 H3 G3)
          go_roundw
          case rel => exact ⟨k + 1, _, _, _, _, _, _, _, _, p, by omega, by go_num, rfl, rfl, rfl, hp, RI.more ((Grew.alloc _ _ _).trans G3) H3 (scan_still 44 (by omega) (by omega) (by omega)) (by simp)⟩
          case measure => simp [intOf]; omega
        · -- ':'
          go_wp2_with (at_builtin; refine wpList_app _ rfl (.tmp 109) (.tmp 110) rfl a n c l rfl (RI.out.alloc _) _ 1 1 [58] rfl (Holds.one _ 58) (by omega) ?_; intro a3 c3 w3 H3 G3)
          go_roundw
          case rel => exact ⟨k + 1, _, _, _, _, _, _, _, _, p, by omega, by go_num, rfl, rfl, rfl, hp, RI.more ((Grew.alloc _ _ _).trans G3) H3 (scan_still 58 (by omega) (by omega) (by omega)) (by simp)⟩
          case measure => simp [intOf]; omega
        · -- ' '
          go_wp2_with (at_builtin; refine wpList_app _ rfl (.tmp 37) (.tmp 38) rfl a n c l rfl (RI.out.alloc _) _ 1 1 [32] rfl (Holds.one _ 32) (by omega) ?_; intro a3 c3 w3 H3 G3)
          go_roundw
          case rel => exact ⟨k + 1, _, _, _, _, _, _, _, _, p, by omega, by go_num, rfl, rfl, rfl, hp, RI.more ((Grew.alloc _ _ _).trans G3) H3 (scan_still 32 (by omega) (by omega) (by omega)) (by simp)⟩
          case measure => simp [intOf]; omega
      · have hko : Hid (k = no) := by show _ = _; omega
        obtain ⟨wo, rfl⟩ : ∃ wo : World, wo = wr := ⟨_, rfl⟩
        obtain ⟨g2, rfl, hg2⟩ := RI.clo.pos (by omega)
        go_wp2
        go_loopw [7, 12] (fun s i wr => ∃ (j : Nat) (a' : Option Addr) (n' c' : Nat), j ≤ n2 ∧ i = .int .i64 ((j : Int) - 1) ∧ s = .slice a' n' c' ∧ Holds wr a' n' c' (l ++ (cl.drop j).reverse) ∧ Grew wo wr a a')
          (fun _ i _ => (intOf i + 1).toNat)
        case atStart => exact ⟨n2, a, n, c, Nat.le_refl _, rfl, rfl, by rw [RI.clo.len, List.drop_length]; simpa using RI.out, Grew.refl _ _⟩
        case round =>
          obtain ⟨j, a', n', c', hj, rfl, rfl, HR, GR⟩ := hrel
          have hn' : n' ≤ n + n2 := by
            have e1 := HR.len
            have e2 := RI.out.len
            have e3 := RI.clo.len
            rw [List.length_append, List.length_reverse, List.length_drop] at e1
            omega
          cases j with
          | zero =>
            go_wp2
            go_ret
            have hcl := closed_of (by have := RI.out.len; have := RI.pos; omega) RI.head (by rw [← RI.clo.len]; exact RI.bal) (by rw [← RI.clo.len]; exact RI.one) RI.cls
            refine ⟨a', n', c', _, rfl, HR, by simpa using hcl, by omega, RI.bel.trans (GR.below RI.size RI.own)⟩
          | succ i =>
            have hcc := (GR.other RI.clo RI.apart).1.cell i (by omega)
            have e : l ++ (cl.drop i).reverse = l ++ (cl.drop (i + 1)).reverse ++ [cl.getD i 0] := by
              have hlt : i < cl.length := by have := RI.clo.len; omega
              rw [List.drop_eq_getElem_cons hlt, List.reverse_cons, ← List.append_assoc]
              simp [List.getD, hlt]
            have HE : Hid (l ++ (cl.drop i).reverse = l ++ (cl.drop (i + 1)).reverse ++ [cl.getD i 0]) := e
            clear e
            generalize cl.getD i 0 = x at hcc HE
            go_wp2_with (at_builtin; refine wpList_app _ rfl (.tmp 119) (.tmp 124) rfl a' n' c' _ rfl (HR.alloc _) _ 1 1 [x] rfl (Holds.one _ x) (by omega) ?_; intro a3 c3 w3 H3 G3)
            go_roundw
            case rel => exact ⟨i, a3, n' + 1, c3, by omega, by go_num, rfl, by rw [HE.out]; exact H3, GR.trans ((Grew.alloc _ _ _).trans G3)⟩
            case measure => simp [intOf]
end Go.Proofs.Qxb6002668a
