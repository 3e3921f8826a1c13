/-
  Seat b6602804a (regroute): the walk of isLDHName.
-/
import Derived.Test.Qxb6602804aModel
namespace Go.Proofs.Qxb6602804a
open Go.RowKit

theorem len_list (s : ByteArray) : s.data.toList.length = s.size := by simp
theorem none_yes (s : ByteArray) (h : s.size = 0) : s.toList.isEmpty = true := by
  rw [ByteArray.toList_eq, List.isEmpty_iff]
  exact List.eq_nil_of_length_eq_zero (by simpa using h)
theorem none_no (s : ByteArray) (h : 0 < s.size) : s.toList.isEmpty = false := by
  rw [ByteArray.toList_eq]
  cases e : s.data.toList with
  | nil => have := len_list s; rw [e] at this; simp at this; omega
  | cons _ _ => rfl

/-- The third and fourth byte, cut out: two hyphens? -/
theorem dashes (lb : ByteArray) (h : 4 ≤ lb.size) : ((lb.extract 2 4).toList == [45, 45]) = true ↔ fb lb 2 = 45 ∧ fb lb 3 = 45 := by
  have e : (lb.extract 2 4).toList = [lb[2], lb[3]] := by
    rw [ByteArray.toList_eq]
    apply List.ext_getElem
    · rw [len_list, size_ext lb 2 4 h]; rfl
    · intro i h1 h2
      have h3 : i < (lb.extract 2 4).size := by rw [len_list] at h1; exact h1
      have e1 : (lb.extract 2 4).data.toList[i] = (lb.extract 2 4)[i] := rfl
      rw [e1, ByteArray.getElem_extract]
      match i, h2 with
      | 0, _ => rfl
      | 1, _ => rfl
      | i + 2, h2 => exact absurd h2 (by simp)
  rw [e, ← fb_get lb 2 (by omega), ← fb_get lb 3 (by omega)]
  have u : ∀ c : UInt8, c = 45 ↔ (c.toNat : Int) = 45 := fun c => by
    rw [← UInt8.toNat_inj]
    constructor
    · intro h; rw [h]; rfl
    · intro h; have : c.toNat = 45 := by omega
      rw [this]; rfl
  rw [beq_iff_eq]
  simp only [List.cons.injEq, and_true]
  rw [u, u]

/-- What holds at the head of a round: the piece that is being read begins at a; up to k it has no dot and no byte that a label may not hold. -/
structure Read (s : ByteArray) (a k : Nat) : Prop where
  upto : Upto (fb s) s.size a
  le : a ≤ k
  last : k = s.size + 1 → a = s.size + 1
  plain : ∀ i, a ≤ i → i < k → ¬ fb s i = 46 ∧ Ldh (fb s i)

theorem Read.start (s : ByteArray) : Read s 0 0 := ⟨Upto.start _ _, Nat.le_refl _, fun h => by omega, fun i h1 h2 => by omega⟩

theorem Read.left {s : ByteArray} {a k : Nat} (h : Read s a k) (hk : k ≤ s.size) : a = 0 ∨ fb s (a - 1) = 46 := by
  have := h.le
  rcases h.upto.left with h | h | h
  · exact .inl h
  · exact .inr h
  · omega

theorem Read.more {s : ByteArray} {a k : Nat} (h : Read s a k) (hk : k < s.size) (hd : ¬ fb s k = 46) (hl : Ldh (fb s k)) : Read s a (k + 1) :=
  ⟨h.upto, by have := h.le; omega, fun e => by omega, fun i h1 h2 => by
    by_cases e : i = k
    · subst e; exact ⟨hd, hl⟩
    · exact h.plain i h1 (by omega)⟩

theorem Read.bad {s : ByteArray} {a k : Nat} (h : Read s a k) (hk : k < s.size) (hd : ¬ fb s k = 46) (hl : ¬ Ldh (fb s k)) : ¬ Named s := fun hn =>
  not_good_byte (h.left (by omega)) h.le hk (fun i h1 h2 => (h.plain i h1 h2).1) hd hl hn.2

theorem Read.piece {s : ByteArray} {a k : Nat} (h : Read s a k) (hk : k ≤ s.size) (hr : k = s.size ∨ fb s k = 46) : Piece (fb s) s.size a k :=
  ⟨h.le, hk, fun i h1 h2 => (h.plain i h1 h2).1, h.left hk, hr⟩

theorem Read.next {s : ByteArray} {a k : Nat} (h : Read s a k) (hk : k ≤ s.size) (hr : k = s.size ∨ fb s k = 46) (hok : OkL (fb s) a k) : Read s (k + 1) (k + 1) :=
  ⟨h.upto.next (h.piece hk hr) hok, Nat.le_refl _, fun e => by omega, fun i h1 h2 => by omega⟩

set_option maxHeartbeats 4000000 in
theorem isLDHName_any (s : ByteArray) (w : World) (hs : s.size ≤ 1048576) :
    Calls Try.prog 17 #[.string s] w fun e w' => Ans e (Named s) ∧ w = w' := by
  by_cases hbig : 253 < s.size
  · go_enter Try.func17, Try.ntmps17
    go_wp2
    go_ret
    exact ⟨Ans.no (fun h => by have := h.1; omega), rfl⟩
  · go_enter Try.func17, Try.ntmps17
    go_wp2
    go_loop [3, 4] (fun t i => ∃ a k : Nat, k ≤ s.size + 1 ∧ t = .int .i64 a ∧ i = .int .i64 k ∧ Hid (Read s a k)) (fun _ i => s.size + 1 - (intOf i).toNat)
    case atStart => exact ⟨0, 0, Nat.zero_le _, rfl, rfl, Read.start s⟩
    case round =>
      obtain ⟨a, k, hk, rfl, rfl, hR⟩ := hrel
      by_cases hle : k ≤ s.size
      · have hak : a ≤ k := hR.out.le
        have lab : Hid ((k = s.size ∨ fb s k = 46) → ∀ lb : ByteArray, s.extract a k = lb → lb.size ≤ 253 ∧ (OkL (fb lb) 0 lb.size → Read s (k + 1) (k + 1)) ∧ (¬ OkL (fb lb) 0 lb.size → ¬ Named s) ∧ ∀ i, i < lb.size → Ldh (fb lb i)) := by
          rintro hr lb rfl
          have hx := okL_ext s a k hak hle
          refine ⟨by rw [size_ext s a k hle]; omega, fun ho => hR.out.next hle hr (hx.1 ho), fun hno hn => hno (hx.2 (hn.2 a k (hR.out.piece hle hr))), fun i hi => ?_⟩
          rw [size_ext s a k hle] at hi
          rw [fb_ext s a k hle i hi]
          exact (hR.out.plain (a + i) (by omega) (by omega)).2
        by_cases hlt : k < s.size
        · have ek := fb_get s k hlt
          have bd := fb_bd s k
          have H1 : Hid (¬ fb s k = 46 → Ldh (fb s k) → Read s a (k + 1)) := hR.out.more hlt
          have H2 : Hid (¬ fb s k = 46 → ¬ Ldh (fb s k) → ¬ Named s) := hR.out.bad hlt
          generalize fb s k = v at ek bd H1 H2 lab
          obtain ⟨bd0, bd1⟩ := bd
          cases t : (v != 46)
          · have lab2 := lab.out (.inr (by simpa using t))
            clear H1 H2 lab
            obtain ⟨lb, hE⟩ : ∃ lb, s.extract a k = lb := ⟨_, rfl⟩
            obtain ⟨l253, lok, lno, lch⟩ := lab2 lb hE
            clear lab2
            have LOK : Hid (OkL (fb lb) 0 lb.size → Read s (k + 1) (k + 1)) := lok
            have LNO : Hid (¬ OkL (fb lb) 0 lb.size → ¬ Named s) := lno
            have LCH : Hid (∀ i, i < lb.size → Ldh (fb lb i)) := lch
            clear lok lno lch
            by_cases z0 : lb.size = 0
            · have ez := none_yes lb z0
              have HX : Hid (¬ Named s) := LNO.out (fun o => by have := o.some; omega)
              clear z0
              go_wp2
              go_ret
              exact ⟨Ans.no HX.out, rfl⟩
            · have zp : 0 < lb.size := by omega
              have ez := none_no lb zp
              clear z0
              by_cases z63 : 63 < lb.size
              · have HX : Hid (¬ Named s) := LNO.out (fun o => by have := o.short; omega)
                go_wp2
                go_ret
                exact ⟨Ans.no HX.out, rfl⟩
              · have e0 := fb_get lb 0 (by omega)
                have en := fb_get lb (lb.size - 1) (by omega)
                generalize hv0 : fb lb 0 = v0 at e0
                generalize hvn : fb lb (lb.size - 1) = vn at en
                have HV : Hid (fb lb 0 = v0 ∧ fb lb (lb.size - 1) = vn) := ⟨hv0, hvn⟩
                clear hv0 hvn
                cases t1 : (v0 == 45)
                · cases t2 : (vn == 45)
                  · have HM : Hid (¬ (4 ≤ lb.size ∧ fb lb 2 = 45 ∧ fb lb 3 = 45) → Read s (k + 1) (k + 1)) := fun h3 => LOK.out ⟨zp, by omega, by rw [HV.out.1]; simpa using t1, by rw [HV.out.2]; simpa using t2, by simpa using h3, fun i _ h => LCH.out i h⟩
                    by_cases h4 : 4 ≤ lb.size
                    · have HD := dashes lb h4
                      cases t5 : ((lb.extract 2 4).toList == [45, 45])
                      · have HX : Hid (Read s (k + 1) (k + 1)) := HM.out (fun h => by rw [HD.2 h.2] at t5; cases t5)
                        clear HD
                        go_wp2
                        go_round
                        case rel => exact ⟨k + 1, k + 1, by omega, by go_num, by go_num, HX⟩
                        case measure => simp [intOf]; omega
                      · have HX : Hid (¬ Named s) := LNO.out (fun o => o.third ⟨h4, (HD.1 t5).1, (HD.1 t5).2⟩)
                        clear HD
                        go_wp2
                        go_ret
                        exact ⟨Ans.no HX.out, rfl⟩
                    · have HX : Hid (Read s (k + 1) (k + 1)) := HM.out (fun h => h4 h.1)
                      go_wp2
                      go_round
                      case rel => exact ⟨k + 1, k + 1, by omega, by go_num, by go_num, HX⟩
                      case measure => simp [intOf]; omega
                  · have HX : Hid (¬ Named s) := LNO.out (fun o => by have := o.last; rw [HV.out.2] at this; exact this (by simpa using t2))
                    go_wp2
                    go_ret
                    exact ⟨Ans.no HX.out, rfl⟩
                · have HX : Hid (¬ Named s) := LNO.out (fun o => by have := o.first; rw [HV.out.1] at this; exact this (by simpa using t1))
                  go_wp2
                  go_ret
                  exact ⟨Ans.no HX.out, rfl⟩
          · have hnd : ¬ v = 46 := by simpa using t
            clear lab
            by_cases hL : Ldh v
            · have HL : Hid (Ldh v) := hL
              have HX : Hid (Read s a (k + 1)) := H1.out hnd hL
              clear hL H1 H2 hnd
              go_wp2_with (go_at_call 19; refine (ldh_yes v _ HL.out).mono ?_; rintro e w' ⟨rfl, rfl⟩)
              go_round
              case rel => exact ⟨a, k + 1, by omega, rfl, by go_num, HX⟩
              case measure => simp [intOf]; omega
            · have HL : Hid (¬ Ldh v ∧ ¬ v = 46) := ⟨hL, hnd⟩
              have HX : Hid (¬ Named s) := H2.out hnd hL
              clear hL H1 H2 hnd
              go_wp2_with (go_at_call 19; refine (ldh_no v _ HL.out.1 HL.out.2).mono ?_; rintro e w' ⟨rfl, rfl⟩)
              go_ret
              exact ⟨Ans.no HX.out, rfl⟩
        · have lab2 := lab.out (.inl (by omega))
          clear lab
          obtain ⟨lb, hE⟩ : ∃ lb, s.extract a k = lb := ⟨_, rfl⟩
          obtain ⟨l253, lok, lno, lch⟩ := lab2 lb hE
          clear lab2
          have LOK : Hid (OkL (fb lb) 0 lb.size → Read s (k + 1) (k + 1)) := lok
          have LNO : Hid (¬ OkL (fb lb) 0 lb.size → ¬ Named s) := lno
          have LCH : Hid (∀ i, i < lb.size → Ldh (fb lb i)) := lch
          clear lok lno lch
          by_cases z0 : lb.size = 0
          · have ez := none_yes lb z0
            have HX : Hid (¬ Named s) := LNO.out (fun o => by have := o.some; omega)
            clear z0
            go_wp2
            go_ret
            exact ⟨Ans.no HX.out, rfl⟩
          · have zp : 0 < lb.size := by omega
            have ez := none_no lb zp
            clear z0
            by_cases z63 : 63 < lb.size
            · have HX : Hid (¬ Named s) := LNO.out (fun o => by have := o.short; omega)
              go_wp2
              go_ret
              exact ⟨Ans.no HX.out, rfl⟩
            · have e0 := fb_get lb 0 (by omega)
              have en := fb_get lb (lb.size - 1) (by omega)
              generalize hv0 : fb lb 0 = v0 at e0
              generalize hvn : fb lb (lb.size - 1) = vn at en
              have HV : Hid (fb lb 0 = v0 ∧ fb lb (lb.size - 1) = vn) := ⟨hv0, hvn⟩
              clear hv0 hvn
              cases t1 : (v0 == 45)
              · cases t2 : (vn == 45)
                · have HM : Hid (¬ (4 ≤ lb.size ∧ fb lb 2 = 45 ∧ fb lb 3 = 45) → Read s (k + 1) (k + 1)) := fun h3 => LOK.out ⟨zp, by omega, by rw [HV.out.1]; simpa using t1, by rw [HV.out.2]; simpa using t2, by simpa using h3, fun i _ h => LCH.out i h⟩
                  by_cases h4 : 4 ≤ lb.size
                  · have HD := dashes lb h4
                    cases t5 : ((lb.extract 2 4).toList == [45, 45])
                    · have HX : Hid (Read s (k + 1) (k + 1)) := HM.out (fun h => by rw [HD.2 h.2] at t5; cases t5)
                      clear HD
                      go_wp2
                      go_round
                      case rel => exact ⟨k + 1, k + 1, by omega, by go_num, by go_num, HX⟩
                      case measure => simp [intOf]; omega
                    · have HX : Hid (¬ Named s) := LNO.out (fun o => o.third ⟨h4, (HD.1 t5).1, (HD.1 t5).2⟩)
                      clear HD
                      go_wp2
                      go_ret
                      exact ⟨Ans.no HX.out, rfl⟩
                  · have HX : Hid (Read s (k + 1) (k + 1)) := HM.out (fun h => h4 h.1)
                    go_wp2
                    go_round
                    case rel => exact ⟨k + 1, k + 1, by omega, by go_num, by go_num, HX⟩
                    case measure => simp [intOf]; omega
                · have HX : Hid (¬ Named s) := LNO.out (fun o => by have := o.last; rw [HV.out.2] at this; exact this (by simpa using t2))
                  go_wp2
                  go_ret
                  exact ⟨Ans.no HX.out, rfl⟩
              · have HX : Hid (¬ Named s) := LNO.out (fun o => by have := o.first; rw [HV.out.1] at this; exact this (by simpa using t1))
                go_wp2
                go_ret
                exact ⟨Ans.no HX.out, rfl⟩
      · have hg : Hid (Good (fb s) s.size) := hR.out.upto.good (by have := hR.out.last (by omega); omega)
        go_wp2
        go_ret
        exact ⟨Ans.yes ⟨by omega, hg.out⟩, rfl⟩
end Go.Proofs.Qxb6602804a
