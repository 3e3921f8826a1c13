/-
  Seat b6002668a (flumeward): slices of bytes that the call itself makes: 'Holds', what an append does to one ('Grew'), and the law for the walk. Over the kit's own laws on append.
-/
import Derived.Test.Qxb6002668aRows
import Derived.Test.Qxb6002668aPlain
import Derived.WalkKit
import Derived.WalkSpells
import Derived.ProofKit
import Derived.Below
import Derived.Laws.AppendOwnNone
import Derived.WalkSmall
namespace Go.Proofs.Qxb6002668a
open Go.RowKit

theorem Try.info5 : (Try.prog.info? 5).map (fun i => (i.zero, i.size, i.bytes)) = some (some (.int .u8 0), 1, 1) := by kernel_rfl

/-- The slice (a, n, cap) is the call's own and holds the bytes l. -/
def Holds (w : World) (a : Option Addr) (n cap : Nat) (l : List Int) : Prop :=
  n = l.length ∧ w.ownsRow 0 5 1 (.slice a n cap) n (l.map (Value.int .u8))

/-- The block in which a slice lies. -/
def blk (a : Option Addr) : Option Nat := a.map Addr.block

theorem ownBlock_slice (a : Option Addr) (n cap : Nat) : (Value.slice a n cap).ownBlock = blk a := by cases a <;> rfl

theorem Holds.len {w : World} {a : Option Addr} {n cap : Nat} {l : List Int} (h : Holds w a n cap l) : n = l.length := h.1

theorem Holds.lt {w : World} {a : Option Addr} {n cap : Nat} {l : List Int} (h : Holds w a n cap l) : ∀ k, blk a = some k → k < w.heap.size := by
  intro k hk
  exact (h.2.lt k (by rw [ownBlock_slice]; exact hk)).2

theorem Holds.shape {w : World} {a : Option Addr} {n cap : Nat} {l : List Int} (h : Holds w a n cap l) : (a = none ∧ n = 0 ∧ cap = 0) ∨ ∃ g, a = some ⟨g, 0, none⟩ := by
  rcases h.2.2 with ⟨hv, hn⟩ | ⟨g, c', cur, hv, _⟩
  · simp at hv; exact .inl hv
  · simp at hv; exact .inr ⟨g, hv.1⟩

theorem Holds.pos {w : World} {a : Option Addr} {n cap : Nat} {l : List Int} (h : Holds w a n cap l) (hn : 0 < n) : ∃ g, a = some ⟨g, 0, none⟩ ∧ g < w.heap.size := by
  rcases h.shape with ⟨_, h0, _⟩ | ⟨g, rfl⟩
  · omega
  · exact ⟨g, rfl, h.lt g rfl⟩

theorem Holds.le {w : World} {a : Option Addr} {n cap : Nat} {l : List Int} (h : Holds w a n cap l) : n ≤ cap ∧ cap ≤ maxLen := by
  rcases h.2.2 with ⟨hv, hn⟩ | ⟨g, c', cur, hv, _, _, h1, h2, _⟩
  · simp at hv; omega
  · simp at hv; omega

theorem Holds.cell {w : World} {g n cap : Nat} {l : List Int} (h : Holds w (some ⟨g, 0, none⟩) n cap l) (j : Nat) (hj : j < n) : w.cell? ⟨g, j, none⟩ = some (.int .u8 (l.getD j 0)) := by
  rw [h.2.cellAt j (by omega)]
  have := h.1
  simp [List.getD, show j < l.length by omega]

theorem Holds.nil (w : World) : Holds w none 0 0 [] := ⟨rfl, World.ownsRow_nil w 0 5 1⟩

theorem Holds.kept {w w' : World} {a : Option Addr} {n cap : Nat} {l : List Int} {row : Option Nat} (h : Holds w a n cap l) (hg : w.grownBy w' row) (hne : blk a = none ∨ blk a ≠ row) : Holds w' a n cap l :=
  ⟨h.1, h.2.kept hg (by rw [ownBlock_slice]; exact hne)⟩

theorem Holds.below {w w' : World} {a : Option Addr} {n cap : Nat} {l : List Int} {B : Nat} (h : Holds w a n cap l) (hb : Below B w w') (hB : ∀ k, blk a = some k → k < B) : Holds w' a n cap l := by
  refine ⟨h.1, h.2.1, ?_⟩
  rcases h.2.2 with hn | ⟨g, c', cur, hv, h0, hg, r⟩
  · exact .inl hn
  · refine .inr ⟨g, c', cur, hv, h0, ?_, r⟩
    simp at hv
    rw [hb.block g (hB g (by rw [hv.1]; rfl))]
    exact hg

theorem Holds.later {w w' : World} {a : Option Addr} {n cap : Nat} {l : List Int} (h : Holds w a n cap l) (hb : Below w.heap.size w w') : Holds w' a n cap l := h.below hb h.lt

theorem Holds.alloc {w : World} {a : Option Addr} {n cap : Nat} {l : List Int} (h : Holds w a n cap l) (o : Obj) : Holds (w.alloc o) a n cap l := ⟨h.1, h.2.alloc o⟩

theorem Holds.one (w : World) (c : Int) : Holds (w.alloc (.cells #[.int .u8 c] 5)) (some ⟨w.heap.size, 0, none⟩) 1 1 [c] :=
  ⟨rfl, World.ownsRow_lit w #[.int .u8 c] 1 (Nat.zero_le _) (by unfold maxLen; omega) rfl⟩
theorem Holds.two (w : World) (c d : Int) : Holds (w.alloc (.cells #[.int .u8 c, .int .u8 d] 5)) (some ⟨w.heap.size, 0, none⟩) 2 2 [c, d] :=
  ⟨rfl, World.ownsRow_lit w #[.int .u8 c, .int .u8 d] 2 (Nat.zero_le _) (by unfold maxLen; omega) rfl⟩

/-- Cut off at its end: 's = s[:m]'. -/
theorem Holds.cut {w : World} {g n cap : Nat} {l : List Int} (h : Holds w (some ⟨g, 0, none⟩) n cap l) (m : Nat) (hm : m ≤ n) : Holds w (some ⟨g, 0, none⟩) m cap (l.take m) := by
  have h1 := h.1
  refine ⟨by simp; omega, by simp; omega, ?_⟩
  rcases h.2.2 with ⟨hv, _⟩ | ⟨g', c', cur, hv, h0, hg, hnc, hcm, hcs, htake⟩
  · simp at hv
  · simp at hv
    obtain ⟨rfl, rfl⟩ := hv
    refine .inr ⟨g, cap, cur, rfl, h0, hg, by omega, hcm, hcs, ?_⟩
    rw [List.map_take, ← htake, List.take_take]
    congr 1
    omega

/-- What an append leaves: old memory but for the slice's own row as it was; the new slice lies in the old one's row or in a new one. -/
structure Grew (w w' : World) (a a' : Option Addr) : Prop where
  grown : w.grownBy w' (blk a)
  place : blk a' = blk a ∨ ∃ k, blk a' = some k ∧ w.heap.size ≤ k

theorem Grew.refl (w : World) (a : Option Addr) : Grew w w a a := ⟨World.grownBy.refl _ _, .inl rfl⟩
theorem Grew.alloc (w : World) (o : Obj) (a : Option Addr) : Grew w (w.alloc o) a a := ⟨World.grownBy_alloc w o _, .inl rfl⟩
theorem Grew.trans {w w1 w2 : World} {a a1 a2 : Option Addr} (h : Grew w w1 a a1) (k : Grew w1 w2 a1 a2) : Grew w w2 a a2 := by
  have hsz := h.grown.size
  refine ⟨⟨k.grown.os.trans h.grown.os, k.grown.tape.trans h.grown.tape, k.grown.output.trans h.grown.output, Nat.le_trans h.grown.size k.grown.size, fun i hi hne => ?_⟩, ?_⟩
  · refine (k.grown.block i (by omega) ?_).trans (h.grown.block i hi hne)
    rcases h.place with e | ⟨q, e, hq⟩
    · rw [e]; exact hne
    · rw [e]; intro e'; simp at e'; omega
  · rcases k.place with e | ⟨q, e, hq⟩
    · rw [e]; exact h.place
    · exact .inr ⟨q, e, by omega⟩

theorem Grew.below {w w' : World} {a a' : Option Addr} {B : Nat} (h : Grew w w' a a') (hB : B ≤ w.heap.size) (ha : ∀ k, blk a = some k → B ≤ k) : Below B w w' :=
  (Below.refl B w).grown h.grown hB ha

theorem Grew.from {w w' : World} {a a' : Option Addr} {B : Nat} (h : Grew w w' a a') (hB : B ≤ w.heap.size) (ha : ∀ k, blk a = some k → B ≤ k) : ∀ k, blk a' = some k → B ≤ k := by
  intro k hk
  rcases h.place with e | ⟨q, e, hq⟩
  · exact ha k (by rw [← e]; exact hk)
  · rw [e] at hk; simp at hk; omega

/-- Another slice of the call's own stays as it was, and stays apart. -/
theorem Grew.other {w w' : World} {a a' c : Option Addr} {n cap : Nat} {l : List Int} (h : Grew w w' a a') (hc : Holds w c n cap l) (hne : ∀ k, blk c = some k → blk a ≠ some k) :
    Holds w' c n cap l ∧ ∀ k, blk c = some k → blk a' ≠ some k := by
  refine ⟨hc.kept h.grown ?_, fun k hk => ?_⟩
  · cases e : blk c with
    | none => exact .inl rfl
    | some k => exact .inr (fun e' => hne k e e'.symm)
  · have hlt := hc.lt k hk
    rcases h.place with e | ⟨q, e, hq⟩
    · rw [e]; exact hne k hk
    · rw [e]; intro e'; simp at e'; omega

/-- 'append(s, x...)', both the call's own. -/
theorem wpList_app (w : World) {ops : Array Oper} {rest : List Oper} {o : Oper} {act : Act} {Q : Exit → Act → World → Prop} (hgd : o.guard = none) (s x : Operand)
    (ho : o.op = .call { callee := .builtin .append, args := #[s, x], argTypes := #[23, 23] })
    (a : Option Addr) (n cap : Nat) (l : List Int) (hs : act.eval s = .slice a n cap) (H : Holds w a n cap l)
    (b : Option Addr) (m cap2 : Nat) (l2 : List Int) (hx : act.eval x = .slice b m cap2) (H2 : Holds w b m cap2 l2) (hb : n + m ≤ 1073741824)
    (h : ∀ a' cap' w', Holds w' a' (n + m) cap' (l ++ l2) → Grew w w' a a' → wpList Try.prog ops Q rest (act.put o.dst (.slice a' (n + m) cap')) w') :
    wpList Try.prog ops Q (o :: rest) act w := by
  obtain ⟨i0, hi, hz0, hz1, hz2⟩ := info_parts Try.info5
  have e1 := H.1
  have e2 := H2.1
  rcases H2.shape with ⟨rfl, rfl, rfl⟩ | ⟨g, rfl⟩
  · have : l2 = [] := List.eq_nil_of_length_eq_zero e2.symm
    subst this
    refine wpList_append_own_none hgd s x 23 ho 0 5 i0 1 Try.underlying23 hi (.slice a n cap) n _ hs H.2 hx ?_
    exact h a cap w (by simpa using H) (Grew.refl w a)
  · refine wpList_append_own_at w hgd s x 23 ho 0 5 i0 (.int .u8 0) 1 1 Try.underlying23 hi hz0 hz1 hz2 rfl (by decide) (.slice a n cap) n _ hs H.2 ⟨g, 0, none⟩ m cap2 (l2.map (Value.int .u8)) hx (by simp; omega)
      (H2.2.cells (g := g) rfl) (ints_oneCell _ _) (by unfold maxLen; omega) (by omega) (Nat.zero_le _) ?_
    intro v' w' hown hgr hnil hat
    have hlen : (l ++ l2).length = n + m := by simp; omega
    obtain ⟨a', cap', rfl⟩ : ∃ a' cap', v' = .slice a' (n + m) cap' := by
      rcases hown.2 with ⟨rfl, hz⟩ | ⟨g', c', cur, rfl, _⟩
      · exact ⟨none, 0, by rw [hz]⟩
      · exact ⟨_, _, rfl⟩
    refine h a' cap' w' ⟨hlen.symm, by rw [List.map_append]; exact hown⟩ ⟨by rw [ownBlock_slice] at hgr; exact hgr, ?_⟩
    rw [ownBlock_slice, ownBlock_slice] at hat
    rcases hat with e | e
    · exact .inl e
    · exact .inr ⟨_, e, Nat.le_refl _⟩

end Go.Proofs.Qxb6002668a
