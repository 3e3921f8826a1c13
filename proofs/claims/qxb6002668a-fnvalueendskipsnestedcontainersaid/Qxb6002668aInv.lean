/-
  Seat b6002668a (flumeward): zzrenderNested: what holds at each round's head, and what each way of the round does to it. No walk here.
-/
import Derived.Test.Qxb6002668aQuote
namespace Go.Proofs.Qxb6002668a
open Go.RowKit

/-- At the head of round k: 'out' is (a, n, c) and holds l; 'closers' is (a2, n2, c2) and holds cl; both are the call's own, apart from one another; the scan of l stands between tokens at the depth that 'closers' counts. -/
structure RInv (w : World) (k : Nat) (wr : World) (a : Option Addr) (n c : Nat) (l : List Int) (a2 : Option Addr) (n2 c2 : Nat) (cl : List Int) : Prop where
  out : Holds wr a n c l
  clo : Holds wr a2 n2 c2 cl
  apart : ∀ k, blk a2 = some k → blk a ≠ some k
  own : ∀ k, blk a = some k → w.heap.size ≤ k
  own2 : ∀ k, blk a2 = some k → w.heap.size ≤ k
  bel : Below w.heap.size w wr
  bal : scan l (0, 0) = some (0, n2)
  cls : ∀ x ∈ cl, x = 125 ∨ x = 93
  one : 1 ≤ n2
  few : n2 ≤ k + 1
  short : n ≤ 8 * k + 1
  pos : 0 < n
  head : l.getD 0 0 = 123 ∨ l.getD 0 0 = 91

theorem head_append {l q : List Int} (hl : 0 < l.length) (h : l.getD 0 0 = 123 ∨ l.getD 0 0 = 91) : (l ++ q).getD 0 0 = 123 ∨ (l ++ q).getD 0 0 = 91 := by
  simpa [List.getD, List.getElem?_append_left hl] using h

section
variable {w wr w1 w2 : World} {k n c n2 c2 : Nat} {a a2 : Option Addr} {l cl : List Int}

theorem RInv.size (h : RInv w k wr a n c l a2 n2 c2 cl) : w.heap.size ≤ wr.heap.size := h.bel.size

/-- Something that keeps the depth has been appended to 'out'. -/
theorem RInv.more (h : RInv w k wr a n c l a2 n2 c2 cl) {a' : Option Addr} {n' c' : Nat} {q : List Int} (G : Grew wr w1 a a') (H : Holds w1 a' n' c' (l ++ q)) (hq : ∀ d, scan q (0, d) = some (0, d)) (hl : q.length ≤ 8) :
    RInv w (k + 1) w1 a' n' c' (l ++ q) a2 n2 c2 cl := by
  have e1 := h.out.len
  have e2 := H.len
  rw [List.length_append] at e2
  have K := G.other h.clo h.apart
  have hs := h.short
  have hf := h.few
  have hp := h.pos
  exact ⟨H, K.1, K.2, G.from h.size h.own, h.own2, h.bel.trans (G.below h.size h.own), by rw [scan_join h.bal]; exact hq n2, h.cls, h.one, by omega, by omega, by omega, head_append (by omega) h.head⟩

/-- An opening bracket has been appended to 'out', its closer to 'closers'. -/
theorem RInv.opened (h : RInv w k wr a n c l a2 n2 c2 cl) {a' a2' : Option Addr} {n' c' n2' c2' : Nat} {o s : Int} (G : Grew wr w1 a a') (H : Holds w1 a' n' c' (l ++ [o])) (G2 : Grew w1 w2 a2 a2') (H2 : Holds w2 a2' n2' c2' (cl ++ [s]))
    (ho : o = 123 ∨ o = 91) (hs : s = 125 ∨ s = 93) : RInv w (k + 1) w2 a' n' c' (l ++ [o]) a2' n2' c2' (cl ++ [s]) := by
  have e1 := h.out.len
  have e2 := H.len
  have e3 := h.clo.len
  have e4 := H2.len
  rw [List.length_append, List.length_singleton] at e2 e4
  have K := G.other h.clo h.apart
  have hs1 := h.short
  have hf := h.few
  have hp := h.pos
  have B1 := G.below h.size h.own
  have sz1 : w.heap.size ≤ w1.heap.size := Nat.le_trans h.size B1.size
  have K2 := G2.other H (fun q hq e => K.2 q e hq)
  have own1 := G.from h.size h.own
  refine ⟨K2.1, H2, fun q hq e => K2.2 q e hq, own1, G2.from sz1 h.own2, (h.bel.trans B1).trans (G2.below sz1 h.own2), ?_, ?_, by omega, by omega, by omega, by omega, head_append (by omega) h.head⟩
  · rw [scan_snoc h.bal, stp_open _ _ ho]
    congr 2
    omega
  · intro x hx
    rcases List.mem_append.1 hx with hx | hx
    · exact h.cls x hx
    · rw [List.mem_singleton.1 hx]; exact hs

/-- The innermost closer has been appended to 'out' and cut off 'closers'. -/
theorem RInv.closed {m2 g2 : Nat} (h : RInv w k wr a n c l (some ⟨g2, 0, none⟩) (m2 + 1) c2 cl) (hm : 1 ≤ m2) {a' : Option Addr} {n' c' : Nat} (G : Grew wr w1 a a') (H : Holds w1 a' n' c' (l ++ [cl.getD m2 0])) :
    RInv w (k + 1) w1 a' n' c' (l ++ [cl.getD m2 0]) (some ⟨g2, 0, none⟩) m2 c2 (cl.take m2) := by
  have e1 := h.out.len
  have e2 := H.len
  have e3 := h.clo.len
  rw [List.length_append, List.length_singleton] at e2
  have K := G.other h.clo h.apart
  have hs1 := h.short
  have hf := h.few
  have hp := h.pos
  have hx : cl.getD m2 0 = 125 ∨ cl.getD m2 0 = 93 := by
    have hlt : m2 < cl.length := by omega
    have : cl.getD m2 0 = cl[m2] := by simp [List.getD, hlt]
    rw [this]
    exact h.cls _ (List.getElem_mem hlt)
  refine ⟨H, K.1.cut m2 (by omega), K.2, G.from h.size h.own, h.own2, h.bel.trans (G.below h.size h.own), ?_, fun x hx => h.cls x (List.mem_of_mem_take hx), hm, by omega, by omega, by omega, head_append (by omega) h.head⟩
  rw [scan_snoc h.bal, stp_shut _ _ hx (by omega)]
  simp

/-- The first bytes. -/
theorem RInv.start {a' a2' : Option Addr} {c' c2' : Nat} {o s : Int} (G : Grew w w1 none a') (H : Holds w1 a' 1 c' [o]) (G2 : Grew w1 w2 none a2') (H2 : Holds w2 a2' 1 c2' [s])
    (ho : o = 123 ∨ o = 91) (hs : s = 125 ∨ s = 93) : RInv w 0 w2 a' 1 c' [o] a2' 1 c2' [s] := by
  have B1 := G.below (B := w.heap.size) (Nat.le_refl _) (fun q hq => by cases hq)
  have K2 := G2.other H (fun q hq e => by cases e)
  refine ⟨K2.1, H2, fun q hq e => K2.2 q e hq, G.from (Nat.le_refl _) (fun q hq => by cases hq), G2.from B1.size (fun q hq => by cases hq), B1.trans (G2.below B1.size (fun q hq => by cases hq)), ?_, ?_, Nat.le_refl _, by omega, by omega, by omega, ho⟩
  · rw [scan_one, stp_open _ _ ho]
  · intro x hx
    rw [List.mem_singleton.1 hx]; exact hs
end

theorem scan_still (c : Int) (h1 : ¬ c = 34) (h2 : ¬ (c = 123 ∨ c = 91)) (h3 : ¬ (c = 125 ∨ c = 93)) : ∀ d, scan [c] (0, d) = some (0, d) := fun d => by
  rw [scan_one, stp_else d c h1 h2 h3]
theorem scan_twelve : ∀ d, scan [49, 50] (0, d) = some (0, d) := fun d => by
  have e : ([49, 50] : List Int) = [49] ++ [50] := rfl
  rw [e, scan_join (scan_still 49 (by omega) (by omega) (by omega) d)]
  exact scan_still 50 (by omega) (by omega) (by omega) d

end Go.Proofs.Qxb6002668a
