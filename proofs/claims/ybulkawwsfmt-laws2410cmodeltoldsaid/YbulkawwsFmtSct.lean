/-
  PLAIN LAWS: what parseSCTList computes, on lists of bytes. No walk here.
-/
import Derived.Test.YbulkawwsFmtBytes
namespace Go.Proofs.YbulkawwsFmt
open Go.RowKit

/-- A vector with a length of two bytes, and what is left behind it. -/
def rv2 (bs : List Int) : Option (List Int × List Int) :=
  if 2 ≤ bs.length ∧ 2 + (be (bs.take 2)).toNat ≤ bs.length then some ((bs.drop 2).take (be (bs.take 2)).toNat, (bs.drop 2).drop (be (bs.take 2)).toNat) else none

theorem rv2_some {bs x r : List Int} (h : rv2 bs = some (x, r)) : 2 ≤ bs.length ∧ 2 + (be (bs.take 2)).toNat ≤ bs.length ∧ x = (bs.drop 2).take (be (bs.take 2)).toNat ∧ r = (bs.drop 2).drop (be (bs.take 2)).toNat := by
  unfold rv2 at h
  split at h
  · rename_i c; simp only [Option.some.injEq, Prod.mk.injEq] at h; exact ⟨c.1, c.2, h.1.symm, h.2.symm⟩
  · cases h

theorem rv2_len {bs x r : List Int} (h : rv2 bs = some (x, r)) : 2 + x.length + r.length = bs.length := by
  obtain ⟨h1, h2, rfl, rfl⟩ := rv2_some h
  simp; omega

theorem rv2_byt {bs x r : List Int} (hb : Byt bs) (h : rv2 bs = some (x, r)) : Byt x ∧ Byt r := by
  obtain ⟨h1, h2, rfl, rfl⟩ := rv2_some h
  exact ⟨(hb.drop 2).take _, (hb.drop 2).drop _⟩

/-- The items of a list; 'none' where one is cut off or empty. -/
def sct : Nat → List Int → Option (List (List Int))
  | 0, bs => if bs = [] then some [] else none
  | f + 1, bs => if bs = [] then some [] else
      match rv2 bs with
      | none => none
      | some (x, r) => if x = [] then none else (sct f r).map (x :: ·)

theorem sct_nil {f : Nat} {bs : List Int} (h : sct f bs = some []) : bs = [] := by
  cases f with
  | zero => unfold sct at h; split at h <;> simp_all
  | succ f =>
    unfold sct at h
    split at h
    · assumption
    · split at h
      · cases h
      · split at h
        · cases h
        · simp at h

theorem sct_cons {f : Nat} {bs x : List Int} {xs : List (List Int)} (h : sct f bs = some (x :: xs)) : bs ≠ [] ∧ x ≠ [] ∧ ∃ f' r, rv2 bs = some (x, r) ∧ sct f' r = some xs := by
  cases f with
  | zero => unfold sct at h; split at h <;> simp_all
  | succ f =>
    unfold sct at h
    split at h
    · simp at h
    · rename_i hne
      split at h
      · cases h
      · rename_i y r hr
        split at h
        · cases h
        · rename_i hy
          cases hs : sct f r with
          | none => rw [hs] at h; cases h
          | some ys =>
            rw [hs] at h
            simp only [Option.map_some, Option.some.injEq, List.cons.injEq] at h
            obtain ⟨rfl, rfl⟩ := h
            exact ⟨hne, hy, f, r, hr, hs⟩

theorem sct_len : ∀ {xs : List (List Int)} {f : Nat} {bs : List Int}, sct f bs = some xs → xs.length ≤ bs.length
  | [], _, _, _ => Nat.zero_le _
  | x :: xs, f, bs, h => by
    obtain ⟨_, _, f', r, hr, hs⟩ := sct_cons h
    have := sct_len hs
    have := rv2_len hr
    simp; omega

/-- The whole list: a vector, not empty, nothing behind it, its items. -/
def parse (bs : List Int) : Option (List (List Int)) :=
  match rv2 bs with
  | none => none
  | some (l, r) => if l = [] then none else if r = [] then sct l.length l else none

theorem parse_some {bs : List Int} {xs : List (List Int)} (h : parse bs = some xs) : ∃ l, rv2 bs = some (l, []) ∧ l ≠ [] ∧ sct l.length l = some xs := by
  unfold parse at h
  split at h
  · cases h
  · rename_i l r hr
    split at h
    · cases h
    · split at h
      · rename_i h1 h2; subst h2; exact ⟨l, hr, h1, h⟩
      · cases h

/-- The items' own slices lie in block G, from its head on. -/
def Got (w : World) (G k : Nat) (xs : List (List Int)) : Prop := ∀ j, j < k → ∃ v, w.cell? ⟨G, j, none⟩ = some v ∧ Bts w v (xs.getD j [])

end Go.Proofs.YbulkawwsFmt
