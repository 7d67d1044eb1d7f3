/-
  PLAIN LAWS for the round trip: the items as they are encoded, and that parse gives them back. No walk here.
-/
import Derived.Test.YbulkawwsFmtSct
namespace Go.Proofs.YbulkawwsFmt
open Go.RowKit

/-- An item as it goes in: an empty one becomes one byte. -/
def eff1 (j : Nat) (x : List Int) : List Int := if x = [] then [(j : Int) % 256] else x
def effs (its : List (List Int)) : List (List Int) := its.mapIdx eff1
def enc1 (x : List Int) : List Int := ((x.length : Int) / 256) :: ((x.length : Int) % 256) :: x
def encs (xs : List (List Int)) : List Int := xs.flatMap enc1
/-- The first k items, encoded. -/
def enk (its : List (List Int)) (k : Nat) : List Int := encs ((effs its).take k)

theorem effs_length (its : List (List Int)) : (effs its).length = its.length := by simp [effs]
theorem effs_getD (its : List (List Int)) (k : Nat) (h : k < its.length) : (effs its).getD k [] = eff1 k (its.getD k []) := by
  simp [effs, List.getD_eq_getElem?_getD, List.getElem?_eq_getElem h]
theorem eff1_ne (j : Nat) (x : List Int) : eff1 j x ≠ [] := by unfold eff1; split <;> simp_all
theorem eff1_len (j : Nat) (x : List Int) : (eff1 j x).length = if x.length = 0 then 1 else x.length := by
  unfold eff1
  by_cases h : x = []
  · subst h; simp
  · rw [if_neg h, if_neg (by intro e; exact h (List.eq_nil_of_length_eq_zero e))]
theorem effs_ne (its : List (List Int)) : ∀ x ∈ effs its, x ≠ [] := by
  intro x hx
  simp only [effs, List.mem_mapIdx] at hx
  obtain ⟨i, hi, rfl⟩ := hx
  exact eff1_ne _ _
theorem enc1_len (x : List Int) : (enc1 x).length = 2 + x.length := by simp [enc1]; omega

theorem enk_zero (its : List (List Int)) : enk its 0 = [] := by simp [enk, encs]
theorem enk_succ (its : List (List Int)) (k : Nat) (h : k < its.length) : enk its (k + 1) = enk its k ++ enc1 (eff1 k (its.getD k [])) := by
  unfold enk
  rw [List.take_succ_eq_append_getElem (by rw [effs_length]; exact h)]
  have e : (effs its)[k]'(by rw [effs_length]; exact h) = eff1 k (its.getD k []) := by
    rw [← effs_getD its k h, List.getD_eq_getElem?_getD, List.getElem?_eq_getElem (by rw [effs_length]; exact h)]; rfl
  rw [e]
  simp [encs]
theorem enk_len_succ (its : List (List Int)) (k : Nat) (h : k < its.length) : (enk its (k + 1)).length = (enk its k).length + (2 + (eff1 k (its.getD k [])).length) := by
  rw [enk_succ its k h, List.length_append, enc1_len]
theorem enk_mono (its : List (List Int)) (k : Nat) : ∀ m, k ≤ m → m ≤ its.length → (enk its k).length ≤ (enk its m).length
  | 0, h, _ => by obtain rfl : k = 0 := by omega
                  exact Nat.le_refl _
  | m + 1, h, hm => by
    by_cases e : k = m + 1
    · subst e; exact Nat.le_refl _
    · have := enk_mono its k m (by omega) (by omega)
      rw [enk_len_succ its m (by omega)]; omega
theorem enk_all (its : List (List Int)) : enk its its.length = encs (effs its) := by
  unfold enk; rw [List.take_of_length_le (by rw [effs_length]; exact Nat.le_refl _)]

theorem be_two (h l : Int) (r : List Int) : be ((h :: l :: r).take 2) = h * 256 + l := by simp [be]

theorem rv2_enc (n : Nat) (x r : List Int) (hn : x.length = n) : rv2 (((n : Int) / 256) :: ((n : Int) % 256) :: (x ++ r)) = some (x, r) := by
  have hb : be (((((n : Int) / 256) :: ((n : Int) % 256) :: (x ++ r))).take 2) = n := by rw [be_two]; omega
  unfold rv2
  rw [hb, if_pos ⟨by simp, by simp; omega⟩]
  subst hn
  simp

theorem sct_encs : ∀ (xs : List (List Int)) (f : Nat), xs.length ≤ f → (∀ x ∈ xs, x ≠ []) → sct f (encs xs) = some xs
  | [], f, _, _ => by cases f <;> simp [encs, sct]
  | x :: xs, 0, h, _ => by simp at h
  | x :: xs, f + 1, h, hne => by
    have e : encs (x :: xs) = ((x.length : Int) / 256) :: ((x.length : Int) % 256) :: (x ++ encs xs) := by simp [encs, enc1]
    have ih := sct_encs xs f (by simpa using h) (fun y hy => hne y (List.mem_cons_of_mem _ hy))
    rw [e]
    unfold sct
    rw [if_neg (by simp), rv2_enc x.length x (encs xs) rfl]
    simp only
    rw [if_neg (hne x (List.mem_cons_self ..)), ih]
    rfl

theorem encs_len (xs : List (List Int)) : xs.length ≤ (encs xs).length := by
  induction xs with
  | nil => simp
  | cons x xs ih =>
    have e : encs (x :: xs) = enc1 x ++ encs xs := by simp [encs]
    rw [e, List.length_append, enc1_len]; simp; omega

/-- What is encoded is parsed back. -/
theorem parse_encs (xs : List (List Int)) (n : Nat) (hn : (encs xs).length = n) (hx : xs ≠ []) (hne : ∀ x ∈ xs, x ≠ []) : parse (((n : Int) / 256) :: ((n : Int) % 256) :: encs xs) = some xs := by
  have h := rv2_enc n (encs xs) [] hn
  rw [List.append_nil] at h
  unfold parse
  rw [h]
  have hl := encs_len xs
  simp only
  rw [if_neg (fun e => by rw [e] at hl; simp at hl; exact hx hl), if_pos trivial, sct_encs xs _ hl hne]

theorem rv2_none_enc : rv2 [0, 0] = some ([], []) := by
  have := rv2_enc 0 [] [] rfl
  simpa using this

theorem byt_enc1 {x : List Int} (h : Byt x) (hl : x.length ≤ 65535) : Byt (enc1 x) := by
  intro y hy
  simp only [enc1, List.mem_cons] at hy
  rcases hy with rfl | rfl | hy
  · omega
  · omega
  · exact h y hy
theorem byt_eff1 {x : List Int} (j : Nat) (h : Byt x) : Byt (eff1 j x) := by
  unfold eff1
  split
  · intro y hy; simp at hy; subst hy; omega
  · exact h

end Go.Proofs.YbulkawwsFmt
