import Derived.Test.YbulkaxamRows
import Derived.WalkKit
import Derived.ProofKit
import Derived.Maps.Own
import Derived.Maps.OwnOps
import Derived.Maps.OwnSet
import Derived.Maps.StringElems
namespace Go.Proofs.Ybulkaxam
open Go.RowKit Go.Maps

/-! ### the plain law: what the filled map holds, and how many keys it has -/
abbrev MD := DataW Unit
def kl (s : ByteArray) : Lit := .string s.data.toList
def dv (s : ByteArray) : MD := .lit (.string s.data.toList)

theorem bytes_inj {a b : ByteArray} (h : a.data.toList = b.data.toList) : a = b := by
  cases a; cases b
  congr
  exact Array.toList_inj.mp h
theorem kl_inj {a b : ByteArray} (h : kl a = kl b) : a = b := by
  unfold kl at h
  injection h with h
  exact bytes_inj h
theorem dv_inj {a b : ByteArray} (h : dv a = dv b) : a = b := by
  unfold dv at h
  injection h with h
  injection h with h
  exact bytes_inj h
theorem kl_key (s : ByteArray) : WideAt.IsKeyLit (kl s) := trivial

def Fill (ks vs : Nat → ByteArray) : Nat → MD
  | 0 => .map []
  | k + 1 => (Fill ks vs k).put (kl (ks k)) (dv (vs k))

def LastAt (ks : Nat → ByteArray) (n i : Nat) : Prop := ∀ j, i < j → j < n → ks j ≠ ks i

def KS (D : MD) : Prop := ∃ es, D = .map es ∧ ∀ p ∈ es, WideAt.IsKeyLit p.1

theorem KS.put {D : MD} (h : KS D) {k : Lit} (hk : WideAt.IsKeyLit k) (d : MD) : KS (D.put k d) := by
  obtain ⟨es, rfl, hp⟩ := h
  refine ⟨_, rfl, fun p h => ?_⟩
  rcases List.mem_cons.1 ((Go.WideShapes.insert_perm _ _).mem_iff.1 h) with rfl | h
  · exact hk
  · exact hp p (List.mem_filter.1 h).1
theorem KS.del {D : MD} (h : KS D) (k : Lit) : KS (D.del k) := by
  obtain ⟨es, rfl, hp⟩ := h
  exact ⟨_, rfl, fun p h => hp p (List.mem_filter.1 h).1⟩
theorem KS.none {D : MD} (h : KS D) (hn : ∀ x, Maps.has D x = false) : Maps.size D = 0 := by
  obtain ⟨es, rfl, hp⟩ := h
  cases es with
  | nil => rfl
  | cons p r =>
    have h1 := hn p.1
    have h2 : p.1.sameKey p.1 = true := WideAt.sameKey_self (hp p (List.mem_cons_self ..))
    simp [Maps.has, h2] at h1

variable {ks vs : Nat → ByteArray}

theorem fill_tidy : ∀ k, Tidy (Fill ks vs k)
  | 0 => tidy_empty
  | k + 1 => (fill_tidy k).put (kl_key _) _
theorem fill_ks : ∀ k, KS (Fill ks vs k)
  | 0 => ⟨[], rfl, by simp⟩
  | k + 1 => (fill_ks k).put (kl_key _) _
theorem fill_at {i : Nat} (z : MD) : ∀ k, i < k → LastAt ks k i → (Fill ks vs k).atKey (kl (ks i)) z = dv (vs i)
  | 0, hi, _ => absurd hi (by omega)
  | k + 1, hi, hl => by
    by_cases e : i = k
    · subst e
      exact atKey_put_same (fill_tidy _).isMap (kl_key _) _ _
    · have hne : kl (ks i) ≠ kl (ks k) := fun h => hl k (by omega) (by omega) (kl_inj h).symm
      exact (atKey_put_other hne _ _).trans (fill_at z k (by omega) fun j h1 h2 => hl j h1 (by omega))
theorem fill_has {x : Lit} : ∀ k, Maps.has (Fill ks vs k) x = true → ∃ j, j < k ∧ x = kl (ks j)
  | 0, h => absurd h (by simp [Fill, Maps.has])
  | k + 1, h => by
    by_cases e : x = kl (ks k)
    · exact ⟨k, by omega, e⟩
    · have h' : Maps.has (Fill ks vs k) x = true := (has_put_other e _).symm.trans h
      obtain ⟨j, hj, hx⟩ := fill_has k h'
      exact ⟨j, by omega, hx⟩

/-- Every key has a last place. -/
theorem last_of {n : Nat} : ∀ d j, n - j ≤ d → j < n → ∃ i, i < n ∧ ks i = ks j ∧ LastAt ks n i
  | 0, j, h, hj => absurd hj (by omega)
  | d + 1, j, h, hj => by
    by_cases hl : LastAt ks n j
    · exact ⟨j, hj, rfl, hl⟩
    · have : ∃ m, j < m ∧ m < n ∧ ks m = ks j := by
        apply Classical.byContradiction
        intro hc
        exact hl fun m h1 h2 h3 => hc ⟨m, h1, h2, h3⟩
      obtain ⟨m, h1, h2, h3⟩ := this
      obtain ⟨i, hi, he, hl'⟩ := last_of d m (by omega) h2
      exact ⟨i, hi, he.trans h3, hl'⟩

/-- d of D's keys have their last place ahead of i; the rest are in G. -/
def Cnt (ks : Nat → ByteArray) (D : MD) (n i d : Nat) : Prop :=
  ∃ G : MD, Tidy G ∧ KS G ∧ Maps.size D = d + Maps.size G ∧ ∀ x, Maps.has G x = true ↔ Maps.has D x = true ∧ ∀ j, j < i → LastAt ks n j → x ≠ kl (ks j)

theorem cnt_start {D : MD} {n : Nat} (h : Tidy D) (hk : KS D) : Cnt ks D n 0 0 :=
  ⟨D, h, hk, by omega, fun x => ⟨fun h => ⟨h, fun j hj => absurd hj (by omega)⟩, fun h => h.1⟩⟩
theorem cnt_skip {D : MD} {n i d : Nat} (h : Cnt ks D n i d) (hl : ¬ LastAt ks n i) : Cnt ks D n (i + 1) d := by
  obtain ⟨G, h1, h2, h3, h4⟩ := h
  refine ⟨G, h1, h2, h3, fun x => (h4 x).trans ⟨fun ⟨a, b⟩ => ⟨a, fun j hj hlj => ?_⟩, fun ⟨a, b⟩ => ⟨a, fun j hj => b j (by omega)⟩⟩⟩
  by_cases e : j = i
  · subst e; exact absurd hlj hl
  · exact b j (by omega) hlj
theorem cnt_name {D : MD} {n i d : Nat} (h : Cnt ks D n i d) (hn : Maps.has D (kl (ks i)) = false) : Cnt ks D n (i + 1) d := by
  obtain ⟨G, h1, h2, h3, h4⟩ := h
  refine ⟨G, h1, h2, h3, fun x => (h4 x).trans ⟨fun ⟨a, b⟩ => ⟨a, fun j hj hlj => ?_⟩, fun ⟨a, b⟩ => ⟨a, fun j hj => b j (by omega)⟩⟩⟩
  by_cases e : j = i
  · subst e
    intro ex
    rw [ex, hn] at a
    cases a
  · exact b j (by omega) hlj
theorem cnt_hit {D : MD} {n i d : Nat} (h : Cnt ks D n i d) (hi : i < n) (hl : LastAt ks n i) (hn : Maps.has D (kl (ks i)) = true) : Cnt ks D n (i + 1) (d + 1) := by
  obtain ⟨G, h1, h2, h3, h4⟩ := h
  have hG : Maps.has G (kl (ks i)) = true := (h4 _).2 ⟨hn, fun j hj hlj e => hlj i hj hi (kl_inj e)⟩
  have hs := size_del (k := kl (ks i)) h1
  rw [hG, if_pos rfl] at hs
  refine ⟨G.del (kl (ks i)), h1.del _, h2.del _, by omega, fun x => ?_⟩
  by_cases e : x = kl (ks i)
  · subst e
    rw [has_del_same]
    exact ⟨fun h => (Bool.noConfusion h), fun ⟨_, b⟩ => absurd rfl (b i (by omega) hl)⟩
  · rw [has_del_other e]
    refine (h4 x).trans ⟨fun ⟨a, b⟩ => ⟨a, fun j hj hlj => ?_⟩, fun ⟨a, b⟩ => ⟨a, fun j hj => b j (by omega)⟩⟩
    by_cases ej : j = i
    · subst ej; exact e
    · exact b j (by omega) hlj
theorem cnt_end {D : MD} {n d : Nat} (h : Cnt ks D n n d) (hD : ∀ x, Maps.has D x = true → ∃ j, j < n ∧ x = kl (ks j)) : Maps.size D = d := by
  obtain ⟨G, h1, h2, h3, h4⟩ := h
  have : Maps.size G = 0 := h2.none fun x => by
    apply Classical.byContradiction
    intro hx
    obtain ⟨a, b⟩ := (h4 x).1 (by simpa using hx)
    obtain ⟨j, hj, rfl⟩ := hD x a
    obtain ⟨i, hi, he, hl⟩ := last_of (ks := ks) (n := n) (n - j) j (Nat.le_refl _) hj
    exact b i hi hl (by rw [he])
  omega

/-- The map behind the deletion. -/
theorem del_has {n : Nat} {name : ByteArray} {x : Lit} (h : Maps.has ((Fill ks vs n).del (kl name)) x = true) : ∃ j, j < n ∧ x = kl (ks j) := by
  by_cases e : x = kl name
  · subst e; rw [has_del_same] at h; cases h
  · rw [has_del_other e] at h; exact fill_has n h
theorem del_at {n i : Nat} {name : ByteArray} (hi : i < n) (hl : LastAt ks n i) (hne : ks i ≠ name) (z : MD) : ((Fill ks vs n).del (kl name)).atKey (kl (ks i)) z = dv (vs i) :=
  (atKey_del_other (fun e => hne (kl_inj e)) z).trans (fill_at z n hi hl)
theorem del_here {n i : Nat} {name : ByteArray} (hi : i < n) (hl : LastAt ks n i) (hne : ks i ≠ name) : Maps.has ((Fill ks vs n).del (kl name)) (kl (ks i)) = true := has_true_of_atKey (del_at hi hl hne)
end Go.Proofs.Ybulkaxam
