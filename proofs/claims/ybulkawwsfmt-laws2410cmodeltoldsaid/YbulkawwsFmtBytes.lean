/-
  PLAIN LAWS: byte rows in memory ('Bts'), big-endian numbers ('be'). No walk here.
-/
import Derived.WalkKit
import Derived.Below
namespace Go.Proofs.YbulkawwsFmt
open Go.RowKit

/-- The slice value v holds the bytes bs (its address is open where it is empty). -/
def Bts (w : World) (v : Value) (bs : List Int) : Prop :=
  ∃ a c, v = .slice a bs.length c ∧ bs.length ≤ c ∧ c ≤ maxLen ∧
    (bs ≠ [] → ∃ g o, a = some ⟨g, o, none⟩ ∧ ∀ j, j < bs.length → w.cell? ⟨g, o + j, none⟩ = some (.int .u8 (bs.getD j 0)))

/-- Bytes. -/
def Byt (bs : List Int) : Prop := ∀ x ∈ bs, 0 ≤ x ∧ x ≤ 255

theorem Byt.at {bs : List Int} (h : Byt bs) (j : Nat) : 0 ≤ bs.getD j 0 ∧ bs.getD j 0 ≤ 255 := by
  by_cases hj : j < bs.length
  · rw [List.getD_eq_getElem?_getD, List.getElem?_eq_getElem hj]
    exact h _ (List.getElem_mem hj)
  · rw [List.getD_eq_getElem?_getD, List.getElem?_eq_none (by omega)]
    simp

theorem Byt.drop {bs : List Int} (h : Byt bs) (k : Nat) : Byt (bs.drop k) := fun x hx => h x (List.mem_of_mem_drop hx)
theorem Byt.take {bs : List Int} (h : Byt bs) (k : Nat) : Byt (bs.take k) := fun x hx => h x (List.mem_of_mem_take hx)

theorem Bts.kept {w w' : World} {v : Value} {bs : List Int} (h : Bts w v bs) (k : ∀ p u, w.cell? p = some (.int .u8 u) → w'.cell? p = some (.int .u8 u)) : Bts w' v bs := by
  obtain ⟨a, c, hv, h1, h2, h3⟩ := h
  refine ⟨a, c, hv, h1, h2, fun hne => ?_⟩
  obtain ⟨g, o, ha, hc⟩ := h3 hne
  exact ⟨g, o, ha, fun j hj => k _ _ (hc j hj)⟩

theorem Bts.below {w w' : World} {v : Value} {bs : List Int} (h : Bts w v bs) (hb : Below w.heap.size w w') : Bts w' v bs :=
  h.kept fun _ _ hp => (hb.cell (World.block_lt_of_cell? w _ hp)).trans hp

/-- A store into a cell that holds no number leaves the bytes. -/
theorem Bts.setCell {w : World} {v : Value} {bs : List Int} (h : Bts w v bs) {p : Addr} {u : Value} (hp : w.cell? p = some u) (hu : ∀ z, u ≠ .int .u8 z) (x : Value) : Bts (w.setCell p x) v bs :=
  h.kept fun q z hq => by
    rw [World.cell?_setCell_other w p q x (fun e => by subst e; rw [hp] at hq; exact hu z (Option.some.inj hq))]
    exact hq

theorem Bts.empty (w : World) (a : Option Addr) (c : Nat) (hc : c ≤ maxLen) : Bts w (.slice a 0 c) [] := ⟨a, c, rfl, Nat.zero_le _, hc, fun h => absurd rfl h⟩

/-- The big-endian number. -/
def be (bs : List Int) : Int := bs.foldl (fun n c => n * 256 + c) 0

theorem be_snoc (bs : List Int) (c : Int) : be (bs ++ [c]) = be bs * 256 + c := by simp [be]

theorem be_take_succ (bs : List Int) (k : Nat) (h : k < bs.length) : be (bs.take (k + 1)) = be (bs.take k) * 256 + bs.getD k 0 := by
  rw [List.take_succ_eq_append_getElem h, be_snoc, List.getD_eq_getElem?_getD, List.getElem?_eq_getElem h]; rfl

theorem be_zero (bs : List Int) : be (bs.take 0) = 0 := rfl

theorem be_bd {bs : List Int} (h : Byt bs) : ∀ k, k ≤ bs.length → 0 ≤ be (bs.take k) ∧ be (bs.take k) < 256 ^ k
  | 0, _ => by simp [be]
  | k + 1, hk => by
    have ih := be_bd h k (by omega)
    have hb := h.at k
    rw [be_take_succ bs k (by omega)]
    have e : (256 : Int) ^ (k + 1) = 256 ^ k * 256 := Int.pow_succ ..
    omega

theorem be_le3 {bs : List Int} (h : Byt bs) (k : Nat) (hk : k ≤ bs.length) (h3 : k ≤ 3) : 0 ≤ be (bs.take k) ∧ be (bs.take k) ≤ 16777215 := by
  have := be_bd h k hk
  have e : k = 0 ∨ k = 1 ∨ k = 2 ∨ k = 3 := by omega
  rcases e with e | e | e | e <;> subst e <;> omega

theorem be_le2 {bs : List Int} (h : Byt bs) (k : Nat) (hk : k ≤ bs.length) (h3 : k ≤ 2) : 0 ≤ be (bs.take k) ∧ be (bs.take k) ≤ 65535 := by
  have := be_bd h k hk
  have e : k = 0 ∨ k = 1 ∨ k = 2 := by omega
  rcases e with e | e | e <;> subst e <;> omega

theorem wraps_i64 (n : Int) (h₀ : 0 ≤ n) (h₁ : n < 2 ^ 62) : IntKind.i64.wrap n = n := by rw [IntKind.wrap_i64]; omega

theorem or_byte (n c : Int) (h0 : 0 ≤ n) (h1 : n ≤ 65535) (c0 : 0 ≤ c) (c1 : c ≤ 255) : bits .or .i64 (n * 256) c = n * 256 + c :=
  bits_join .i64 62 (by decide) wraps_i64 8 (n * 256) c (by omega) (by omega) (by omega) c0 (by omega) (by omega)

end Go.Proofs.YbulkawwsFmt
