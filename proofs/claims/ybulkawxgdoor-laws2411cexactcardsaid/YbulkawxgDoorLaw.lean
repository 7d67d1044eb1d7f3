/-
  EncodeBool and LawS2411CExact, walked.
-/
import Derived.Test.YbulkawxgDoorEnc
namespace Go.Proofs.YbulkawxgDoor
open Go.RowKit

theorem two_new (w : World) (x y : Value) (s t : TypeId) : ((w.alloc (.cells #[x] s)).alloc (.cells #[y] t)).cell? ⟨w.heap.size + 1, 0, none⟩ = some y ∧ ((w.alloc (.cells #[x] s)).alloc (.cells #[y] t)).cell? ⟨w.heap.size, 0, none⟩ = some x := by
  constructor
  · have e : w.heap.size + 1 = (w.alloc (.cells #[x] s)).heap.size := by simp
    rw [e]; simp
  · have hb : Below (w.heap.size + 1) (w.alloc (.cells #[x] s)) ((w.alloc (.cells #[x] s)).alloc (.cells #[y] t)) := (Below.refl _ _).alloc (by simp) _
    rw [hb.cell (p := ⟨w.heap.size, 0, none⟩) (by show w.heap.size < _; omega)]
    simp

theorem own_base {w : World} {N N' g : Nat} {n c : Nat} {xs : List Value} (h : w.ownsRow N 5 1 (.slice (some ⟨g, 0, none⟩) n c) n xs) (hN : N' ≤ N) : w.ownsRow N' 5 1 (.slice (some ⟨g, 0, none⟩) n c) n xs := by
  obtain ⟨h1, h2 | ⟨g', cap, cur, e, hb, r⟩⟩ := h
  · exact ⟨h1, .inl h2⟩
  · exact ⟨h1, .inr ⟨g', cap, cur, e, by omega, r⟩⟩

/-- EncodeBool. -/
theorem encb_any (v : Bool) (x : Int) (hx : x = if v then 255 else 0) (w : World) (h0 : w.cell? ⟨0, 0, none⟩ = some (.int .u8 0)) (h1 : w.cell? ⟨0, 1, none⟩ = some (.bool false)) (h2 : w.cell? ⟨0, 2, none⟩ = some (.int .u32 1)) :
    Calls Ybad.prog 10 #[.bool v] w fun e w' => ∃ g, e = .returned (.slice (some ⟨g, 0, none⟩) 3 17) ∧ w'.ownsRow w.heap.size 5 1 (.slice (some ⟨g, 0, none⟩) 3 17) 3 [.int .u8 1, .int .u8 1, .int .u8 x] ∧ Below w.heap.size w w' := by
  have hz : 0 < w.heap.size := World.block_lt_of_cell? w _ h0
  cases v
  all_goals
    simp only [Bool.false_eq_true, if_false, if_true] at hx
    subst hx
    go_enter Ybad.func10, Ybad.ntmps10
    go_wp2_with fail
    refine (enc_any _ (w.heap.size + 1) w.heap.size _ (two_new w _ _ _ _).1 (two_new w _ _ _ _).2).mono ?_
    rintro e w1 ⟨g, rfl, hown, hb⟩
    go_wp2
    go_ret
    have hown' : w1.ownsRow w.heap.size 5 1 _ 3 _ := own_base hown (by simp; omega)
    exact ⟨g, rfl, hown', (((Below.refl _ _).alloc (Nat.le_refl _) _).alloc (by simp) _).trans (hb.mono (by simp; omega))⟩

theorem law_any (v : Bool) (w : World) (h0 : w.cell? ⟨0, 0, none⟩ = some (.int .u8 0)) (h1 : w.cell? ⟨0, 1, none⟩ = some (.bool false)) (h2 : w.cell? ⟨0, 2, none⟩ = some (.int .u32 1)) :
    Calls Ybad.prog 5 #[.bool v] w fun e w' => e = .returned (.bool true) ∧ Below w.heap.size w w' := by
  have hcall := encb_any v _ rfl w h0 h1 h2
  have HC := show Hid _ from hcall
  clear hcall
  cases v
  all_goals
    go_enter Ybad.func5, Ybad.ntmps5
    go_wp2_with fail
    refine Calls.mono (Hid.out HC) ?_
    clear HC
    rintro e w1 ⟨g, rfl, hown, hb⟩
    have c0 := hown.cellAt 0 (by omega)
    have c1 := hown.cellAt 1 (by omega)
    have c2 := hown.cellAt 2 (by omega)
    simp only [Bool.false_eq_true, if_false, if_true, List.getElem?_cons_zero, List.getElem?_cons_succ] at c0 c1 c2
    go_wp2
    go_ret
    exact ⟨rfl, hb⟩
end Go.Proofs.YbulkawxgDoor
