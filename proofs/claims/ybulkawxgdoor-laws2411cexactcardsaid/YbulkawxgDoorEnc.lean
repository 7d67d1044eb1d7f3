/-
  appendTag, appendLength, Encode, walked at a BOOLEAN's own arguments.
-/
import Derived.Test.YbulkawxgDoorRows
import Derived.WalkKit
import Derived.ProofKit
import Derived.WalkSpells
import Derived.WalkLawsBesides
import Derived.Deep.RegionWith
namespace Go.Proofs.YbulkawxgDoor
open Go.RowKit
theorem info5 : (Ybad.prog.info? 5).map (fun i => (i.zero, i.size, i.bytes)) = some (some (.int .u8 0), 1, 1) := by kernel_rfl

theorem gtrans {a b c : World} {row : Option Nat} (h : a.grownBy b row) (k : b.grownBy c row) : a.grownBy c row :=
  ⟨k.os.trans h.os, k.tape.trans h.tape, k.output.trans h.output, Nat.le_trans h.size k.size, fun i hi hr => (k.block i (Nat.lt_of_lt_of_le hi h.size) hr).trans (h.block i hi hr)⟩

theorem cell_one (w : World) (N : Nat) (x : Value) (t : TypeId) (hN : N = w.heap.size) : ∀ j u, [x][j]? = some u → (w.alloc (.cells #[x] t)).cell? ((⟨N, 0, none⟩ : Addr).add j) = some u := by
  subst hN
  intro j u hj
  match j, hj with
  | 0, hj => simp at hj; subst hj; simp [Addr.add]
  | j + 1, hj => simp at hj

theorem one_one (z : Int) : ∀ u ∈ [Value.int .u8 z], u.oneCell' = true := by
  intro u hu
  simp at hu
  subst hu
  rfl

theorem cell_at {w : World} {d : Nat} {x : Value} (h : w.cell? ⟨d, 0, none⟩ = some x) : ∀ j u, [x][j]? = some u → w.cell? ((⟨d, 0, none⟩ : Addr).add j) = some u := by
  intro j u hj
  match j, hj with
  | 0, hj => simp at hj; subst hj; simpa [Addr.add] using h
  | j + 1, hj => simp at hj

/-- appendTag at TagBoolean onto an own row that has room. -/
theorem tag_any (N g : Nat) (w : World) (hown : w.ownsRow N 5 1 (.slice (some ⟨g, 0, none⟩) 0 17) 0 []) :
    Calls Ybad.prog 20 #[.slice (some ⟨g, 0, none⟩) 0 17, .agg #[.int .u8 0, .bool false, .int .u32 1]] w fun e w' => e = .returned (.slice (some ⟨g, 0, none⟩) 1 17) ∧ w'.ownsRow N 5 1 (.slice (some ⟨g, 0, none⟩) 1 17) 1 [.int .u8 1] ∧ w.grownBy w' (some g) := by
  obtain ⟨i5, hi5, _, hs5, _⟩ := info_parts info5
  go_enter Ybad.func20, Ybad.ntmps20
  go_wp2_with (at_builtin; refine wpList_append_fits _ rfl _ _ _ rfl N 5 i5 1 Ybad.underlying24 hi5 hs5 g 0 17 _ rfl ((hown.alloc _).alloc _) ⟨w.heap.size + 1, 0, none⟩ 1 1 [.int .u8 1] rfl rfl (cell_one _ _ _ _ (by simp)) (one_one 1) (by omega) ?_; intro w1 hown1 hgr1)
  go_ret
  exact ⟨rfl, hown1, gtrans (gtrans (World.grownBy_alloc _ _ _) (World.grownBy_alloc _ _ _)) hgr1⟩

/-- appendLength at 1 onto an own row that has room. -/
theorem len_any (N g : Nat) (w : World) (hown : w.ownsRow N 5 1 (.slice (some ⟨g, 0, none⟩) 1 17) 1 [.int .u8 1]) :
    Calls Ybad.prog 21 #[.slice (some ⟨g, 0, none⟩) 1 17, .int .i64 1] w fun e w' => e = .returned (.slice (some ⟨g, 0, none⟩) 2 17) ∧ w'.ownsRow N 5 1 (.slice (some ⟨g, 0, none⟩) 2 17) 2 [.int .u8 1, .int .u8 1] ∧ w.grownBy w' (some g) := by
  obtain ⟨i5, hi5, _, hs5, _⟩ := info_parts info5
  go_enter Ybad.func21, Ybad.ntmps21
  go_wp2_with (at_builtin; refine wpList_append_fits _ rfl _ _ _ rfl N 5 i5 1 Ybad.underlying24 hi5 hs5 g 1 17 _ rfl (hown.alloc _) ⟨w.heap.size, 0, none⟩ 1 1 [.int .u8 1] rfl rfl (cell_one _ _ _ _ (by simp)) (one_one 1) (by omega) ?_; intro w1 hown1 hgr1)
  go_ret
  exact ⟨rfl, hown1, gtrans (World.grownBy_alloc _ _ _) hgr1⟩

set_option maxHeartbeats 800000 in
/-- Encode at TagBoolean and one content of one byte. -/
theorem enc_any (w : World) (b d : Nat) (x : Int) (hb : w.cell? ⟨b, 0, none⟩ = some (.slice (some ⟨d, 0, none⟩) 1 1)) (hd : w.cell? ⟨d, 0, none⟩ = some (.int .u8 x)) :
    Calls Ybad.prog 15 #[.agg #[.int .u8 0, .bool false, .int .u32 1], .slice (some ⟨b, 0, none⟩) 1 1] w fun e w' => ∃ g, e = .returned (.slice (some ⟨g, 0, none⟩) 3 17) ∧ w'.ownsRow w.heap.size 5 1 (.slice (some ⟨g, 0, none⟩) 3 17) 3 [.int .u8 1, .int .u8 1, .int .u8 x] ∧ Below w.heap.size w w' := by
  obtain ⟨i5, hi5, _, hs5, _⟩ := info_parts info5
  have hbl : b < w.heap.size := World.block_lt_of_cell? w _ hb
  have hdl : d < w.heap.size := World.block_lt_of_cell? w _ hd
  have hbn : b ≠ w.heap.size := by omega
  have hmk : ∀ w : World, (Instr.makeSlice 24 (.int .i64 0) (.int .i64 17)).run Ybad.prog w = .ok (.slice (some ⟨w.heap.size, 0, none⟩) 0 17) (w.alloc (.cells #[.int .u8 0, .int .u8 0, .int .u8 0, .int .u8 0, .int .u8 0, .int .u8 0, .int .u8 0, .int .u8 0, .int .u8 0, .int .u8 0, .int .u8 0, .int .u8 0, .int .u8 0, .int .u8 0, .int .u8 0, .int .u8 0, .int .u8 0] 5)) := fun _ => by kernel_rfl
  have hwr : IntKind.i64.wrap 17 = 17 := by decide
  have hown0 : ((w.alloc (.cells #[.int .u8 0, .bool false, .int .u32 1] 39)).alloc (.cells #[.int .u8 0, .int .u8 0, .int .u8 0, .int .u8 0, .int .u8 0, .int .u8 0, .int .u8 0, .int .u8 0, .int .u8 0, .int .u8 0, .int .u8 0, .int .u8 0, .int .u8 0, .int .u8 0, .int .u8 0, .int .u8 0, .int .u8 0] 5)).drew.ownsRow w.heap.size 5 1 (.slice (some ⟨w.heap.size + 1, 0, none⟩) 0 17) 0 [] := by
    have := World.ownsRow_made (base := w.heap.size) (e := 5) (size := 1) (w.alloc (.cells #[.int .u8 0, .bool false, .int .u32 1] 39)) #[.int .u8 0, .int .u8 0, .int .u8 0, .int .u8 0, .int .u8 0, .int .u8 0, .int .u8 0, .int .u8 0, .int .u8 0, .int .u8 0, .int .u8 0, .int .u8 0, .int .u8 0, .int .u8 0, .int .u8 0, .int .u8 0, .int .u8 0] 17 (by simp) (by unfold maxLen; omega) rfl
    rw [World.size_alloc] at this
    exact this.drew
  go_enter Ybad.func15, Ybad.ntmps15
  go_wp2
  go_loop [5, 13] (fun t5 t13 => ∃ k : Nat, k ≤ 1 ∧ t13 = .int .i64 k ∧ t5 = .int .i64 k) (fun _ t13 => 1 - (intOf t13).toNat)
  case atStart => exact ⟨0, by omega, rfl, rfl⟩
  case round =>
    obtain ⟨k, hk, rfl, rfl⟩ := hrel
    by_cases hk1 : k < 1
    · have hk0 : k = 0 := by omega
      subst hk0
      go_wp2
      go_round
      case rel => exact ⟨1, by omega, rfl, rfl⟩
      case measure => simp [intOf]
    · have hk0 : k = 1 := by omega
      subst hk0
      go_wp2
      go_region_with (go_at_call 20; refine (tag_any w.heap.size (w.heap.size + 1) _ hown0).mono ?_; rintro e w1 ⟨rfl, hown1, hgr1⟩)
      all_goals
        have hb1 : Below w.heap.size w w1 := ((((Below.refl _ _).alloc (Nat.le_refl _) _).alloc (by simp) _).drew).grown hgr1 (by simp; omega) (by intro k e; cases e; omega)
        clear hown0 hgr1 hmk
        go_wp2_with (go_at_call 21; refine (len_any w.heap.size (w.heap.size + 1) _ hown1).mono ?_; rintro e w2 ⟨rfl, hown2, hgr2⟩)
        have hb2 : Below w.heap.size w w2 := hb1.grown hgr2 hb1.size (by intro k e; cases e; omega)
        clear hown1 hgr2 hb1
        go_loopw [8, 32] (fun t8 t32 wr => ∃ k : Nat, k ≤ 1 ∧ t32 = .int .i64 k ∧ t8 = .slice (some ⟨w.heap.size + 1, 0, none⟩) (2 + k) 17 ∧ wr.ownsRow w.heap.size 5 1 (.slice (some ⟨w.heap.size + 1, 0, none⟩) (2 + k) 17) (2 + k) ([.int .u8 1, .int .u8 1] ++ List.replicate k (.int .u8 x)) ∧ Below w.heap.size w wr) (fun _ t32 _ => 1 - (intOf t32).toNat)
        case atStart => exact ⟨0, by omega, rfl, rfl, hown2, hb2⟩
        case round =>
          clear hown2 hb2
          obtain ⟨k, hk, rfl, rfl, hown, hbel⟩ := hrel
          by_cases hk1 : k < 1
          · have hk0 : k = 0 := by omega
            subst hk0
            have eb : wr.cell? ⟨b, 0, none⟩ = some (.slice (some ⟨d, 0, none⟩) 1 1) := (hbel.cell (p := ⟨b, 0, none⟩) hbl).trans hb
            have ed : wr.cell? ⟨d, 0, none⟩ = some (.int .u8 x) := (hbel.cell (p := ⟨d, 0, none⟩) hdl).trans hd
            clear hb hd
            go_wp2_with (at_builtin; refine wpList_append_fits _ rfl _ _ _ rfl w.heap.size 5 i5 1 Ybad.underlying24 hi5 hs5 (w.heap.size + 1) 2 17 _ rfl hown ⟨d, 0, none⟩ 1 1 [.int .u8 x] rfl rfl (cell_at ed) (one_one x) (by omega) ?_; intro w3 hown3 hgr3)
            go_roundw
            case rel => exact ⟨1, by omega, rfl, rfl, hown3, hbel.grown hgr3 hbel.size (by intro k e; cases e; omega)⟩
            case measure => simp [intOf]
          · have hk0 : k = 1 := by omega
            subst hk0
            go_wp2
            go_ret
            exact ⟨_, rfl, hown, hbel⟩

end Go.Proofs.YbulkawxgDoor
