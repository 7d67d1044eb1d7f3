import Derived.Test.YbulkawxuRows
import Derived.WalkKit
import Derived.ProofKit
import Derived.WalkSpells
import Derived.WalkLawsBesides
import Derived.BigQuiet
import Derived.Deep.QuietTactic
import Derived.BigRegion
import Derived.Deep.OwnRows
import Derived.LaidEqlPtr
import Derived.Lib.Builder
namespace Go.Proofs.Ybulkawxu
open Go.RowKit
theorem info42 : (Yba.prog.info? 42).map (fun i => (i.zero, i.size, i.bytes)) = some (some (.pointer none), 1, 8) := by kernel_rfl

/-- The first k globals stand, each in a block of its own. -/
def Glo (w : World) (N n k : Nat) : Prop :=
  (∀ j, j < n → ∃ a, w.cell? ⟨N, j, none⟩ = some (.pointer a)) ∧ (∀ j, w.frozen? ⟨N, j, none⟩ = false) ∧ (∀ j, j < k → w.cell? ⟨N, j, none⟩ = some (.pointer (some ⟨N + 1 + j, 0, none⟩))) ∧ w.heap.size = N + 1 + k ∧ ∀ j, j < k → ∃ cs t, w.heap[N + 1 + j]? = some (.cells cs t)

theorem glo_step {w : World} {N n k : Nat} (h : Glo w N n k) (hk : k < n) (cs : Array Value) (t : TypeId) :
    Glo ((w.setCell ⟨N, k, none⟩ (.pointer (some ⟨w.heap.size, 0, none⟩))).alloc (.cells cs t)) N n (k + 1) := by
  obtain ⟨h1, h2, h3, h4, h5⟩ := h
  have hb : Below (N + 1) (w.setCell ⟨N, k, none⟩ (.pointer (some ⟨w.heap.size, 0, none⟩))) ((w.setCell ⟨N, k, none⟩ (.pointer (some ⟨w.heap.size, 0, none⟩))).alloc (.cells cs t)) := (Below.refl _ _).alloc (by simp; omega) _
  have c0 : ∀ j, ((w.setCell ⟨N, k, none⟩ (.pointer (some ⟨w.heap.size, 0, none⟩))).alloc (.cells cs t)).cell? ⟨N, j, none⟩ = (w.setCell ⟨N, k, none⟩ (.pointer (some ⟨w.heap.size, 0, none⟩))).cell? ⟨N, j, none⟩ := fun j => hb.cell (p := ⟨N, j, none⟩) (by show N < N + 1; omega)
  obtain ⟨a, ha⟩ := h1 k hk
  have ck : ((w.setCell ⟨N, k, none⟩ (.pointer (some ⟨w.heap.size, 0, none⟩))).alloc (.cells cs t)).cell? ⟨N, k, none⟩ = some (.pointer (some ⟨w.heap.size, 0, none⟩)) := (c0 k).trans (World.cell?_setCell_same _ _ _ ha)
  have cj : ∀ j, j ≠ k → ((w.setCell ⟨N, k, none⟩ (.pointer (some ⟨w.heap.size, 0, none⟩))).alloc (.cells cs t)).cell? ⟨N, j, none⟩ = w.cell? ⟨N, j, none⟩ := fun j hj => (c0 j).trans (World.cell?_setCell_other _ _ _ _ (fun e => hj (congrArg Addr.off e).symm))
  refine ⟨fun j hj => ?_, fun j => ?_, fun j hj => ?_, by simp; omega, fun j hj => ?_⟩
  · by_cases e : j = k
    · subst e; exact ⟨_, ck⟩
    · rw [cj j e]; exact h1 j hj
  · rw [hb.frozen (p := ⟨N, j, none⟩) (by show N < N + 1; omega), World.frozen?_setCell]; exact h2 j
  · by_cases e : j = k
    · subst e; rw [ck, h4]
    · rw [cj j e]; exact h3 j (by omega)
  · by_cases e : j = k
    · subst e
      refine ⟨cs, t, ?_⟩
      have hz : N + 1 + j = (w.setCell ⟨N, j, none⟩ (.pointer (some ⟨w.heap.size, 0, none⟩))).heap.size := by simp; omega
      rw [hz]
      exact Array.getElem?_push_size
    · obtain ⟨cs', t', h'⟩ := h5 j (by omega)
      refine ⟨cs', t', ?_⟩
      rw [Below.heap_alloc _ _ _ (by simp; omega), Below.heap_setCell _ _ _ _ (by show N + 1 + j ≠ N; omega)]
      exact h'

theorem glo_any (n : Nat) (hn : n ≤ 8) (w : World) :
    Calls Yba.prog 5 #[.int .i64 n] w fun e w' => e = .returned (.slice (some ⟨w.heap.size, 0, none⟩) n n) ∧ Glo w' w.heap.size n n ∧ Below w.heap.size w w' := by
  have hmk := fun w => run_make_row' (P := Yba.prog) 23 42 (.pointer none) 8 Yba.underlying23 info42 rfl .i64 .i64 n (by omega) (by omega) w
  have HST : Hid (Glo (w.alloc (.cells (madeCells #[.pointer none] n) 42)) w.heap.size n 0) := by
    refine ⟨fun j hj => ⟨none, ?_⟩, fun j => by simp, fun j hj => absurd hj (by omega), by simp, fun j hj => absurd hj (by omega)⟩
    have e : ((madeCells #[.pointer none] n).toList)[j]? = some (Value.pointer none) := by rw [toList_madeCells_one]; simp [hj]
    simpa using e
  go_enter Yba.func5, Yba.ntmps5
  go_wp2
  clear hmk
  go_loopw [4] (fun t wr => ∃ k : Nat, k ≤ n ∧ t = .int .i64 k ∧ Glo wr w.heap.size n k ∧ Below w.heap.size w wr) (fun t _ => n - (intOf t).toNat)
  case atStart => exact ⟨0, Nat.zero_le _, rfl, HST.out, (Below.refl _ _).alloc (Nat.le_refl _) _⟩
  case round =>
    obtain ⟨k, hk, rfl, hglo, hbel⟩ := hrel
    by_cases hkn : k < n
    · obtain ⟨a, ha⟩ := hglo.1 k hkn
      have hf := hglo.2.1 k
      have hz := hglo.2.2.2.1
      have HG : Hid (Glo wr w.heap.size n k) := hglo
      have hsz : w.heap.size < wr.heap.size := by omega
      clear hglo hz
      go_wp2
      go_roundw
      case rel => exact ⟨k + 1, by omega, by go_num, glo_step HG.out hkn _ _, (hbel.setCell (Nat.le_refl _) _).alloc (by simp; omega) _⟩
      case measure => simp [intOf]; omega
    · go_wp2
      go_ret
      have : k = n := by omega
      subst this
      exact ⟨rfl, hglo, hbel⟩

theorem some28 : ∃ j, Yba.prog.info? 28 = some j := Option.isSome_iff_exists.mp (by kernel_rfl)
theorem some41 : ∃ j, Yba.prog.info? 41 = some j := Option.isSome_iff_exists.mp (by kernel_rfl)

theorem neq25 (a : Addr) (w : World) : (binOp .neq 25 (.pointer (some a)) (.pointer (some a))).run Yba.prog w = .ok (.bool false) w := some28.elim fun _ h => Go.Lib.run_neq_ptr_same w a Yba.underlying25 h
theorem neq37 (a : Addr) (w : World) : (binOp .neq 37 (.pointer (some a)) (.pointer (some a))).run Yba.prog w = .ok (.bool false) w := some41.elim fun _ h => Go.Lib.run_neq_ptr_same w a Yba.underlying37 h
theorem eql25 (a : Addr) (w : World) : (binOp .eql 25 (.pointer (some a)) (.pointer (some a))).run Yba.prog w = .ok (.bool true) w := some28.elim fun _ h => run_eql_ptr_same w a Yba.underlying25 h
theorem eql37 (a : Addr) (w : World) : (binOp .eql 37 (.pointer (some a)) (.pointer (some a))).run Yba.prog w = .ok (.bool true) w := some41.elim fun _ h => run_eql_ptr_same w a Yba.underlying37 h
theorem some52 : ∃ j, Yba.prog.info? 52 = some j ∧ (j.size != 0) = true := by
  have h : (Yba.prog.info? 52).any (fun j => j.size != 0) = true := by kernel_rfl
  cases e : Yba.prog.info? 52 with
  | none => rw [e] at h; exact absurd h (by simp)
  | some j => rw [e] at h; exact ⟨j, rfl, h⟩
theorem neq42 (a : Addr) (w : World) : (binOp .neq 42 (.pointer (some a)) (.pointer (some a))).run Yba.prog w = .ok (.bool false) w := some52.elim fun _ h => Go.Lib.run_neq_ptr_same w a Yba.underlying42 h.1
theorem eql42_other {a b : Addr} {ca cb : Array Value} {ta tb : TypeId} (w : World) (hne : a ≠ b) (ha : w.heap[a.block]? = some (.cells ca ta)) (hb : w.heap[b.block]? = some (.cells cb tb)) :
    (binOp .eql 42 (.pointer (some a)) (.pointer (some b))).run Yba.prog w = .ok (.bool false) w :=
  some52.elim fun _ h => run_eql_ptr_other w Yba.underlying42 h.1 (by simpa using h.2) hne ha hb

set_option maxHeartbeats 1000000 in
/-- (*compiler).target at a global name. -/
theorem tar_glo (C M U N n idx : Nat) (g : Addr) (w : World) (hi : idx < n) (hup : w.cell? ⟨M, 3, none⟩ = some (.int .i64 (-1))) (hix : w.cell? ⟨M, 4, none⟩ = some (.int .i64 idx))
    (hc : w.cell? ⟨C, 0, none⟩ = some (.pointer (some ⟨U, 0, none⟩))) (hu : w.cell? ⟨U, 2, none⟩ = some (.slice (some ⟨N, 0, none⟩) n n)) (hg : w.cell? ⟨N, idx, none⟩ = some (.pointer (some g))) :
    Calls Yba.prog 6 #[.pointer (some ⟨C, 0, none⟩), .pointer (some ⟨M, 0, none⟩)] w fun e w' => e = .returned (.agg #[.pointer (some ⟨U, 0, none⟩), .pointer (some ⟨M, 0, none⟩), .pointer (some g), .int .i64 0]) ∧ Below w.heap.size w w' := by
  have lM : M < w.heap.size := World.block_lt_of_cell? w _ hup
  have lC : C < w.heap.size := World.block_lt_of_cell? w _ hc
  have lU : U < w.heap.size := World.block_lt_of_cell? w _ hu
  have lN : N < w.heap.size := World.block_lt_of_cell? w _ hg
  have i0 : (0 : Int) ≤ (idx : Int) := by omega
  have i1 : (idx : Int) < (n : Int) := by omega
  go_enter Yba.func6, Yba.ntmps6
  go_wp2
  go_region
  go_wp2
  exact bodyPost_ret (v := .agg #[.pointer (some ⟨U, 0, none⟩), .pointer (some ⟨M, 0, none⟩), .pointer (some g), .int .i64 0]) (by simp [results, Yba.results6, go_sem]) rfl ⟨rfl, ((Below.refl _ _).alloc (Nat.le_refl _) _).drew⟩

set_option maxHeartbeats 1000000 in
/-- (*compiler).target at a slot's name. -/
theorem tar_slot (C M U : Nat) (u idx : Int) (w : World) (hu1 : u ≠ -1) (hup : w.cell? ⟨M, 3, none⟩ = some (.int .i64 u)) (hix : w.cell? ⟨M, 4, none⟩ = some (.int .i64 idx))
    (hc : w.cell? ⟨C, 0, none⟩ = some (.pointer (some ⟨U, 0, none⟩))) :
    Calls Yba.prog 6 #[.pointer (some ⟨C, 0, none⟩), .pointer (some ⟨M, 0, none⟩)] w fun e w' => e = .returned (.agg #[.pointer (some ⟨U, 0, none⟩), .pointer (some ⟨M, 0, none⟩), .pointer none, .int .i64 idx]) ∧ Below w.heap.size w w' := by
  have lM : M < w.heap.size := World.block_lt_of_cell? w _ hup
  have lC : C < w.heap.size := World.block_lt_of_cell? w _ hc
  have hu2 : (u == -1) = false := by simpa using hu1
  go_enter Yba.func6, Yba.ntmps6
  go_wp2
  go_region
  go_wp2
  exact bodyPost_ret (v := .agg #[.pointer (some ⟨U, 0, none⟩), .pointer (some ⟨M, 0, none⟩), .pointer none, .int .i64 idx]) (by simp [results, Yba.results6, go_sem]) rfl ⟨rfl, ((Below.refl _ _).alloc (Nat.le_refl _) _).drew⟩
end Go.Proofs.Ybulkawxu
