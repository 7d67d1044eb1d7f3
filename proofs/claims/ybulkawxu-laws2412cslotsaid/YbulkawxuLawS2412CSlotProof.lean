import Derived.Test.YbulkawxuBase
import Derived.OpenShut
import Derived.ShutString
namespace Go.Proofs.Ybulkawxu.lawS2412CSlot
open Go.ChangeShapes Go.WideShapes Go.ChangeAt Go.RowKit
open Go.ChangeMaps (open_string shut_string)

set_option linter.unusedVariables false
theorem own : ownKnob Yba.prog.godebug = none := by kernel_rfl

theorem tar_made (w1 : World) (N n : Nat) (u a1 : Int) (a3 : ByteArray) (hu : u ≠ -1) :
    Calls Yba.prog 6 #[.pointer (some ⟨w1.heap.size + 1, 0, none⟩), .pointer (some ⟨w1.heap.size + 1 + 1, 0, none⟩)]
      (((w1.alloc (.cells #[.pointer none, .string ⟨#[102]⟩, .slice (some ⟨N, 0, none⟩) n n, .slice none 0 0, .bool false] 28)).alloc
        (.cells #[.pointer (some ⟨w1.heap.size, 0, none⟩), .pointer none, .int .i64 0, .nilIface, .int .i64 0, .int .i64 0, .int .i64 0] 36)).alloc
        (.cells #[.int .i64 0, .int .i64 0, .string a3, .int .i64 u, .int .i64 a1] 41))
      fun e w' => e = .returned (.agg #[.pointer (some ⟨w1.heap.size, 0, none⟩), .pointer (some ⟨w1.heap.size + 1 + 1, 0, none⟩), .pointer none, .int .i64 a1]) ∧ Below w1.heap.size w1 w' := by
  have hb : Below w1.heap.size w1 (((w1.alloc (.cells #[.pointer none, .string ⟨#[102]⟩, .slice (some ⟨N, 0, none⟩) n n, .slice none 0 0, .bool false] 28)).alloc
        (.cells #[.pointer (some ⟨w1.heap.size, 0, none⟩), .pointer none, .int .i64 0, .nilIface, .int .i64 0, .int .i64 0, .int .i64 0] 36)).alloc
        (.cells #[.int .i64 0, .int .i64 0, .string a3, .int .i64 u, .int .i64 a1] 41)) :=
    (((Below.refl _ _).alloc (Nat.le_refl _) _).alloc (by simp) _).alloc (by simp; omega) _
  refine (tar_slot (w1.heap.size + 1) (w1.heap.size + 1 + 1) w1.heap.size u a1 _ hu ?_ ?_ ?_).mono fun e w' ⟨he, hb'⟩ => ⟨he, hb.trans (hb'.mono (by simp; omega))⟩
  · simp [go_sem]
  · simp [go_sem]
  · simp [go_sem]

theorem walk (a0 : Int) (a1 : Int) (a2 : Int) (a3 : ByteArray) (w0 : (Lit.int .u8 a0).wf = true) (w2 : (Lit.int .u8 a2).wf = true) (w : World) :
    Calls Yba.prog 4 #[.int .u8 a0, .int .i64 a1, .int .u8 a2, .string a3] w fun e w' => e = .returned (.bool true) ∧ Below w.heap.size w w' := by
  simp only [Lit.wf, decide_eq_true_eq, Bool.and_eq_true] at w0 w2
  have b0 : 0 ≤ a0 ∧ a0 ≤ 255 := w0
  have b2 : 0 ≤ a2 ∧ a2 ≤ 255 := w2
  clear w0 w2
  obtain ⟨n, en⟩ : ∃ n : Nat, a2 % 4 = (n : Int) := ⟨(a2 % 4).toNat, by omega⟩
  have hn : n ≤ 8 := by omega
  have E2 : Hid (a2 % 4 = (n : Int)) := en
  clear en
  obtain ⟨u, eu⟩ : ∃ u : Nat, a0 % 3 = (u : Int) := ⟨(a0 % 3).toNat, by omega⟩
  have hu : u < 3 := by omega
  have q25 := eql25
  have q37 := eql37
  go_enter Yba.func4, Yba.ntmps4
  go_wp2_with (first | (go_at_call 5; rw [E2.out]; refine (glo_any n hn w).mono ?_; rintro e w1 ⟨rfl, hG, hb⟩; clear hG) | (go_at_call 6; refine (tar_made w1 w.heap.size n _ a1 a3 (by decide)).mono ?_; rintro e w2 ⟨rfl, hb2⟩))
  all_goals
    go_ret
    refine ⟨by simp, (hb.trans (hb2.mono hb.size)).alloc (Nat.le_trans hb.size hb2.size) _⟩

/-! ### The row's step -/
set_option maxRecDepth 100000 in
theorem lifted (os : Os) (started : os.Started) (H : Type) (enc : TypeId × Value → H) :
    ReturnsInHanded {} Yba.checked os 4 .any (Rows.lawS2412CSlotSpec.pre6 enc Yba.prog Yba.f4 Rows.lawS2412CSlotRow.domain false) (Rows.lawS2412CSlotSpec.post enc Yba.prog Yba.f4 false true false false) := by
  refine returnsInHanded_of_change (C := Yba.checked) own started (by kernel_rfl) Yba.func4
    (ChangeSpec.witness6 (enc := enc) (C := Yba.checked) false ⟨#[], #[.int .u8 0, .int .i64 0, .int .u8 0, .string ByteArray.empty], []⟩ 8 (by kernel_rfl) (by kernel_rfl) (by kernel_rfl) (by kernel_rfl)) ?_
  intro W base args ds gs before hval0 hW hcnd _
  have hval : ∀ (j : Nat) t v, Yba.f4.params[j]? = some t → args[j]? = some v → Value.okWide Yba.prog W .any base t v := hval0
  have hW' := hW
  obtain ⟨p, q, hA0, hV, rfl, hfz, hnd⟩ := hW
  have hA : DataW.TrodAll enc Yba.prog W 0 (fun _ => true) true Yba.f4.params.toList args.toList ds p := hA0
  rw [Yba.params4] at hA hval
  obtain ⟨v0, vs0, d0, ds0, p0, q0, hargs, rfl, rfl, h0, r0⟩ := trodAll_cons hA
  obtain ⟨v1, vs1, d1, ds1, p1, q1, rfl, rfl, rfl, h1, r1⟩ := trodAll_cons r0
  obtain ⟨v2, vs2, d2, ds2, p2, q2, rfl, rfl, rfl, h2, r2⟩ := trodAll_cons r1
  obtain ⟨v3, vs3, d3, ds3, p3, q3, rfl, rfl, rfl, h3, r3⟩ := trodAll_cons r2
  obtain ⟨rfl, rfl, rfl⟩ := trodAll_nil r3
  obtain rfl : args = #[v0, v1, v2, v3] := by cases args; simp_all
  obtain ⟨rfl, rfl⟩ := trodVars_none hV
  obtain ⟨a0, rfl, rfl, rfl, w0⟩ := open_int Yba.underlying5 (hval 0 5 v0 rfl rfl) h0
  obtain ⟨a1, rfl, rfl, rfl, w1⟩ := open_int Yba.underlying3 (hval 1 3 v1 rfl rfl) h1
  obtain ⟨a2, rfl, rfl, rfl, w2⟩ := open_int Yba.underlying5 (hval 2 5 v2 rfl rfl) h2
  obtain ⟨a3, rfl, rfl, rfl, w3⟩ := open_string Yba.underlying9 (hval 3 9 v3 rfl rfl) h3
  clear hA0 hval0
  simp only [List.append_nil] at hW'
  refine (walk a0 a1 a2 a3 w0 w2 W).mono fun e W' ⟨he, bel⟩ => ?_
  subst he
  exact ⟨_, rfl, _, _, _, [], [], [], hW', (trodAll_cons_mk (shut_bool Yba.underlying4 _) trodAll_mk0), (trodAll_cons_mk (shut_int Yba.underlying5 w0) (trodAll_cons_mk (shut_int Yba.underlying3 w1) (trodAll_cons_mk (shut_int Yba.underlying5 w2) (trodAll_cons_mk (shut_string Yba.underlying9 w3) trodAll_mk0)))), rfl, bel.frame _, fun h => by cases h⟩

theorem over : Rows.lawS2412CSlotRow.holds Yba.pinned (OpenSpec.ofChange Rows.lawS2412CSlotSpec) :=
  OpenClaim.holds_of_wide 4 Yba.f4 rfl rfl rfl rfl rfl rfl rfl ⟨rfl, rfl, rfl, rfl, rfl⟩ rfl rfl rfl rfl rfl (by kernel_rfl) Yba.func4 (by kernel_rfl)
    (of_decide_eq_true (by kernel_rfl)) (by unfold Func.isWrapper; first | (rw [if_pos (by decide +kernel)]; kernel_rfl) | (rw [if_neg (by decide +kernel)]; exact ⟨rfl, rfl⟩))
    (fun os started H enc _ => lifted os started H enc)

/-- ████ THE STATEMENT ████ -/
theorem proved : Rows.LawS2412CSlotSaid :=
  over
#print axioms proved
end Go.Proofs.Ybulkawxu.lawS2412CSlot
