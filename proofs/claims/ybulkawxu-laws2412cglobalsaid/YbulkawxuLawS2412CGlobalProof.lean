import Derived.Test.YbulkawxuBase
import Derived.OpenShut
import Derived.ShutString
namespace Go.Proofs.Ybulkawxu.lawS2412CGlobal
open Go.ChangeShapes Go.WideShapes Go.ChangeAt Go.RowKit
open Go.ChangeMaps (open_string shut_string)

set_option linter.unusedVariables false
theorem own : ownKnob Yba.prog.godebug = none := by kernel_rfl

theorem nums (a0 a1 : Int) (w0 : (Lit.int .u8 a0).wf = true) (w1 : (Lit.int .u16 a1).wf = true) :
    0 ≤ a0 ∧ a0 ≤ 255 ∧ ∃ n i : Nat, a0 % 8 + 1 = (n : Int) ∧ (wrap64 a1).tmod (n : Int) = (i : Int) ∧ i < n ∧ n ≤ 8 := by
  simp only [Lit.wf, decide_eq_true_eq, Bool.and_eq_true] at w0 w1
  have b0 : 0 ≤ a0 ∧ a0 ≤ 255 := w0
  have b1 : 0 ≤ a1 ∧ a1 ≤ 65535 := w1
  obtain ⟨n, hn⟩ : ∃ n : Nat, a0 % 8 + 1 = (n : Int) := ⟨(a0 % 8 + 1).toNat, by omega⟩
  have e : wrap64 a1 = a1 := by unfold wrap64; omega
  refine ⟨b0.1, b0.2, n, (a1 % n).toNat, hn, ?_, ?_, by omega⟩
  · rw [e, Int.tmod_eq_emod_of_nonneg b1.1]
    have := Int.emod_nonneg a1 (b := (n : Int)) (by omega)
    omega
  · have := Int.emod_nonneg a1 (b := (n : Int)) (by omega)
    have := Int.emod_lt_of_pos a1 (b := (n : Int)) (by omega)
    omega


theorem tar_made (w1 : World) (N n i : Nat) (a2 : ByteArray) (hi : i < n) (hG : Glo w1 N n n) :
    Calls Yba.prog 6 #[.pointer (some ⟨w1.heap.size + 1, 0, none⟩), .pointer (some ⟨w1.heap.size + 1 + 1, 0, none⟩)]
      (((w1.alloc (.cells #[.pointer none, .string ⟨#[102]⟩, .slice (some ⟨N, 0, none⟩) n n, .slice none 0 0, .bool false] 28)).alloc
        (.cells #[.pointer (some ⟨w1.heap.size, 0, none⟩), .pointer none, .int .i64 0, .nilIface, .int .i64 0, .int .i64 0, .int .i64 0] 36)).alloc
        (.cells #[.int .i64 0, .int .i64 0, .string a2, .int .i64 (-1), .int .i64 (i : Int)] 41))
      fun e w' => e = .returned (.agg #[.pointer (some ⟨w1.heap.size, 0, none⟩), .pointer (some ⟨w1.heap.size + 1 + 1, 0, none⟩), .pointer (some ⟨N + 1 + i, 0, none⟩), .int .i64 0]) ∧ Below w1.heap.size w1 w' := by
  have lN : N < w1.heap.size := by have := hG.2.2.2.1; omega
  have hb : Below w1.heap.size w1 (((w1.alloc (.cells #[.pointer none, .string ⟨#[102]⟩, .slice (some ⟨N, 0, none⟩) n n, .slice none 0 0, .bool false] 28)).alloc
        (.cells #[.pointer (some ⟨w1.heap.size, 0, none⟩), .pointer none, .int .i64 0, .nilIface, .int .i64 0, .int .i64 0, .int .i64 0] 36)).alloc
        (.cells #[.int .i64 0, .int .i64 0, .string a2, .int .i64 (-1), .int .i64 (i : Int)] 41)) :=
    (((Below.refl _ _).alloc (Nat.le_refl _) _).alloc (by simp) _).alloc (by simp; omega) _
  refine (tar_glo (w1.heap.size + 1) (w1.heap.size + 1 + 1) w1.heap.size N n i ⟨N + 1 + i, 0, none⟩ _ hi ?_ ?_ ?_ ?_ ?_).mono fun e w' ⟨he, hb'⟩ => ⟨he, hb.trans (hb'.mono (by simp; omega))⟩
  · simp [go_sem]
  · simp [go_sem]
  · simp [go_sem]
  · simp [go_sem]
  · exact (hb.cell (p := ⟨N, i, none⟩) lN).trans (hG.2.2.1 i hi)

theorem walk (a0 : Int) (a1 : Int) (a2 : ByteArray) (w0 : (Lit.int .u8 a0).wf = true) (w1 : (Lit.int .u16 a1).wf = true) (w : World) :
    Calls Yba.prog 3 #[.int .u8 a0, .int .u16 a1, .string a2] w fun e w' => e = .returned (.bool true) ∧ Below w.heap.size w w' := by
  obtain ⟨b0, b1, n, i, e7, e8, hi, hn⟩ := nums a0 a1 w0 w1
  have E7 : Hid (a0 % 8 + 1 = (n : Int)) := e7
  have E8 : Hid ((wrap64 a1).tmod (n : Int) = (i : Int)) := e8
  clear e7 e8
  go_enter Yba.func3, Yba.ntmps3
  go_wp2_with (first | (go_at_call 5; rw [E7.out, E8.out]; refine (glo_any n hn w).mono ?_; rintro e w1 ⟨rfl, hG, hb⟩) | (go_at_call 6; refine (tar_made w1 w.heap.size n i a2 hi hG).mono ?_; rintro e w2 ⟨rfl, hb2⟩))
  have lN : w.heap.size < w1.heap.size := by have := hG.2.2.2.1; omega
  have hgs2 : ∀ j, j < n → w2.cell? ⟨w.heap.size, j, none⟩ = some (.pointer (some ⟨w.heap.size + 1 + j, 0, none⟩)) := fun j hj => (hb2.cell (p := ⟨w.heap.size, j, none⟩) lN).trans (hG.2.2.1 j hj)
  have lN2 : w.heap.size < w2.heap.size := Nat.lt_of_lt_of_le lN hb2.size
  have hb3 : Below w.heap.size w w2 := hb.trans (hb2.mono (Nat.le_of_lt lN))
  obtain ⟨w3, e3⟩ : ∃ w3, w3 = w2.alloc (.cells #[.pointer (some ⟨w1.heap.size, 0, none⟩), .pointer (some ⟨w1.heap.size + 1 + 1, 0, none⟩), .pointer (some ⟨w.heap.size + 1 + i, 0, none⟩), .int .i64 0] 44) := ⟨_, rfl⟩
  rw [← e3]
  have hc0 : w3.cell? ⟨w2.heap.size, 0, none⟩ = some (.pointer (some ⟨w1.heap.size, 0, none⟩)) := by rw [e3]; simp [go_sem]
  have hc1 : w3.cell? ⟨w2.heap.size, 1, none⟩ = some (.pointer (some ⟨w1.heap.size + 1 + 1, 0, none⟩)) := by rw [e3]; simp [go_sem]
  have hc2 : w3.cell? ⟨w2.heap.size, 2, none⟩ = some (.pointer (some ⟨w.heap.size + 1 + i, 0, none⟩)) := by rw [e3]; simp [go_sem]
  have hc3 : w3.cell? ⟨w2.heap.size, 3, none⟩ = some (.int .i64 0) := by rw [e3]; simp [go_sem]
  have HB : Hid (Below w.heap.size w w3) := by rw [e3]; exact hb3.alloc (Nat.le_of_lt lN2) _
  have HG3 : Hid (∀ j, j < n → w3.cell? ⟨w.heap.size, j, none⟩ = some (.pointer (some ⟨w.heap.size + 1 + j, 0, none⟩))) := by
    rw [e3]
    intro j hj
    exact (((Below.refl w2.heap.size w2).alloc (Nat.le_refl _) _).cell (p := ⟨w.heap.size, j, none⟩) lN2).trans (hgs2 j hj)
  have HR3 : Hid (∀ j, j < n → ∃ cs t, w3.heap[w.heap.size + 1 + j]? = some (.cells cs t)) := by
    rw [e3]
    intro j hj
    obtain ⟨cs, t, h⟩ := hG.2.2.2.2 j hj
    have hz := hG.2.2.2.1
    exact ⟨cs, t, (Below.heap_alloc _ _ _ (Nat.lt_of_lt_of_le (by omega) hb2.size)).trans ((hb2.block _ (by omega)).trans h)⟩
  have hgi := HG3.out i hi
  have i0 : (0 : Int) ≤ (i : Int) := by omega
  have i1 : (i : Int) < (n : Int) := by omega
  have q25 := neq25
  have q37 := neq37
  have q42 := neq42
  clear e3 hgs2 hb3 lN2 hG hb hb2
  generalize w2.heap.size = D at *
  go_quiet (fail)
  clear q25 q37 q42 hgi i0 i1
  go_wp2
  go_loopw [14] (fun t wr => ∃ k q : Nat, k ≤ n ∧ t = .int .i64 k ∧ wr = w3.drewN q) (fun t _ => n - (intOf t).toNat)
  case atStart => exact ⟨0, nq, Nat.zero_le _, rfl, rfl⟩
  case round =>
    obtain ⟨k, q, hk, rfl, rfl⟩ := hrel
    by_cases hkn : k < n
    · have hgk := HG3.out k hkn
      have k0 : (0 : Int) ≤ (k : Int) := by omega
      have k1 : (k : Int) < (n : Int) := by omega
      by_cases hki : k = i
      · have t0 : ((k : Int) != (i : Int)) = false := by simp [hki]
        go_wp2
        go_quiet (fail)
        go_wp2
        go_roundw
        case rel => exact ⟨k + 1, _, by omega, by go_num, rfl⟩
        case measure => simp [intOf]; omega
      · have t0 : ((k : Int) != (i : Int)) = true := by simp; omega
        obtain ⟨ca, ta, hra⟩ := HR3.out i hi
        obtain ⟨cb, tb, hrb⟩ := HR3.out k hkn
        have qk := fun m => eql42_other (a := ⟨w.heap.size + 1 + i, 0, none⟩) (b := ⟨w.heap.size + 1 + k, 0, none⟩) (w3.drewN m) (fun e => hki (by have := congrArg Addr.block e; simp at this; omega)) hra hrb
        clear hra hrb
        go_wp2
        go_quiet (fail)
        go_wp2
        go_roundw
        case rel => exact ⟨k + 1, _, by omega, by go_num, rfl⟩
        case measure => simp [intOf]; omega
    · go_wp2
      go_ret
      exact ⟨rfl, below_drewN HB.out _⟩

/-! ### The row's step -/
set_option maxRecDepth 100000 in
theorem lifted (os : Os) (started : os.Started) (H : Type) (enc : TypeId × Value → H) :
    ReturnsInHanded {} Yba.checked os 3 .any (Rows.lawS2412CGlobalSpec.pre6 enc Yba.prog Yba.f3 Rows.lawS2412CGlobalRow.domain false) (Rows.lawS2412CGlobalSpec.post enc Yba.prog Yba.f3 false true false false) := by
  refine returnsInHanded_of_change (C := Yba.checked) own started (by kernel_rfl) Yba.func3
    (ChangeSpec.witness6 (enc := enc) (C := Yba.checked) false ⟨#[], #[.int .u8 0, .int .u16 0, .string ByteArray.empty], []⟩ 8 (by kernel_rfl) (by kernel_rfl) (by kernel_rfl) (by kernel_rfl)) ?_
  intro W base args ds gs before hval0 hW hcnd _
  have hval : ∀ (j : Nat) t v, Yba.f3.params[j]? = some t → args[j]? = some v → Value.okWide Yba.prog W .any base t v := hval0
  have hW' := hW
  obtain ⟨p, q, hA0, hV, rfl, hfz, hnd⟩ := hW
  have hA : DataW.TrodAll enc Yba.prog W 0 (fun _ => true) true Yba.f3.params.toList args.toList ds p := hA0
  rw [Yba.params3] at hA hval
  obtain ⟨v0, vs0, d0, ds0, p0, q0, hargs, rfl, rfl, h0, r0⟩ := trodAll_cons hA
  obtain ⟨v1, vs1, d1, ds1, p1, q1, rfl, rfl, rfl, h1, r1⟩ := trodAll_cons r0
  obtain ⟨v2, vs2, d2, ds2, p2, q2, rfl, rfl, rfl, h2, r2⟩ := trodAll_cons r1
  obtain ⟨rfl, rfl, rfl⟩ := trodAll_nil r2
  obtain rfl : args = #[v0, v1, v2] := by cases args; simp_all
  obtain ⟨rfl, rfl⟩ := trodVars_none hV
  obtain ⟨a0, rfl, rfl, rfl, w0⟩ := open_int Yba.underlying5 (hval 0 5 v0 rfl rfl) h0
  obtain ⟨a1, rfl, rfl, rfl, w1⟩ := open_int Yba.underlying22 (hval 1 22 v1 rfl rfl) h1
  obtain ⟨a2, rfl, rfl, rfl, w2⟩ := open_string Yba.underlying9 (hval 2 9 v2 rfl rfl) h2
  clear hA0 hval0
  simp only [List.append_nil] at hW'
  refine (walk a0 a1 a2 w0 w1 W).mono fun e W' ⟨he, bel⟩ => ?_
  subst he
  exact ⟨_, rfl, _, _, _, [], [], [], hW', (trodAll_cons_mk (shut_bool Yba.underlying4 _) trodAll_mk0), (trodAll_cons_mk (shut_int Yba.underlying5 w0) (trodAll_cons_mk (shut_int Yba.underlying22 w1) (trodAll_cons_mk (shut_string Yba.underlying9 w2) trodAll_mk0))), rfl, bel.frame _, fun h => by cases h⟩

theorem over : Rows.lawS2412CGlobalRow.holds Yba.pinned (OpenSpec.ofChange Rows.lawS2412CGlobalSpec) :=
  OpenClaim.holds_of_wide 3 Yba.f3 rfl rfl rfl rfl rfl rfl rfl ⟨rfl, rfl, rfl, rfl, rfl⟩ rfl rfl rfl rfl rfl (by kernel_rfl) Yba.func3 (by kernel_rfl)
    (of_decide_eq_true (by kernel_rfl)) (by unfold Func.isWrapper; first | (rw [if_pos (by decide +kernel)]; kernel_rfl) | (rw [if_neg (by decide +kernel)]; exact ⟨rfl, rfl⟩))
    (fun os started H enc _ => lifted os started H enc)

/-- ████ THE STATEMENT ████ -/
theorem proved : Rows.LawS2412CGlobalSaid :=
  over
#print axioms proved
end Go.Proofs.Ybulkawxu.lawS2412CGlobal
