/-
  THE CARD OF LawS2410CRoundTrip, told and tied.
-/
import Derived.Test.YbulkawwsFmtRound
import Derived.Test.YbulkawwsFmtFrame
import Derived.Deep.Matrix
import Derived.OpenShut
namespace Go.Proofs.YbulkawwsFmt.round
open Go.ChangeShapes Go.WideShapes Go.ChangeAt Go.RowKit Go.Kit Go.Deep
open Go.Extern.Stop Go.Stop Go.Extern

theorem wf_byte {z : Int} (h : (Lit.int .u8 z).wf = true) : 0 ≤ z ∧ z ≤ 255 := by
  simp [Lit.wf, IntKind.min, IntKind.max, IntKind.signed, IntKind.bits] at h
  omega

theorem walk (a : Addr) (len cap : Nat) (W : World) (A : Nat → Option Addr) (L C : Nat → Nat) (Z : Nat → List Int) (hl : len ≤ cap) (hm : cap ≤ maxLen)
    (h : ∀ r, r < cap → W.cell? (a.add r) = some (.slice (A r) (L r) (C r)) ∧ L r ≤ C r ∧ C r ≤ maxLen ∧ (Z r).length = C r ∧ (∀ n ∈ Z r, (Lit.int .u8 n).wf = true) ∧ (A r = none → C r = 0) ∧
        ∀ a', A r = some a' → 0 ≤ a'.block ∧ ∀ c, c < C r → W.cell? (a'.add c) = some (.int .u8 ((Z r).getD c 0))) :
    Calls Ybaf.prog 5 #[.slice (some a) len cap] W fun e w' => e = .returned (.bool true) ∧ Below W.heap.size W w' := by
  have hm' : cap ≤ 9223372036854775807 := by unfold maxLen at hm; omega
  by_cases hn : len ≤ 1024
  · refine rt_core (some a) len cap ((List.range len).map fun r => (Z r).take (L r)) W (by simp) hn ?_
    intro j hj
    have hj' : j < len := by simpa using hj
    obtain ⟨hc, h1, h2, h3, h4, h5, h6⟩ := h j (by omega)
    have ha : ∃ b off, a = ⟨b, off, none⟩ := by
      obtain ⟨b, off, spot⟩ := a
      have h0 := (h 0 (by omega)).1
      have hspot : spot = none := by simpa [Addr.add] using World.cell?_spot h0
      exact ⟨b, off, by rw [hspot]⟩
    obtain ⟨b, off, rfl⟩ := ha
    have e : ((List.range len).map fun r => (Z r).take (L r)).getD j [] = (Z j).take (L j) := by simp [List.getD_eq_getElem?_getD, hj']
    have el : ((Z j).take (L j)).length = L j := by simp; omega
    rw [e]
    refine ⟨b, off, A j, C j, rfl, ?_, ?_, fun x hx => wf_byte (h4 x (List.mem_of_mem_take hx))⟩
    · rw [el, ← add_plain]; exact hc
    · refine ⟨A j, C j, rfl, by rw [el]; exact h1, h2, fun hne => ?_⟩
      have hL0 : 0 < L j := by rw [← el]; exact List.length_pos_iff.2 hne
      cases hA : A j with
      | none => have := h5 hA; omega
      | some a' =>
        obtain ⟨g, o, rfl, hcs⟩ := ints_at (w := W) (a := a') (k := .u8) (zs := Z j) (fun i hi => (h6 a' hA).2 i (by omega)) (by omega)
        refine ⟨g, o, rfl, fun i hi => ?_⟩
        rw [el] at hi
        rw [hcs i (by omega)]
        simp [hi]
  · exact rt_many (some a) len cap W (by omega) (by omega)

set_option maxRecDepth 100000 in
theorem lifted (os : Os) (started : os.Started) (H : Type) (enc : TypeId × Value → H) :
    ReturnsInTold none {} Ybaf.checked os 5 .any Input.okWide ((OpenSpec.ofChange Rows.lawS2410CRoundTripSpec).preRow enc Ybaf.prog Ybaf.f5 Rows.lawS2410CRoundTripRow.domain false Rows.lawS2410CRoundTripRow.laid)
      (fun F => ((OpenSpec.ofChange Rows.lawS2410CRoundTripSpec).at F).post enc Ybaf.prog Ybaf.f5 false true false false) (aloneAtReturn Ybaf.prog) nothingAlways := by
  refine returnsInTold_of_row (C := Ybaf.checked) (s := OpenSpec.ofChange Rows.lawS2410CRoundTripSpec) (by kernel_rfl) own started (by kernel_rfl) Ybaf.func5
    (OpenSpec.witness_stopped_at (enc := enc) (C := Ybaf.checked) false (World.laidAll Ybaf.prog os Rows.lawS2410CRoundTripRow.laid) #[.slice none 0 0] (World.laidAll_os _ _ _) (by kernel_rfl) (by kernel_rfl) (by kernel_rfl)
      (OpenSpec.preRow_of_B rfl 8 (by kernel_rfl) (by kernel_rfl) (laid_met os _))) ?_
  intro F W base args ds gs before _ _ hval0 hW _ _ _ hL _
  have hval : ∀ (j : Nat) t v, Ybaf.f5.params[j]? = some t → args[j]? = some v → Value.okWide Ybaf.prog W .any base t v := hval0
  have hW' := hW
  obtain ⟨p, q, hA0, hV0, rfl, hfz, hnd⟩ := hW
  have hA : DataW.TrodAll enc Ybaf.prog W 0 (fun _ => true) true Ybaf.f5.params.toList args.toList ds p := hA0
  have hV : DataW.TrodVars enc Ybaf.prog W (fun _ => true) [gEname] gs q := hV0
  rw [Ybaf.params5] at hA hval
  obtain ⟨v0, d0, rfl, rfl, h0⟩ := trodAll_one hA
  obtain ⟨a1, s1, hv1, hc1, hs1, hz1⟩ := laid_sentinel hL gE gEType Ybaf.underlying30 row54 Ybaf.underlying54 Ybaf.underlying56 rfl rfl Ybaf.underlying9 cells56 cells9
  obtain ⟨rfl, rfl⟩ := hV.unique (vars_read1 enc gE gEType Ybaf.underlying30 hv1 trivial _)
  obtain ⟨a0, len0, cap0, rfl⟩ := okWide_slice Ybaf.underlying37 (hval 0 37 v0 rfl rfl)
  have lt0 : ∀ x ∈ p, x.block < W.heap.size := by obtain ⟨m, hm⟩ := h0; exact DataW.trod_lt m _ _ _ hm
  have hwalk : Calls Ybaf.prog 5 #[.slice a0 len0 cap0] W fun e w' => e = .returned (.bool true) ∧ Below W.heap.size W w' := by
    obtain ⟨fuel, hf⟩ := h0
    rcases open_int_rows Ybaf.underlying37 Ybaf.underlying22 Ybaf.underlying5 (by kernel_rfl) (by kernel_rfl) hf with ⟨hcs, _⟩ | ⟨a, len, cap, A, L, C, Z, hcs, _, hl, hm, _, hr⟩
    · simp [Value.cells] at hcs
      obtain ⟨rfl, rfl, rfl⟩ := hcs
      exact rt_core none 0 0 [] W rfl (by omega) (fun j hj => absurd hj (by simp))
    · simp [Value.cells] at hcs
      obtain ⟨rfl, rfl, rfl⟩ := hcs
      exact walk a len0 cap0 W A L C Z hl hm hr
  refine hwalk.mono fun e W' ⟨he, bel⟩ => ?_
  subst he
  have hvb : W'.var? Ybaf.prog gEname = some #[.iface 54 (.pointer (some a1))] := var?_below bel gE (World.block_lt_of_cell? W ⟨0, 0, none⟩ (World.var?_cell gE hv1 0)) hv1
  exact ⟨_, rfl, _, _, _, [], _, [.cell 0 0], hW', trodAll_mk1 (shut_bool Ybaf.underlying4 _), (trodAll_mk1 (Below.trod laidOut (by kernel_rfl) (of_decide_eq_true (by kernel_rfl)) h0 bel lt0)), vars_read1 enc gE gEType Ybaf.underlying30 hvb trivial _, bel.frame _, fun h => by cases h⟩

theorem proved : Rows.LawS2410CRoundTripToldSaid :=
  Claim7.holds_of_told_tied_any_at .later 5 Ybaf.f5 _ _ [] _ _ _ _ _ (by kernel_rfl) rfl rfl rfl laidOut (by kernel_rfl) rfl ⟨rfl, rfl, rfl, rfl, rfl, rfl, rfl⟩ rfl rfl (by kernel_rfl) (by kernel_rfl) Ybaf.func5 (by kernel_rfl)
    (of_decide_eq_true (by kernel_rfl)) (by unfold Func.isWrapper; first | (rw [if_pos (by decide +kernel)]; kernel_rfl) | (rw [if_neg (by decide +kernel)]; exact ⟨rfl, rfl⟩)) stops.symm rfl stopKnobs.symm (by kernel_rfl)
    (by kernel_rfl) (by kernel_rfl) (by kernel_rfl) (by kernel_rfl) (by kernel_rfl) (by kernel_rfl) (by kernel_rfl) (by kernel_rfl) (by kernel_rfl) rfl (by kernel_rfl) rfl rfl
    rfl rfl
    rfl (by kernel_rfl) (by kernel_rfl) (by kernel_rfl) (by decide) (by kernel_rfl) lawS2410CRoundTrip_row_tie
    (OpenClaim.moreEntering_of (by kernel_rfl) (by kernel_rfl) (by kernel_rfl) (by kernel_rfl) (by kernel_rfl) (by kernel_rfl) (by kernel_rfl) (by kernel_rfl) (by kernel_rfl) (by kernel_rfl))
    ⟨_, WideRow.started_initial, quiet _⟩
    (fun os started _ H enc _ => lifted os started H enc)
#print axioms proved
end Go.Proofs.YbulkawwsFmt.round
