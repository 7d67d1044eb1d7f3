/-
  THE CARD OF LawS2410CModel, told and tied.
-/
import Derived.Test.YbulkawwsFmtModelLaw
import Derived.Test.YbulkawwsFmtFrame
import Derived.OpenShut
namespace Go.Proofs.YbulkawwsFmt.model
open Go.ChangeShapes Go.WideShapes Go.ChangeAt Go.RowKit Go.Kit
open Go.Extern.Stop Go.Stop Go.Extern

theorem wf_byte {z : Int} (h : (Lit.int .u8 z).wf = true) : 0 ≤ z ∧ z ≤ 255 := by
  simp [Lit.wf, IntKind.min, IntKind.max, IntKind.signed, IntKind.bits] at h
  omega

/-- A slice of bytes that came in, as the walk wants it. -/
theorem view {H : Type} {enc : TypeId × Value → H} {W : World} {a : Option Addr} {n c : Nat} {d : DataW H} {p : List MemPlace} (h : DataW.Trod enc Ybaf.prog W 0 (fun _ => true) true 22 (.slice a n c) d p) :
    ∃ bs : List Int, bs.length = n ∧ n ≤ 9223372036854775807 ∧ Byt bs ∧ Bts W (.slice a n c) bs := by
  obtain ⟨fuel, hf⟩ := h
  rcases open_ints Ybaf.underlying22 Ybaf.underlying5 (by kernel_rfl) hf with ⟨hcs, _⟩ | ⟨x, l, c', zs, hcs, _, hl, hm, hz, _, hcell, hwz⟩
  · simp [Value.cells] at hcs
    obtain ⟨rfl, rfl, rfl⟩ := hcs
    exact ⟨[], rfl, by omega, (fun x hx => by cases hx), Bts.empty _ _ _ (Nat.zero_le _)⟩
  · simp [Value.cells] at hcs
    obtain ⟨rfl, rfl, rfl⟩ := hcs
    have hz' : zs.length = c := by simpa using hz
    have el : (zs.take n).length = n := by simp; omega
    refine ⟨zs.take n, el, by unfold maxLen at hm; omega, fun x hx => wf_byte (hwz x (List.mem_of_mem_take hx)), ⟨_, _, by rw [el], by rw [el]; exact hl, hm, fun hne => ?_⟩⟩
    have hn0 : 0 < n := by rw [← el]; exact List.length_pos_iff.2 hne
    obtain ⟨b, off, rfl, hc⟩ := ints_at hcell (show 0 < zs.length by omega)
    refine ⟨b, off, rfl, fun j hj => ?_⟩
    rw [el] at hj
    rw [hc j (by omega)]
    simp [hj]

set_option maxRecDepth 100000 in
theorem lifted (os : Os) (started : os.Started) (H : Type) (enc : TypeId × Value → H) :
    ReturnsInTold none {} Ybaf.checked os 4 .any Input.okWide ((OpenSpec.ofChange Rows.lawS2410CModelSpec).preRow enc Ybaf.prog Ybaf.f4 Rows.lawS2410CModelRow.domain false Rows.lawS2410CModelRow.laid)
      (fun F => ((OpenSpec.ofChange Rows.lawS2410CModelSpec).at F).post enc Ybaf.prog Ybaf.f4 false true false false) (aloneAtReturn Ybaf.prog) nothingAlways := by
  refine returnsInTold_of_row (C := Ybaf.checked) (s := OpenSpec.ofChange Rows.lawS2410CModelSpec) (by kernel_rfl) own started (by kernel_rfl) Ybaf.func4
    (OpenSpec.witness_stopped_at (enc := enc) (C := Ybaf.checked) false (World.laidAll Ybaf.prog os Rows.lawS2410CModelRow.laid) #[.slice none 0 0] (World.laidAll_os _ _ _) (by kernel_rfl) (by kernel_rfl) (by kernel_rfl)
      (OpenSpec.preRow_of_B rfl 8 (by kernel_rfl) (by kernel_rfl) (laid_met os _))) ?_
  intro F W base args ds gs before _ _ hval0 hW _ _ _ hL _
  have hval : ∀ (j : Nat) t v, Ybaf.f4.params[j]? = some t → args[j]? = some v → Value.okWide Ybaf.prog W .any base t v := hval0
  have hW' := hW
  obtain ⟨p, q, hA0, hV0, rfl, hfz, hnd⟩ := hW
  have hA : DataW.TrodAll enc Ybaf.prog W 0 (fun _ => true) true Ybaf.f4.params.toList args.toList ds p := hA0
  have hV : DataW.TrodVars enc Ybaf.prog W (fun _ => true) [gEname] gs q := hV0
  rw [Ybaf.params4] at hA hval
  obtain ⟨v0, d0, rfl, rfl, h0⟩ := trodAll_one hA
  obtain ⟨a1, s1, hv1, hc1, hs1, hz1⟩ := laid_sentinel hL gE gEType Ybaf.underlying30 row54 Ybaf.underlying54 Ybaf.underlying56 rfl rfl Ybaf.underlying9 cells56 cells9
  obtain ⟨rfl, rfl⟩ := hV.unique (vars_read1 enc gE gEType Ybaf.underlying30 hv1 trivial _)
  obtain ⟨a0, len0, cap0, rfl⟩ := okWide_slice Ybaf.underlying22 (hval 0 22 v0 rfl rfl)
  have lt0 : ∀ x ∈ p, x.block < W.heap.size := by obtain ⟨m, hm⟩ := h0; exact DataW.trod_lt m _ _ _ hm
  have hg1 : W.cell? ⟨0, 0, none⟩ = some (.iface 54 (.pointer (some a1))) := by simpa using World.var?_cell gE hv1 0
  obtain ⟨bs, hlen, h63, hby, hbts⟩ := view h0
  have hwalk : Calls Ybaf.prog 4 #[.slice a0 len0 cap0] W fun e w' => e = .returned (.bool true) ∧ Below W.heap.size W w' := by
    by_cases hn : len0 ≤ 70000
    · exact ml_core a0 len0 cap0 bs a1 s1 W hby hlen hn hbts ⟨hg1, hc1⟩
    · exact ml_many a0 len0 cap0 W (by omega) h63
  refine hwalk.mono fun e W' ⟨he, bel⟩ => ?_
  subst he
  have hvb : W'.var? Ybaf.prog gEname = some #[.iface 54 (.pointer (some a1))] := var?_below bel gE (World.block_lt_of_cell? W ⟨0, 0, none⟩ (World.var?_cell gE hv1 0)) hv1
  exact ⟨_, rfl, _, _, _, [], _, [.cell 0 0], hW', trodAll_mk1 (shut_bool Ybaf.underlying4 _), (trodAll_mk1 (Below.trod laidOut (by kernel_rfl) (of_decide_eq_true (by kernel_rfl)) h0 bel lt0)), vars_read1 enc gE gEType Ybaf.underlying30 hvb trivial _, bel.frame _, fun h => by cases h⟩

theorem proved : Rows.LawS2410CModelToldSaid :=
  Claim7.holds_of_told_tied_any_at .later 4 Ybaf.f4 _ _ [] _ _ _ _ _ (by kernel_rfl) rfl rfl rfl laidOut (by kernel_rfl) rfl ⟨rfl, rfl, rfl, rfl, rfl, rfl, rfl⟩ rfl rfl (by kernel_rfl) (by kernel_rfl) Ybaf.func4 (by kernel_rfl)
    (of_decide_eq_true (by kernel_rfl)) (by unfold Func.isWrapper; first | (rw [if_pos (by decide +kernel)]; kernel_rfl) | (rw [if_neg (by decide +kernel)]; exact ⟨rfl, rfl⟩)) stops.symm rfl stopKnobs.symm (by kernel_rfl)
    (by kernel_rfl) (by kernel_rfl) (by kernel_rfl) (by kernel_rfl) (by kernel_rfl) (by kernel_rfl) (by kernel_rfl) (by kernel_rfl) (by kernel_rfl) rfl (by kernel_rfl) rfl rfl
    rfl rfl
    rfl (by kernel_rfl) (by kernel_rfl) (by kernel_rfl) (by decide) (by kernel_rfl) lawS2410CModel_row_tie
    (OpenClaim.moreEntering_of (by kernel_rfl) (by kernel_rfl) (by kernel_rfl) (by kernel_rfl) (by kernel_rfl) (by kernel_rfl) (by kernel_rfl) (by kernel_rfl) (by kernel_rfl) (by kernel_rfl))
    ⟨_, WideRow.started_initial, quiet _⟩
    (fun os started _ H enc _ => lifted os started H enc)
#print axioms proved
end Go.Proofs.YbulkawwsFmt.model
