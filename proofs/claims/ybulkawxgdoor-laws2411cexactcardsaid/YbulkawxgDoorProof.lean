/-
  THE ROW OF LawS2411CExact, AND ITS TIED CARD.
-/
import Derived.Test.YbulkawxgDoorLaw
import Derived.Test.YbulkawxgDoorTie
import Derived.Test.YbulkawxgDoorCards
import Derived.ProofKit
import Derived.LaidMore
import Derived.Lay
import Derived.OpenVars
import Derived.Deep.Strs
import Derived.SevenTiedAt
import Derived.Stop.Joined
namespace Go.Proofs.YbulkawxgDoor.lawS2411CExact
open Go.ChangeShapes Go.WideShapes Go.ChangeAt Go.RowKit Go.Deep

theorem own : ownKnob Ybad.prog.godebug = none := by kernel_rfl
theorem laidOut : laidOutB Ybad.prog = true := by kernel_rfl
/-- The variable's name, off the given specification. -/
abbrev gName : String := Rows.lawS2411CExactSpec.vars.headD default
theorem gG : Ybad.prog.globalNamed gName = some 0 := by kernel_rfl
theorem gType : (Ybad.prog.globals[0]?).map (·.type) = some 39 := by kernel_rfl

/-- What 'laid' gives the walk: the variable's three cells. -/
theorem cells {W : World} (h : laidMetH Ybad.prog Rows.lawS2411CExactRow.laid W) : W.cell? ⟨0, 0, none⟩ = some (.int .u8 0) ∧ W.cell? ⟨0, 1, none⟩ = some (.bool false) ∧ W.cell? ⟨0, 2, none⟩ = some (.int .u32 1) := by
  rw [MakeChecks.laidMetH_plain _ _ _ (by kernel_rfl)] at h
  obtain ⟨ps, ⟨g, t, cs, fuel, p, q, hg, ht, hv, hd, _, _⟩, _, _⟩ := h
  obtain rfl := Option.some.inj (gG.symm.trans hg)
  obtain rfl := Option.some.inj (gType.symm.trans ht)
  obtain ⟨y0, y1, y2, n, ex, hl, t0, t1, t2⟩ := trod_struct3 Ybad.underlying39 hd
  obtain ⟨z0, e0, x0, _⟩ := DataW.trod_int Ybad.underlying36 t0
  obtain ⟨b1, e1, x1⟩ := DataW.trod_bool Ybad.underlying4 t1
  obtain ⟨z2, e2, x2, _⟩ := DataW.trod_int Ybad.underlying37 t2
  have c36 : Ybad.prog.cellsOf 36 = 1 := by kernel_rfl
  have c4 : Ybad.prog.cellsOf 4 = 1 := by kernel_rfl
  have c37 : Ybad.prog.cellsOf 37 = 1 := by kernel_rfl
  simp only [c36, c4, c37] at e0 e1 e2
  subst x0 x1 x2
  have ex1 := (Prod.mk.inj ex).1
  simp only [Rows.laid_example_com_vouchsafe_vouchsafe_der_TagBoolean, DataW.agg.injEq, List.cons.injEq, DataW.lit.injEq, Lit.int.injEq, Lit.bool.injEq, true_and, and_true] at ex1
  obtain ⟨rfl, rfl, rfl⟩ := ex1
  have at0 : cs.toList[0]? = some (.int .u8 0) := by
    have : ((cs.toList.drop 0).take 1)[0]? = some (.int .u8 0) := by rw [e0]; rfl
    simpa using this
  have at1 : cs.toList[1]? = some (.bool false) := by
    have : ((cs.toList.drop 1).take 1)[0]? = some (.bool false) := by rw [e1]; rfl
    simpa using this
  have at2 : cs.toList[2]? = some (.int .u32 1) := by
    have : ((cs.toList.drop 2).take 1)[0]? = some (.int .u32 1) := by rw [e2]; rfl
    simpa using this
  refine ⟨?_, ?_, ?_⟩
  · rw [World.var?_cell gG hv 0]; simpa using at0
  · rw [World.var?_cell gG hv 1]; simpa using at1
  · rw [World.var?_cell gG hv 2]; simpa using at2

set_option maxRecDepth 100000 in
theorem lifted (os : Os) (started : os.Started) (H : Type) (enc : TypeId × Value → H) :
    ReturnsInHanded {} Ybad.checked os 5 .any (fun w args => (Rows.lawS2411CExactSpec.pre enc Ybad.prog Ybad.f5 Rows.lawS2411CExactRow.domain false w args ∧ laidMetH Ybad.prog Rows.lawS2411CExactRow.laid w) ∧ sizedMet enc Ybad.prog Ybad.f5 (OpenSpec.ofChange Rows.lawS2411CExactSpec) false w args)
      (Rows.lawS2411CExactSpec.post enc Ybad.prog Ybad.f5 false true false false) := by
  refine returnsInHanded_of_change_and (C := Ybad.checked) (X := fun w _ => laidMetH Ybad.prog Rows.lawS2411CExactRow.laid w) (fun _ _ _ hh h => h.of_heap hh) own started (by kernel_rfl) Ybad.func5
    (ChangeSpec.witness_shaped (enc := enc) (C := Ybad.checked) (os := os) (X := fun w _ => laidMetH Ybad.prog Rows.lawS2411CExactRow.laid w) false (World.laidAll Ybad.prog os Rows.lawS2411CExactRow.laid) #[.bool false] 8 (World.laidAll_os _ _ _)
      (World.shaped_of_ZipB (by kernel_rfl) (by kernel_rfl)) (by kernel_rfl) (by kernel_rfl) (by kernel_rfl)
      (by rw [MakeChecks.laidMetH_plain _ _ _ (by kernel_rfl)]; exact laidMet_laidAll _ (by kernel_rfl) (by kernel_rfl))) ?_
  intro W base args ds gs before hval0 hW _ _ hL _
  have hval : ∀ (j : Nat) t v, Ybad.f5.params[j]? = some t → args[j]? = some v → Value.okWide Ybad.prog W .any base t v := hval0
  have hW' := hW
  obtain ⟨p, q, hA0, hV0, rfl, _, _⟩ := hW
  have hA : DataW.TrodAll enc Ybad.prog W 0 (fun _ => true) true Ybad.f5.params.toList args.toList ds p := hA0
  have hV : DataW.TrodVars enc Ybad.prog W (fun _ => true) [gName] gs q := hV0
  rw [Ybad.params5] at hA hval
  obtain ⟨v0, d0, rfl, rfl, h0⟩ := trodAll_one hA
  obtain ⟨b, rfl, rfl, rfl⟩ := open_bool Ybad.underlying4 (hval 0 4 v0 rfl rfl) h0
  obtain ⟨g1, t1, cs1, fuel1, d1, p1, rfl, _⟩ := trodVars_one hV
  obtain ⟨c0, c1, c2⟩ := cells hL
  refine (law_any b W c0 c1 c2).mono fun e W' ⟨he, bel⟩ => ?_
  subst he
  exact ⟨_, rfl, _, _, _, [], [], q, hW', trodAll_mk1 (shut_bool Ybad.underlying4 _), trodAll_mk1 (shut_bool Ybad.underlying4 _), Below.trodVars laidOut bel (by kernel_rfl) hV, bel.frame _, fun h => by cases h⟩

theorem row : Rows.LawS2411CExactSaid :=
  OpenClaim.holds_of_wide 5 Ybad.f5 rfl rfl rfl rfl rfl rfl rfl ⟨rfl, rfl, rfl, rfl, rfl⟩ rfl rfl rfl rfl rfl (by kernel_rfl) Ybad.func5 (by kernel_rfl)
    (of_decide_eq_true (by kernel_rfl)) (by unfold Func.isWrapper; first | (rw [if_pos (by decide +kernel)]; kernel_rfl) | (rw [if_neg (by decide +kernel)]; exact ⟨rfl, rfl⟩))
    (fun os started H enc _ => lifted os started H enc)

theorem proved : Rows.LawS2411CExactCardSaid :=
  Claim7.holds_tied_plain_at .later [] [.data] true Rows.lawS2411CExactCard.stood.harness false
    row (fun _ h => by cases h) (by kernel_rfl) (fun _ h => by cases h) lawS2411CExact_row_tie rfl ⟨rfl, rfl⟩ (by kernel_rfl) rfl
    (fun f fn hf hfn => by
      obtain rfl : f = 5 := Option.some.inj ((show Ybad.prog.funcNamed Rows.lawS2411CExactRow.func = some 5 by kernel_rfl).symm.trans hf) |>.symm
      obtain rfl : fn = Ybad.f5 := (Option.some.inj (Ybad.func5.symm.trans hfn)).symm
      exact ⟨by kernel_rfl, fun j t ht => by
        rw [Ybad.params5] at ht
        have hm : t ∈ [4] := by simpa using Array.mem_of_getElem? ht
        have hall : ([4].all fun u => !Ybad.prog.wantsStandIn u) = true := by kernel_rfl
        exact (show Ybad.prog.wantsStandIn t = false by simpa using List.all_eq_true.1 hall t hm)⟩)
    (by kernel_rfl)
#print axioms proved
end Go.Proofs.YbulkawxgDoor.lawS2411CExact
