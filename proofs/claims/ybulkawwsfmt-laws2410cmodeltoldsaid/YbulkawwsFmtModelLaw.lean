/-
  LawS2410CModel, walked.
-/
import Derived.Test.YbulkawwsFmtModel
import Derived.Laws.CopyOwn
import Derived.Deep.OwnRows
import Derived.WalkSpells
import Derived.WalkLawsBesides
import Derived.BigQuiet
import Derived.Deep.QuietTactic
namespace Go.Proofs.YbulkawwsFmt
open Go.RowKit

theorem ml_many (a0 : Option Addr) (n cap : Nat) (w : World) (hn : 70000 < n) (_h63 : n ≤ 9223372036854775807) :
    Calls Ybaf.prog 4 #[.slice a0 n cap] w fun e w' => e = .returned (.bool true) ∧ Below w.heap.size w w' := by
  have h9 : decide ((70000 : Int) < n) = true := by simp; omega
  go_enter Ybaf.func4, Ybaf.ntmps4
  go_wp2
  go_ret
  exact ⟨rfl, Below.refl _ _⟩

/-- The source of the copy: empty, or at an address. -/
theorem copy_src {w w' : World} {a : Option Addr} {L c : Nat} {bs : List Int} (h : Bts w (.slice a L c) bs) (hL : bs.length = L) (hb : Below w.heap.size w w') (N : Nat) :
    0 < (bs.map (Value.int .u8)).length → (some ⟨N, 0, none⟩ : Option Addr) = some ⟨N, 0, none⟩ ∧ ∃ ad, a = some ad ∧ ∀ j v, (bs.map (Value.int .u8))[j]? = some v → w'.cell? (ad.add j) = some v := by
  intro h0
  refine ⟨rfl, ?_⟩
  obtain ⟨a', c', e, _, _, h3⟩ := h
  obtain ⟨g, o, ha, hc⟩ := h3 (by intro e; subst e; simp at h0)
  simp only [Value.slice.injEq] at e
  obtain ⟨rfl, _, _⟩ := e
  refine ⟨⟨g, o, none⟩, ha, fun j v hj => ?_⟩
  have hl : j < bs.length := by have := (List.getElem?_eq_some_iff.1 hj).1; simpa using this
  rw [Go.WideShapes.add_plain, hb.cell (p := ⟨g, o + j, none⟩) (World.block_lt_of_cell? w _ (hc j hl)), hc j hl]
  simp [List.getElem?_eq_getElem hl] at hj ⊢
  exact hj

/-- 'copy(cp, data)' into the row that was just made: its run. -/
theorem copy_run {w : World} {a : Option Addr} {L c : Nat} {bs : List Int} (h : Bts w (.slice a L c) bs) (hL : bs.length = L) :
    ∃ w2, (Builtin.copy_ #[22, 22] 3 #[.slice (some ⟨w.heap.size, 0, none⟩) L L, .slice a L c]).run Ybaf.prog (w.alloc (.cells (madeCells #[.int .u8 0] L) 5)) = .ok (goInt L) w2 ∧
      w2.heap[w.heap.size]? = some (.cells (bs.map (Value.int .u8)).toArray 5 (0, 0)) ∧ Below w.heap.size w w2 := by
  have hsz5 : (Ybaf.prog.info? 5).map (·.size) = some 1 := by kernel_rfl
  have hb1 : Below w.heap.size w (w.alloc (.cells (madeCells #[.int .u8 0] L) 5)) := (Below.refl _ _).alloc (Nat.le_refl _) _
  by_cases h0 : L = 0
  · subst h0
    have hbs : bs = [] := List.eq_nil_of_length_eq_zero hL
    subst hbs
    refine ⟨_, run_copy_none (P := Ybaf.prog) _ 22 22 3 5 _ _ 0 0 0 c Ybaf.underlying22 hsz5 rfl, ?_, hb1⟩
    have := heap_alloc_new w (.cells (madeCells #[.int .u8 0] 0) 5)
    rw [this]
    simp [madeCells]
  · obtain ⟨_, ad, rfl, hsrc⟩ := copy_src h hL hb1 w.heap.size (by simp; omega)
    have hn : (bs.map (Value.int .u8)).length = Nat.min L L := by simp [hL]
    have hfit : 0 + (bs.map (Value.int .u8)).length ≤ (madeCells #[.int .u8 0] L).size := by simp [hL, size_madeCells]
    have hr := run_copy_row (P := Ybaf.prog) (w.alloc (.cells (madeCells #[.int .u8 0] L) 5)) 22 22 3 5 w.heap.size 0 L L ad L c (madeCells #[.int .u8 0] L) 5 (bs.map (Value.int .u8)) Ybaf.underlying22 hsz5 (heap_alloc_new w _) hn hsrc hfit (news_one bs)
    have el : (bs.map (Value.int .u8)).length = L := by simp [hL]
    rw [el] at hr
    refine ⟨_, hr, ?_, below_setRow hb1 (Nat.le_refl _) _⟩
    rw [setRow_heap _ _ _ _ _ _ (heap_alloc_new w _)]
    have ed : (madeCells #[.int .u8 0] L).toList.drop (0 + L) = [] := List.drop_of_length_le (by simp [size_madeCells])
    rw [ed]
    simp

theorem bts_row {w : World} {N L : Nat} {bs : List Int} (hL : bs.length = L) (hm : L ≤ maxLen) (h : w.heap[N]? = some (.cells (bs.map (Value.int .u8)).toArray 5 (0, 0))) : Bts w (.slice (some ⟨N, 0, none⟩) L L) bs := by
  subst hL
  refine ⟨_, _, rfl, Nat.le_refl _, hm, fun _ => ⟨N, 0, rfl, fun j hj => ?_⟩⟩
  rw [Nat.zero_add, cell_of_row w N j _ 5 (0, 0) h]
  simp [List.getElem?_eq_getElem hj]

theorem want_shape {w : World} {N n : Nat} {v : Value} {vs : List Value} (h : w.ownsRow N 22 1 v n vs) : ∃ a c, v = .slice a n c ∧ ∀ j, j < n → ∃ g, a = some ⟨g, 0, none⟩ ∧ w.cell? ⟨g, j, none⟩ = vs[j]? := by
  have h' := h
  rcases h.2 with ⟨rfl, h0⟩ | ⟨g, cap, cur, rfl, _⟩
  · subst h0; exact ⟨none, 0, rfl, fun j hj => absurd hj (by omega)⟩
  · exact ⟨_, cap, rfl, fun j hj => ⟨g, rfl, h'.cellAt j (by omega)⟩⟩

set_option maxHeartbeats 1000000 in
theorem ml_core (a : Option Addr) (L c : Nat) (bs : List Int) (sa : Addr) (s1 : ByteArray) (w : World) (hbd : Byt bs) (hL : bs.length = L) (hL7 : L ≤ 70000) (hb : Bts w (.slice a L c) bs) (hS : Sent w sa s1) :
    Calls Ybaf.prog 4 #[.slice a L c] w fun e w' => e = .returned (.bool true) ∧ Below w.heap.size w w' := by
  have h9 : decide ((70000 : Int) < L) = false := by simp; omega
  have hmk := fun w => run_make_row' (P := Ybaf.prog) 22 5 (.int .u8 0) 1 Ybaf.underlying22 info5 rfl .i64 .i64 L (by omega) (by omega) w
  have HL : Hid (bs.length = L) := hL
  have HB : Hid (Bts w (.slice a L c) bs) := hb
  have HS : Hid (Sent w sa s1) := hS
  have hsz5 : (Ybaf.prog.info? 5).map (·.size) = some 1 := by kernel_rfl
  clear hL hb hS
  go_enter Ybaf.func4, Ybaf.ntmps4
  obtain ⟨w2, hcp, hw2, hb2⟩ := copy_run HB.out HL.out
  have HW2 : Hid (w2.heap[w.heap.size]? = some (.cells (bs.map (Value.int .u8)).toArray 5 (0, 0))) := hw2
  clear hw2
  have hBw2 := HB.out.below hb2
  have hmd := md_any w2 a c bs hbd (by rw [HL.out]; exact hL7) (by rw [HL.out]; exact hBw2)
  rw [HL.out] at hmd
  have HMD : Hid (Calls Ybaf.prog 8 #[.slice a L c] w2 fun e w' => MdlEnd w2.heap.size w2 (parse bs) e w') := hmd
  have hnil := fun (w : World) (a : Option Addr) (n c : Nat) => Lib.run_eql_slice_nil (P := Ybaf.prog) w 37 22 a n c 0 0 Ybaf.underlying37
  have hN2 : w.heap.size < w2.heap.size := by
    rcases Nat.lt_or_ge w.heap.size w2.heap.size with h | h
    · exact h
    · have := HW2.out; rw [Array.getElem?_eq_none h] at this; cases this
  clear hmd hBw2
  cases hp : parse bs with
  | none =>
    have HP : Hid (parse bs = none) := hp
    clear hp
    go_wp2_with fail
    refine Calls.mono HMD.out ?_
    rintro e w3 ⟨hb3, he, _⟩
    have he' := he HP.out
    subst he'
    clear he
    have hb4 : Below w.heap.size w w3 := hb2.trans (hb3.mono (by omega))
    have hcp3 : Bts w3 (.slice (some ⟨w.heap.size, 0, none⟩) L L) bs := bts_row HL.out (by unfold maxLen; omega) (by rw [hb3.block _ hN2]; exact HW2.out)
    go_wp2_with (go_at_call 9; refine (ps_err w3 _ bs sa s1 hbd hcp3 (HS.out.below hb4 rfl) HP.out).mono ?_; rintro e w4 ⟨t, g, rfl, hb5⟩)
    go_ret
    exact ⟨rfl, hb4.trans (hb5.mono hb4.size)⟩
  | some xs =>
    have HP : Hid (parse bs = some xs) := hp
    clear hp
    go_wp2_with fail
    refine Calls.mono HMD.out ?_
    rintro e w3 ⟨hb3, _, he⟩
    obtain ⟨v, vs, he', hown, hvs⟩ := he xs HP.out
    obtain ⟨aw, cw, hv, hcells⟩ := want_shape hown
    subst hv
    subst he'
    clear he
    have hb4 : Below w.heap.size w w3 := hb2.trans (hb3.mono (by omega))
    have hcp3 : Bts w3 (.slice (some ⟨w.heap.size, 0, none⟩) L L) bs := bts_row HL.out (by unfold maxLen; omega) (by rw [hb3.block _ hN2]; exact HW2.out)
    have hvs3 : ∀ j, j < xs.length → ∃ u, vs[j]? = some u ∧ Bts w3 u (xs.getD j []) := fun j hj => by
      obtain ⟨u, e1, e2⟩ := hvs j hj
      exact ⟨u, e1, e2.below hb3⟩
    clear hown hvs
    go_wp2_with (go_at_call 9; refine (ps_ok w3 _ bs xs hbd hcp3 HP.out).mono ?_; rintro e w4 ⟨G, rfl, hb5, hG, hgot⟩)
    have hb6 : Below w.heap.size w w4 := hb4.trans (hb5.mono hb4.size)
    clear hcp3 hcp
    have hxl : xs.length ≤ 70000 := by
      obtain ⟨l, hr, _, hs⟩ := parse_some HP.out
      have h1 := sct_len hs
      have h2 := rv2_len hr
      have h3 := HL.out
      omega
    go_loopw [8] (fun t wz => ∃ m : Nat, m ≤ xs.length ∧ t = .int .i64 m ∧ ∃ q, wz = w4.drewN q) (fun t _ => xs.length - (intOf t).toNat)
    case atStart => exact ⟨0, Nat.zero_le _, rfl, 0, rfl⟩
    case round =>
      obtain ⟨m, hm, rfl, q, rfl⟩ := hrel
      by_cases hmi : m < xs.length
      · obtain ⟨v1, c1, b1⟩ := hgot m hmi
        obtain ⟨g, ha, c2⟩ := hcells m hmi
        obtain ⟨u, e2, b2⟩ := hvs3 m hmi
        subst ha
        rw [e2] at c2
        have c3 : w4.cell? ⟨g, m, none⟩ = some u := (hb5.cell (p := ⟨g, m, none⟩) (World.block_lt_of_cell? w3 _ c2)).trans c2
        have b2' := b2.below hb5
        have b1' := b1
        have b3' := b2'
        obtain ⟨a', c', rfl, _, _, _⟩ := b1'
        obtain ⟨a'', c'', rfl, _, _, _⟩ := b3'
        have HB1 : Hid (Bts w4 (.slice a' (xs.getD m []).length c') (xs.getD m [])) := b1
        have HB2 : Hid (Bts w4 (.slice a'' (xs.getD m []).length c'') (xs.getD m [])) := b2'
        have i0 : (0 : Int) ≤ (m : Int) := by omega
        have i1 : (m : Int) < (xs.length : Int) := by omega
        clear b1 b2 b2' hgot hcells hvs3 c2 e2
        generalize xs.getD m [] = x at *
        generalize xs.length = X at *
        go_wp2
        go_quiet ((go_at_call 10; exact (eq_same _ _ _ x (HB1.out.drewN _) (HB2.out.drewN _)).mono fun _ _ ⟨he, hw⟩ => ⟨he, _, hw⟩))
        go_wp2
        go_roundw
        case rel => exact ⟨m + 1, by omega, by go_num, _, rfl⟩
        case measure => simp [intOf]; omega
      · go_wp2
        go_ret
        exact ⟨rfl, below_draws hb6 _⟩
end Go.Proofs.YbulkawwsFmt
