/-
  LAWS ON WORLDS for the round trip's building loop. No walk here.
-/
import Derived.Test.YbulkawwsFmtParse
import Derived.Test.YbulkawwsFmtEnc
import Derived.WideShapes
import Derived.Deep.Draws
namespace Go.Proofs.YbulkawwsFmt
open Go.RowKit
theorem info5 : (Ybaf.prog.info? 5).map (fun i => (i.zero, i.size, i.bytes)) = some (some (.int .u8 0), 1, 1) := by kernel_rfl

/-- The items that came in: item j's slice lies in cell j of the outer row. -/
def Its (w : World) (a0 : Option Addr) (its : List (List Int)) : Prop :=
  ∀ j, j < its.length → ∃ b off a c, a0 = some ⟨b, off, none⟩ ∧ w.cell? ⟨b, off + j, none⟩ = some (.slice a (its.getD j []).length c) ∧ Bts w (.slice a (its.getD j []).length c) (its.getD j []) ∧ Byt (its.getD j [])

/-- An item's bytes, in a block that is neither the row N nor the row N + 1. -/
def Itm (w : World) (N g o c : Nat) (y : List Int) : Prop :=
  g ≠ N + 1 ∧ g ≠ N ∧ g < w.heap.size ∧ y.length ≤ c ∧ c ≤ maxLen ∧ ∀ j, j < y.length → w.cell? ⟨g, o + j, none⟩ = some (.int .u8 (y.getD j 0))

/-- All blocks but N and N + 1 stand. -/
def Two (N : Nat) (w w' : World) : Prop := w.heap.size ≤ w'.heap.size ∧ ∀ k, k < w.heap.size → k ≠ N → k ≠ N + 1 → w'.heap[k]? = w.heap[k]?

theorem Itm.two {w w' : World} {N g o c : Nat} {y : List Int} (h : Itm w N g o c y) (t : Two N w w') : Itm w' N g o c y := by
  obtain ⟨h1, h2, h3, h4, h5, h6⟩ := h
  exact ⟨h1, h2, Nat.lt_of_lt_of_le h3 t.1, h4, h5, fun j hj => (World.cell?_of_block (w := w) (a := ⟨g, o + j, none⟩) (t.2 g h3 h2 h1)).trans (h6 j hj)⟩

theorem Itm.bts {w : World} {N g o c : Nat} {y : List Int} (h : Itm w N g o c y) : Bts w (.slice (some ⟨g, o, none⟩) y.length c) y :=
  ⟨_, _, rfl, h.2.2.2.1, h.2.2.2.2.1, fun _ => ⟨g, o, rfl, h.2.2.2.2.2⟩⟩

/-- The items as they went in lie in the row N. -/
def Eff (w : World) (N k : Nat) (xs : List (List Int)) : Prop :=
  ∀ j, j < k → ∃ g o c, w.cell? ⟨N, j, none⟩ = some (.slice (some ⟨g, o, none⟩) (xs.getD j []).length c) ∧ Itm w N g o c (xs.getD j [])

/-- The building loop: k items are encoded. -/
def Bld (N : Nat) (w wr : World) (its : List (List Int)) (T k M : Nat) : Prop :=
  M = 2 + (enk its k).length ∧ wr.ownsRow N 5 1 (.slice (some ⟨N + 1, 0, none⟩) M (2 + T)) M (((0 : Int) :: 0 :: enk its k).map (Value.int .u8)) ∧
  (∀ j, j < its.length → ∃ a m c, wr.cell? ⟨N, j, none⟩ = some (.slice a m c)) ∧ (∀ j, wr.frozen? ⟨N, j, none⟩ = false) ∧ Eff wr N k (effs its) ∧ Below N w wr ∧ N + 1 < wr.heap.size

theorem grownBy_setCell (w : World) (a : Addr) (v : Value) : w.grownBy (w.setCell a v) (some a.block) :=
  ⟨rfl, rfl, rfl, by simp, fun k _ hk => Below.heap_setCell w a v k (fun e => hk (by rw [e]))⟩

theorem Two.grown {N : Nat} {w w' : World} {row : Option Nat} (h : w.grownBy w' row) (hr : row = none ∨ row = some N ∨ row = some (N + 1)) : Two N w w' :=
  ⟨h.size, fun k hk h1 h2 => h.block k hk (by rcases hr with rfl | rfl | rfl <;> simp <;> omega)⟩
theorem Two.trans {N : Nat} {a b c : World} (h : Two N a b) (k : Two N b c) : Two N a c :=
  ⟨Nat.le_trans h.1 k.1, fun i hi h1 h2 => (k.2 i (Nat.lt_of_lt_of_le hi h.1) h1 h2).trans (h.2 i hi h1 h2)⟩

theorem own_mid {wr : World} {N C M : Nat} {xs : List Value} (h : wr.ownsRow N 5 1 (.slice (some ⟨N + 1, 0, none⟩) M C) M xs) (i : Nat) (v : Value) : (wr.setCell ⟨N, i, none⟩ v).ownsRow N 5 1 (.slice (some ⟨N + 1, 0, none⟩) M C) M xs :=
  h.kept (grownBy_setCell wr ⟨N, i, none⟩ v) (.inr (by simp [Value.ownBlock]))

theorem two_cells (w : World) (N : Nat) (a b : Value) (t : TypeId) (hN : N = w.heap.size) : ∀ j u, [a, b][j]? = some u → (w.alloc (.cells #[a, b] t)).cell? ((⟨N, 0, none⟩ : Addr).add j) = some u := by
  subst hN
  intro j u hj
  match j, hj with
  | 0, hj => simp at hj; subst hj; simp [Addr.add]
  | 1, hj => simp at hj; subst hj; simp [Addr.add]
  | j + 2, hj => simp at hj

theorem bld_alloc {N : Nat} {w wr : World} {its : List (List Int)} {T k M : Nat} (h : Bld N w wr its T k M) (o : Obj) : Bld N w (wr.alloc o) its T k M := by
  obtain ⟨h1, h2, h3, h4, h5, h6, h7⟩ := h
  have hb : Below wr.heap.size wr (wr.alloc o) := (Below.refl _ _).alloc (Nat.le_refl _) o
  have cN : ∀ j, (wr.alloc o).cell? ⟨N, j, none⟩ = wr.cell? ⟨N, j, none⟩ := fun j => hb.cell (p := ⟨N, j, none⟩) (by show N < _; omega)
  refine ⟨h1, h2.alloc o, fun j hj => by rw [cN]; exact h3 j hj, fun j => by rw [hb.frozen (p := ⟨N, j, none⟩) (by show N < _; omega)]; exact h4 j, fun j hj => ?_, h6.alloc (by omega) o, by simp; omega⟩
  obtain ⟨g, o', c, e, hi⟩ := h5 j hj
  exact ⟨g, o', c, (cN j).trans e, hi.two (Two.grown (World.grownBy_alloc wr o none) (.inl rfl))⟩

theorem bld_step {N : Nat} {w wc : World} {its : List (List Int)} {T i M : Nat} (h : Bld N w wc its T i M) (hi : i < its.length) {g o c : Nat} {y : List Int} (hy : eff1 i (its.getD i []) = y) (hit : Itm wc N g o c y) (ob : Obj) {w1 w2 : World}
    (hg1 : ((wc.setCell ⟨N, i, none⟩ (.slice (some ⟨g, o, none⟩) y.length c)).alloc ob).grownBy w1 (some (N + 1))) (hg2 : w1.grownBy w2 (some (N + 1)))
    (hown : w2.ownsRow N 5 1 (.slice (some ⟨N + 1, 0, none⟩) (M + 2 + y.length) (2 + T)) (M + 2 + y.length) ((((0 : Int) :: 0 :: enk its i).map (Value.int .u8) ++ [.int .u8 ((y.length : Int) / 256), .int .u8 ((y.length : Int) % 256)]) ++ y.map (Value.int .u8))) :
    Bld N w w2 its T (i + 1) (M + 2 + y.length) := by
  obtain ⟨h1, h2, h3, h4, h5, h6, h7⟩ := h
  have ga := World.grownBy_alloc (wc.setCell ⟨N, i, none⟩ (.slice (some ⟨g, o, none⟩) y.length c)) ob none
  have t : Two N wc w2 := (((Two.grown (grownBy_setCell wc ⟨N, i, none⟩ (.slice (some ⟨g, o, none⟩) y.length c)) (.inr (.inl rfl))).trans (Two.grown ga (.inl rfl))).trans (Two.grown hg1 (.inr (.inr rfl)))).trans (Two.grown hg2 (.inr (.inr rfl)))
  have sz : (wc.setCell ⟨N, i, none⟩ (.slice (some ⟨g, o, none⟩) y.length c)).heap.size = wc.heap.size := by simp
  have bN : w2.heap[N]? = (wc.setCell ⟨N, i, none⟩ (.slice (some ⟨g, o, none⟩) y.length c)).heap[N]? := by
    rw [hg2.block N (by have := hg1.size; have := ga.size; omega) (by simp), hg1.block N (by have := ga.size; omega) (by simp), ga.block N (by omega) (by simp)]
  have cN : ∀ j, w2.cell? ⟨N, j, none⟩ = (wc.setCell ⟨N, i, none⟩ (.slice (some ⟨g, o, none⟩) y.length c)).cell? ⟨N, j, none⟩ := fun j => World.cell?_of_block (a := ⟨N, j, none⟩) bN
  obtain ⟨a0, m0, c0, e0⟩ := h3 i hi
  have cI : w2.cell? ⟨N, i, none⟩ = some (.slice (some ⟨g, o, none⟩) y.length c) := (cN i).trans (World.cell?_setCell_same _ _ _ e0)
  have cO : ∀ j, j ≠ i → w2.cell? ⟨N, j, none⟩ = wc.cell? ⟨N, j, none⟩ := fun j hj => (cN j).trans (World.cell?_setCell_other _ _ _ _ (fun e => hj (congrArg Addr.off e).symm))
  refine ⟨?_, ?_, fun j hj => ?_, fun j => ?_, fun j hj => ?_, ?_, by have := t.1; omega⟩
  · rw [enk_len_succ its i hi, hy]; omega
  · rw [enk_succ its i hi, hy]
    have e : ((0 : Int) :: 0 :: (enk its i ++ enc1 y)).map (Value.int .u8) = ((((0 : Int) :: 0 :: enk its i).map (Value.int .u8) ++ [.int .u8 ((y.length : Int) / 256), .int .u8 ((y.length : Int) % 256)]) ++ y.map (Value.int .u8)) := by
      simp [enc1]
    rw [e]; exact hown
  · by_cases e : j = i
    · subst e; exact ⟨_, _, _, cI⟩
    · rw [cO j e]; exact h3 j hj
  · rw [World.frozen?_of_block (w := wc.setCell ⟨N, i, none⟩ (.slice (some ⟨g, o, none⟩) y.length c)) (a := ⟨N, j, none⟩) bN, World.frozen?_setCell]; exact h4 j
  · by_cases e : j = i
    · subst e
      rw [effs_getD its j hi, hy]
      exact ⟨g, o, c, cI, hit.two t⟩
    · obtain ⟨g', o', c', e', hi'⟩ := h5 j (by omega)
      exact ⟨g', o', c', (cO j e).trans e', hi'.two t⟩
  · have b1 := (h6.setCell (p := ⟨N, i, none⟩) (Nat.le_refl _) (.slice (some ⟨g, o, none⟩) y.length c)).alloc (by omega) ob
    have b2 := b1.grown hg1 (by have := ga.size; omega) (by intro k e; cases e; omega)
    exact b2.grown hg2 (by have := hg1.size; have := ga.size; omega) (by intro k e; cases e; omega)


theorem item_new {wr : World} {N i : Nat} {y : List Int} (hy : eff1 i [] = y) (hN : N + 1 < wr.heap.size) : y.length = 1 ∧ Itm (wr.alloc (.cells #[.int .u8 ((i : Int) % 256)] 5)) N wr.heap.size 0 1 y := by
  subst hy
  have e : eff1 i [] = [(i : Int) % 256] := rfl
  rw [e]
  refine ⟨rfl, by omega, by omega, by simp, by simp, by unfold maxLen; omega, fun j hj => ?_⟩
  obtain rfl : j = 0 := by simp at hj; exact hj
  simp

theorem item_old {w wr : World} {i c : Nat} {a : Option Addr} {x y : List Int} (hy : eff1 i x = y) (hx : x ≠ []) (hB : Bts w (.slice a x.length c) x) (hb : Below w.heap.size w wr) : x = y ∧ ∃ g o, a = some ⟨g, o, none⟩ ∧ Itm wr w.heap.size g o c y := by
  obtain rfl : x = y := by rw [← hy]; exact (if_neg hx).symm
  refine ⟨rfl, ?_⟩
  obtain ⟨a', c', e, h1, h2, h3⟩ := hB
  obtain ⟨g, o, ha, hc⟩ := h3 hx
  simp only [Value.slice.injEq, true_and] at e
  obtain ⟨rfl, rfl⟩ := e
  have hg : g < w.heap.size := World.block_lt_of_cell? w _ (hc 0 (List.length_pos_iff.2 hx))
  exact ⟨g, o, ha, by omega, by omega, Nat.lt_of_lt_of_le hg hb.size, h1, h2, fun j hj => (hb.cell (p := ⟨g, o + j, none⟩) hg).trans (hc j hj)⟩

theorem news_cells {w : World} {N g o c : Nat} {y : List Int} (h : Itm w N g o c y) : ∀ j u, (y.map (Value.int .u8))[j]? = some u → w.cell? ((⟨g, o, none⟩ : Addr).add j) = some u := by
  intro j u hj
  have hl : j < y.length := by have := (List.getElem?_eq_some_iff.1 hj).1; simpa using this
  rw [Go.WideShapes.add_plain, h.2.2.2.2.2 j hl]
  simp [List.getElem?_eq_getElem hl] at hj ⊢
  exact hj

theorem news_one (y : List Int) : ∀ u ∈ y.map (Value.int .u8), u.oneCell' = true := by
  intro u hu
  simp at hu
  obtain ⟨z, _, rfl⟩ := hu
  rfl

theorem Bts.drewN {w : World} {v : Value} {bs : List Int} (h : Bts w v bs) (n : Nat) : Bts (w.drewN n) v bs := h.kept fun _ _ hp => hp
theorem below_draws {B : Nat} {a w : World} (h : Below B a w) (n : Nat) : Below B a (w.drewN n) := h.trans ⟨rfl, rfl, rfl, Nat.le_refl _, fun _ _ => rfl⟩

theorem two_one (a b : Int) : ∀ u ∈ [Value.int .u8 a, Value.int .u8 b], u.oneCell' = true := by
  intro u hu
  simp at hu
  rcases hu with rfl | rfl <;> rfl

theorem eff_below {w w' : World} {N k : Nat} {xs : List (List Int)} (h : Eff w N k xs) (hN : N < w.heap.size) (hb : Below w.heap.size w w') : Eff w' N k xs := by
  intro j hj
  obtain ⟨g, o, c, e, hI⟩ := h j hj
  exact ⟨g, o, c, (hb.cell (p := ⟨N, j, none⟩) hN).trans e, hI.two ⟨hb.size, fun i hi _ _ => hb.block i hi⟩⟩

theorem byt_encs : ∀ {xs : List (List Int)}, (∀ x ∈ xs, Byt x ∧ x.length ≤ 65535) → Byt (encs xs)
  | [], _ => by intro y hy; simp [encs] at hy
  | x :: xs, h => by
    have e : encs (x :: xs) = enc1 x ++ encs xs := by simp [encs]
    rw [e]
    have hx := h x (List.mem_cons_self ..)
    have ih := byt_encs (fun y hy => h y (List.mem_cons_of_mem _ hy))
    intro y hy
    rcases List.mem_append.1 hy with hy | hy
    · exact byt_enc1 hx.1 hx.2 y hy
    · exact ih y hy

theorem mem_encs_len : ∀ {xs : List (List Int)} {x : List Int}, x ∈ xs → x.length ≤ (encs xs).length
  | y :: xs, x, h => by
    have e : encs (y :: xs) = enc1 y ++ encs xs := by simp [encs]
    rw [e, List.length_append, enc1_len]
    rcases List.mem_cons.1 h with rfl | h
    · omega
    · have := mem_encs_len h; omega

theorem byt_effs {its : List (List Int)} (h : ∀ j, j < its.length → Byt (its.getD j [])) : ∀ x ∈ effs its, Byt x := by
  intro x hx
  simp only [effs, List.mem_mapIdx] at hx
  obtain ⟨i, hi, rfl⟩ := hx
  have := h i hi
  rw [List.getD_eq_getElem?_getD, List.getElem?_eq_getElem hi] at this
  exact byt_eff1 i this

/-- Behind the building loop: the two bytes of the length are stored; what the parser is handed. -/
theorem bld_done {N : Nat} {w wr : World} {its : List (List Int)} {T k M : Nat} (h : Bld N w wr its T k M) (hk : its.length = k) (hT : (enk its k).length = T) (hT' : T ≤ 65535) (hby : ∀ j, j < its.length → Byt (its.getD j [])) :
    M = 2 + T ∧ (∃ u, wr.cell? ⟨N + 1, 0, none⟩ = some (.int .u8 u)) ∧ (∃ u, wr.cell? ⟨N + 1, 1, none⟩ = some (.int .u8 u)) ∧ wr.frozen? ⟨N + 1, 0, none⟩ = false ∧ wr.frozen? ⟨N + 1, 1, none⟩ = false ∧
    ∀ w3, w3 = (wr.setCell ⟨N + 1, 0, none⟩ (.int .u8 ((T : Int) / 256))).setCell ⟨N + 1, 1, none⟩ (.int .u8 ((T : Int) % 256)) →
      Bts w3 (.slice (some ⟨N + 1, 0, none⟩) (2 + T) (2 + T)) (((T : Int) / 256) :: ((T : Int) % 256) :: encs (effs its)) ∧ Byt (((T : Int) / 256) :: ((T : Int) % 256) :: encs (effs its)) ∧ Eff w3 N k (effs its) ∧ Below N w w3 ∧ N + 1 < w3.heap.size := by
  obtain ⟨h1, h2, h3, h4, h5, h6, h7⟩ := h
  subst hk
  rw [enk_all] at h1 h2 hT
  obtain rfl : M = 2 + T := by omega
  have c0 := h2.cellAt 0 (by omega)
  have c1 := h2.cellAt 1 (by omega)
  refine ⟨rfl, ⟨0, by rw [c0]; rfl⟩, ⟨0, by rw [c1]; rfl⟩, h2.frozenAt 0, h2.frozenAt 1, ?_⟩
  intro w3 hw3
  have s2 := ((h2.stored 0 (.int .u8 ((T : Int) / 256))).1.stored 1 (.int .u8 ((T : Int) % 256))).1
  rw [← hw3] at s2
  have tw : Two N wr w3 := by
    rw [hw3]
    exact (Two.grown (grownBy_setCell wr ⟨N + 1, 0, none⟩ _) (.inr (.inr rfl))).trans (Two.grown (grownBy_setCell _ ⟨N + 1, 1, none⟩ _) (.inr (.inr rfl)))
  have hlen : (((T : Int) / 256) :: ((T : Int) % 256) :: encs (effs its)).length = 2 + T := by simp; omega
  refine ⟨⟨_, _, by rw [hlen], by rw [hlen]; exact Nat.le_refl _, by unfold maxLen; omega, fun _ => ⟨N + 1, 0, rfl, fun j hj => ?_⟩⟩, ?_, ?_, ?_, by have := tw.1; omega⟩
  · rw [hlen] at hj
    rw [Nat.zero_add, s2.cellAt j (by omega)]
    match j, hj with
    | 0, _ => simp
    | 1, _ => simp
    | j + 2, hj =>
      have hl : j < (encs (effs its)).length := by omega
      simp [List.getElem?_eq_getElem hl]
  · intro y hy
    simp only [List.mem_cons] at hy
    rcases hy with rfl | rfl | hy
    · omega
    · omega
    · exact byt_encs (fun x hx => ⟨byt_effs hby x hx, by have := mem_encs_len hx; omega⟩) y hy
  · intro j hj
    obtain ⟨g, o, c, e, hI⟩ := h5 j hj
    refine ⟨g, o, c, ?_, hI.two tw⟩
    rw [hw3, World.cell?_setCell_other _ _ _ _ (fun e => by have := congrArg Addr.block e; simp at this), World.cell?_setCell_other _ _ _ _ (fun e => by have := congrArg Addr.block e; simp at this)]
    exact e
  · rw [hw3]
    exact (h6.setCell (p := ⟨N + 1, 0, none⟩) (by show N ≤ N + 1; omega) _).setCell (p := ⟨N + 1, 1, none⟩) (by show N ≤ N + 1; omega) _

theorem bld_start {w : World} {its : List (List Int)} {T k : Nat} (hk : its.length = k) (hT : T ≤ 65535) :
    Bld w.heap.size w ((w.alloc (.cells (madeCells #[.slice none 0 0] k) 22)).alloc (.cells (madeCells #[.int .u8 0] (2 + T)) 5)) its T 0 2 := by
  subst hk
  have hz : (w.alloc (.cells (madeCells #[.slice none 0 0] its.length) 22)).heap.size = w.heap.size + 1 := by simp
  have hb2 : Below (w.heap.size + 1) (w.alloc (.cells (madeCells #[.slice none 0 0] its.length) 22)) ((w.alloc (.cells (madeCells #[.slice none 0 0] its.length) 22)).alloc (.cells (madeCells #[.int .u8 0] (2 + T)) 5)) := (Below.refl _ _).alloc (by omega) _
  refine ⟨by rw [enk_zero]; rfl, ?_, fun j hj => ⟨none, 0, 0, ?_⟩, fun j => ?_, fun j hj => absurd hj (by omega), ((Below.refl _ _).alloc (Nat.le_refl _) _).alloc (by omega) _, by simp⟩
  · rw [enk_zero]
    refine ⟨by simp, .inr ⟨w.heap.size + 1, 2 + T, madeCells #[.int .u8 0] (2 + T), rfl, by omega, ?_, by omega, by unfold maxLen; omega, by rw [size_madeCells]; omega, ?_⟩⟩
    · have := heap_alloc_new (w.alloc (.cells (madeCells #[.slice none 0 0] its.length) 22)) (.cells (madeCells #[.int .u8 0] (2 + T)) 5)
      rw [hz] at this
      exact this
    · rw [toList_madeCells_one]
      simp [show 2 + T = T + 1 + 1 by omega, List.replicate_succ]
  · rw [hb2.cell (p := ⟨w.heap.size, j, none⟩) (by show w.heap.size < _; omega)]
    have e : ((madeCells #[.slice none 0 0] its.length).toList)[j]? = some (Value.slice none 0 0) := by rw [toList_madeCells_one]; simp [hj]
    simpa using e
  · rw [hb2.frozen (p := ⟨w.heap.size, j, none⟩) (by show w.heap.size < _; omega)]
    simp

end Go.Proofs.YbulkawwsFmt
