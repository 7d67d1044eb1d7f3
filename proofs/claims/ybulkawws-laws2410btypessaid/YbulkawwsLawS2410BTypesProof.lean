/-
  THE PROOF OF 'Rows.LawS2410BTypesSaid': messageTypes' contract, the law's walk, and the frame (by the kit's skeleton tool).
-/
import Derived.Test.YbulkawwsRows
import Derived.WalkKit
import Derived.ProofKit
import Derived.OpenShut
import Derived.ShutString
import Derived.ChangeOld
import Derived.Below
import Derived.WalkSpells
import Derived.WalkLawsBesides
import Derived.BigQuiet
import Derived.Deep.QuietTactic
namespace Go.Proofs.Ybulkawws.lawS2410BTypes
open Go.ChangeShapes Go.WideShapes Go.ChangeAt Go.RowKit
open Go.ChangeMaps (open_string shut_string)
set_option linter.unusedVariables false

theorem own : ownKnob Yba.prog.godebug = none := by kernel_rfl
theorem laidOut : laidOutB Yba.prog = true := by kernel_rfl

/-- WHAT THE WALK IS TOLD OF A SLICE OF INTEGERS THAT CAME IN: it is nil; or it leads to a row of 'cap' cells, the numbers 'zs' (the first 'len' are its elements, the rest its spare room), each fitting its kind. -/
def IsRow (k : IntKind) (w : World) (a : Option Addr) (len cap : Nat) (zs : List Int) : Prop :=
  (a = none ∧ len = 0 ∧ cap = 0 ∧ zs = []) ∨
  ∃ x, a = some x ∧ len ≤ cap ∧ cap ≤ maxLen ∧ zs.length = cap ∧ (∀ i, i < zs.length → w.cell? (x.add i) = some (.int k (zs.getD i 0))) ∧ ∀ n ∈ zs, (Lit.int k n).wf = true

theorem info27 : (Yba.prog.info? 27).map (fun i => (i.zero, i.size, i.bytes)) = some (some (.agg #[.int .u8 0, .slice none 0 0, .slice none 0 0]), 3, 56) := by kernel_rfl
theorem info24 : (Yba.prog.info? 24).map (fun i => (i.zero, i.size, i.bytes)) = some (some (.int .u8 0), 1, 1) := by kernel_rfl

/-- What a round of messageTypes does to the row that the call made. -/
theorem mt_step (B n k : Nat) (w wr : World) (xs : List Value) (F : Nat → Int) (o : Obj) (hB : B = w.heap.size) (hkn : k < n)
    (hxs : wr.ownsRow B 24 1 (.slice (some ⟨B, 0, none⟩) n n) n xs) (hF : ∀ j, j < k → xs[j]? = some (.int .u8 (F j))) (hbel : Below B w wr) (hlt : B < wr.heap.size) :
    (∃ ys, ((wr.setCell ⟨B, k, none⟩ (.int .u8 (F k))).alloc o).ownsRow B 24 1 (.slice (some ⟨B, 0, none⟩) n n) n ys ∧ ∀ j, j < k + 1 → ys[j]? = some (.int .u8 (F j))) ∧
    Below B w ((wr.setCell ⟨B, k, none⟩ (.int .u8 (F k))).alloc o) ∧ B < ((wr.setCell ⟨B, k, none⟩ (.int .u8 (F k))).alloc o).heap.size := by
  have hlen : xs.length = n := by have := hxs.1; simpa using this
  refine ⟨⟨xs.set k (.int .u8 (F k)), (hxs.stored k _).1.alloc o, ?_⟩, (hbel.setCell (by simp) _).alloc (by simp; omega) o, by simp; omega⟩
  intro j hj
  by_cases e : j = k
  · subst e; simp [hlen, hkn]
  · rw [List.getElem?_set_ne (by omega)]; exact hF j (by omega)

theorem mt_any (g n : Nat) (w : World) (F : Nat → Int) (hn : n ≤ 4096)
    (hc : ∀ j, j < n → ∃ x l c y l' c', w.cell? ⟨g, j * 3, none⟩ = some (.int .u8 (F j)) ∧ w.cell? ⟨g, j * 3 + 1, none⟩ = some (.slice x l c) ∧ w.cell? ⟨g, j * 3 + 2, none⟩ = some (.slice y l' c')) :
    Calls Yba.prog 4 #[.slice (some ⟨g, 0, none⟩) n n] w fun e w' => e = .returned (.slice (some ⟨w.heap.size, 0, none⟩) n n) ∧
      (∀ j, j < n → w'.cell? ⟨w.heap.size, j, none⟩ = some (.int .u8 (F j))) ∧ Below w.heap.size w w' := by
  obtain ⟨i, hi, hz, hs, hb⟩ := info_parts info24
  go_enter Yba.func4, Yba.ntmps4
  go_wp2_with (at_make; refine wpList_make_full _ rfl _ _ _ rfl w.heap.size 24 i _ 1 Yba.underlying28 hi hz hs _ _ _ _ n rfl rfl rfl rfl (by rw [hb]; omega) (by unfold maxLen; omega) (Nat.le_refl _) ?_; intro w1 hown hgr)
  have hb1 : Below w.heap.size w w1 := (Below.refl _ _).grown hgr (Nat.le_refl _) (by intro k h; cases h)
  have hz1 : w.heap.size < w1.heap.size := (hown.lt w.heap.size rfl).2
  go_loopw [11] (fun i wr => ∃ k : Nat, k ≤ n ∧ i = .int .i64 k ∧ (∃ xs, wr.ownsRow w.heap.size 24 1 (.slice (some ⟨w.heap.size, 0, none⟩) n n) n xs ∧ ∀ j, j < k → xs[j]? = some (.int .u8 (F j))) ∧ Below w.heap.size w wr ∧ w.heap.size < wr.heap.size) (fun i _ => n - (intOf i).toNat)
  case atStart => exact ⟨0, Nat.zero_le _, rfl, ⟨_, hown, by intro j hj; omega⟩, hb1, hz1⟩
  case round =>
    obtain ⟨k, hk, rfl, ⟨xs, hxs, hF⟩, hbel, hlt⟩ := hrel
    by_cases hkn : k < n
    · obtain ⟨x, l, c, y, l', c', e0, e1, e2⟩ := hc k hkn
      have hg : g < w.heap.size := World.block_lt_of_cell? w _ e0
      have g0 : wr.cell? ⟨g, k * 3, none⟩ = some (.int .u8 (F k)) := (hbel.cell (p := ⟨g, k * 3, none⟩) hg).trans e0
      have g1 : wr.cell? ⟨g, k * 3 + 1, none⟩ = some (.slice x l c) := (hbel.cell (p := ⟨g, k * 3 + 1, none⟩) hg).trans e1
      have g2 : wr.cell? ⟨g, k * 3 + 2, none⟩ = some (.slice y l' c') := (hbel.cell (p := ⟨g, k * 3 + 2, none⟩) hg).trans e2
      have hlen : xs.length = n := by have := hxs.1; simpa using this
      have s0 : wr.cell? ⟨w.heap.size, k, none⟩ = some xs[k] := by rw [hxs.cellAt k (by omega)]; simp [hlen, hkn]
      have s1 := hxs.frozenAt k
      have HF : Hid (∀ j, j < k → xs[j]? = some (.int .u8 (F j))) := hF
      clear e0 e1 e2 hc hown hgr hb1 hF
      go_wp2
      go_roundw
      case rel =>
        obtain ⟨r1, r2, r3⟩ := mt_step w.heap.size n k w wr xs F (.cells #[.int .u8 (F k), .slice x l c, .slice y l' c'] 27) rfl hkn hxs HF.out hbel hlt
        exact ⟨k + 1, by omega, by go_num, r1, r2, r3⟩
      case measure => simp [intOf]; omega
    · go_wp2
      go_ret
      have : k = n := by omega
      subst this
      refine ⟨rfl, ?_, hbel⟩
      intro j hj
      rw [hxs.cellAt j (by omega)]; exact hF j hj

theorem made3 (a b c : Value) (n j : Nat) (h : j < n) : (madeCells #[a, b, c] n).toList[j]? = some ((#[a, b, c] : Array Value)[j % 3]?.getD default) := by
  simp [madeCells, h]

def Row1 (B n k : Nat) (F : Nat → Int) (wr : World) : Prop :=
  ∃ xs, wr.ownsRow B 27 3 (.slice (some ⟨B, 0, none⟩) n n) n xs ∧ (∀ j, j < k → xs[j * 3]? = some (.int .u8 (F j))) ∧ (∀ j, j < n → ∃ x l c, xs[j * 3 + 1]? = some (.slice x l c)) ∧ (∀ j, j < n → ∃ x l c, xs[j * 3 + 2]? = some (.slice x l c))

theorem row1_start (B n : Nat) (F : Nat → Int) (wr : World) (h : wr.ownsRow B 27 3 (.slice (some ⟨B, 0, none⟩) n n) n (madeCells #[.int .u8 0, .slice none 0 0, .slice none 0 0] (n * 3)).toList) : Row1 B n 0 F wr := by
  refine ⟨_, h, by intro j hj; omega, ?_, ?_⟩
  · intro j hj
    refine ⟨none, 0, 0, ?_⟩
    rw [made3 _ _ _ _ _ (by omega), show (j * 3 + 1) % 3 = 1 by omega]; rfl
  · intro j hj
    refine ⟨none, 0, 0, ?_⟩
    rw [made3 _ _ _ _ _ (by omega), show (j * 3 + 2) % 3 = 2 by omega]; rfl

theorem row1_step (B n k N : Nat) (F : Nat → Int) (w wr : World) (o : Obj) (hB : B = w.heap.size) (hkn : k < n) (h : Row1 B n k F wr) (hbel : Below B w wr) (hlt : B < wr.heap.size) :
    Row1 B n (k + 1) F (((wr.setCell ⟨B, k * 3, none⟩ (.int .u8 (F k))).setCell ⟨B, k * 3 + 2, none⟩ (.slice (some ⟨N, 0, none⟩) 1 1)).alloc o) ∧
    Below B w (((wr.setCell ⟨B, k * 3, none⟩ (.int .u8 (F k))).setCell ⟨B, k * 3 + 2, none⟩ (.slice (some ⟨N, 0, none⟩) 1 1)).alloc o) ∧
    B < (((wr.setCell ⟨B, k * 3, none⟩ (.int .u8 (F k))).setCell ⟨B, k * 3 + 2, none⟩ (.slice (some ⟨N, 0, none⟩) 1 1)).alloc o).heap.size := by
  obtain ⟨xs, hxs, r0, r1, r2⟩ := h
  have hlen : xs.length = n * 3 := by have := hxs.1; simpa using this
  refine ⟨⟨_, ((hxs.stored (k * 3) _).1.stored (k * 3 + 2) _).1.alloc o, ?_, ?_, ?_⟩, ((hbel.setCell (by simp) _).setCell (by simp) _).alloc (by simp; omega) o, by simp; omega⟩
  · intro j hj
    rw [List.getElem?_set_ne (by omega)]
    by_cases e : j = k
    · subst e; rw [List.getElem?_set_self (by omega)]
    · rw [List.getElem?_set_ne (by omega)]; exact r0 j (by omega)
  · intro j hj
    rw [List.getElem?_set_ne (by omega), List.getElem?_set_ne (by omega)]; exact r1 j hj
  · intro j hj
    by_cases e : j = k
    · subst e; exact ⟨_, _, _, List.getElem?_set_self (by simp; omega)⟩
    · rw [List.getElem?_set_ne (by omega), List.getElem?_set_ne (by omega)]; exact r2 j hj

theorem row1_cells (B n : Nat) (F : Nat → Int) (wr : World) (h : Row1 B n n F wr) :
    ∀ j, j < n → ∃ x l c y l' c', wr.cell? ⟨B, j * 3, none⟩ = some (.int .u8 (F j)) ∧ wr.cell? ⟨B, j * 3 + 1, none⟩ = some (.slice x l c) ∧ wr.cell? ⟨B, j * 3 + 2, none⟩ = some (.slice y l' c') := by
  obtain ⟨xs, hxs, r0, r1, r2⟩ := h
  intro j hj
  obtain ⟨x, l, c, e1⟩ := r1 j hj
  obtain ⟨y, l', c', e2⟩ := r2 j hj
  exact ⟨x, l, c, y, l', c', (hxs.cellAt _ (by omega)).trans (r0 j hj), (hxs.cellAt _ (by omega)).trans e1, (hxs.cellAt _ (by omega)).trans e2⟩

theorem types_core (a0 : Option Addr) (n cap : Nat) (F : Nat → Int) (w : World) (hn : n ≤ 4096)
    (hc : ∀ j, j < n → ∃ b off, a0 = some ⟨b, off, none⟩ ∧ w.cell? ⟨b, off + j, none⟩ = some (.int .u8 (F j))) :
    Calls Yba.prog 3 #[.slice a0 n cap] w fun e w' => e = .returned (.bool true) ∧ Below w.heap.size w w' := by
  obtain ⟨i, hi, hz, hs, hb⟩ := info_parts info27
  have h9 : decide ((4096 : Int) < n) = false := by simp; omega
  have hnil := fun (w : World) (a : Option Addr) (n c : Nat) => Lib.run_eql_slice_nil (P := Yba.prog) w 28 24 a n c 0 0 Yba.underlying28
  go_enter Yba.func3, Yba.ntmps3
  go_wp2_with (at_make; refine wpList_make_full _ rfl _ _ _ rfl w.heap.size 27 i _ 3 Yba.underlying23 hi hz hs _ _ _ _ n rfl rfl rfl rfl (by rw [hb]; omega) (by unfold maxLen; omega) (Nat.le_refl _) ?_; intro w1 hown hgr)
  have hb1 : Below w.heap.size w w1 := (Below.refl _ _).grown hgr (Nat.le_refl _) (by intro k h; cases h)
  have hz1 : w.heap.size < w1.heap.size := (hown.lt w.heap.size rfl).2
  go_loopw [15] (fun i wr => ∃ k : Nat, k ≤ n ∧ i = .int .i64 k ∧ Row1 w.heap.size n k F wr ∧ Below w.heap.size w wr ∧ w.heap.size < wr.heap.size) (fun i _ => n - (intOf i).toNat)
  case atStart => exact ⟨0, Nat.zero_le _, rfl, row1_start _ _ _ _ hown, hb1, hz1⟩
  case round =>
    clear hown hgr hb1
    obtain ⟨k, hk, rfl, hrow, hbel, hlt⟩ := hrel
    by_cases hkn : k < n
    · obtain ⟨b, off, ha, e0⟩ := hc k hkn
      subst ha
      have hg : b < w.heap.size := World.block_lt_of_cell? w _ e0
      have g0 : wr.cell? ⟨b, off + k, none⟩ = some (.int .u8 (F k)) := (hbel.cell (p := ⟨b, off + k, none⟩) hg).trans e0
      have hne : b ≠ w.heap.size := by omega
      have hrow' := hrow
      obtain ⟨xs, hxs, r0, r1, r2⟩ := hrow
      have hlen : xs.length = n * 3 := by have := hxs.1; simpa using this
      have s0 : wr.cell? ⟨w.heap.size, k * 3, none⟩ = some xs[k * 3] := by rw [hxs.cellAt (k * 3) (by omega)]; simp
      have s1 := hxs.frozenAt (k * 3)
      obtain ⟨x2, l2, c2, s2⟩ := r2 k hkn
      have s2' : wr.cell? ⟨w.heap.size, k * 3 + 2, none⟩ = some (.slice x2 l2 c2) := by rw [hxs.cellAt (k * 3 + 2) (by omega)]; exact s2
      have s3 := hxs.frozenAt (k * 3 + 2)
      clear e0 hc s2 r0 r1 r2
      go_wp2
      go_roundw
      case rel =>
        obtain ⟨r1, r2, r3⟩ := row1_step w.heap.size n k wr.heap.size F w wr (.cells #[.int .u8 (F k)] 5) rfl hkn hrow' hbel hlt
        exact ⟨k + 1, by omega, by go_num, r1, r2, r3⟩
      case measure => simp [intOf]; omega
    · have hkk : k = n := by omega
      subst hkk
      have hcs := row1_cells _ _ _ _ hrow
      go_wp2_with (go_at_call 4; refine (mt_any w.heap.size k wr F hn hcs).mono ?_; rintro e w2 ⟨rfl, hgot, hb2⟩)
      have hb3 : Below w.heap.size w w2 := hbel.trans (hb2.mono (by omega))
      go_loopw [49] (fun i wz => ∃ m : Nat, m ≤ k ∧ i = .int .i64 m ∧ ∃ q, wz = w2.drewN q) (fun i _ => k - (intOf i).toNat)
      case atStart => exact ⟨0, Nat.zero_le _, rfl, 0, rfl⟩
      case round =>
        obtain ⟨m, hm, rfl, q, rfl⟩ := hrel
        by_cases hmk : m < k
        · obtain ⟨b, off, ha, e0⟩ := hc m hmk
          subst ha
          obtain ⟨x, l, c, y, l', c', d0, _, _⟩ := hcs m hmk
          have hg : b < w.heap.size := World.block_lt_of_cell? w _ e0
          have g0 : w2.cell? ⟨b, off + m, none⟩ = some (.int .u8 (F m)) := (hb3.cell (p := ⟨b, off + m, none⟩) hg).trans e0
          have g1 : w2.cell? ⟨w.heap.size, m * 3, none⟩ = some (.int .u8 (F m)) := (hb2.cell (p := ⟨w.heap.size, m * 3, none⟩) hlt).trans d0
          have g2 := hgot m hmk
          have i0 : (0 : Int) ≤ (m : Int) := by omega
          have i1 : (m : Int) < (k : Int) := by omega
          clear e0 d0 hc hcs hgot
          go_wp2
          go_quiet (fail)
          go_wp2
          go_quiet (fail)
          go_wp2
          go_roundw
          case rel => exact ⟨m + 1, by omega, by go_num, _, rfl⟩
          case measure => simp [intOf]; omega
        · go_wp2
          go_ret
          exact ⟨rfl, below_drewN hb3 _⟩

theorem types_many (a0 : Option Addr) (n cap : Nat) (w : World) (hn : ¬ n ≤ 4096) (h63 : n ≤ maxLen) :
    Calls Yba.prog 3 #[.slice a0 n cap] w fun e w' => e = .returned (.bool true) ∧ Below w.heap.size w w' := by
  unfold maxLen at h63
  have h9 : decide ((4096 : Int) < n) = true := by simp; omega
  go_enter Yba.func3, Yba.ntmps3
  go_wp2
  go_ret
  exact ⟨rfl, Below.refl _ _⟩

theorem walk (a0 : Option Addr) (len0 cap0 : Nat) (z0 : List Int) (w : World) (w0 : IsRow .u8 w a0 len0 cap0 z0) :
    Calls Yba.prog 3 #[.slice a0 len0 cap0] w fun e w' => e = .returned (.bool true) ∧ Below w.heap.size w w' := by
  rcases w0 with ⟨rfl, rfl, rfl, rfl⟩ | ⟨x, rfl, hl, hm, hz, hcell, hwz⟩
  · exact types_core none 0 0 (fun _ => 0) w (by omega) (by intro j hj; omega)
  · by_cases hn : len0 ≤ 4096
    · refine types_core (some x) len0 cap0 (fun j => z0.getD j 0) w hn ?_
      intro j hj
      obtain ⟨b, off, rfl, hc⟩ := ints_at hcell (show 0 < z0.length by omega)
      exact ⟨b, off, rfl, hc j (by omega)⟩
    · exact types_many (some x) len0 cap0 w hn (Nat.le_trans hl hm)

/-! ### THE ROW's STEP: WRITTEN OUT: LEAVE IT -/
set_option maxRecDepth 100000 in
theorem lifted (os : Os) (started : os.Started) (H : Type) (enc : TypeId × Value → H) :
    ReturnsInHanded {} Yba.checked os 3 .any (Rows.lawS2410BTypesSpec.pre6 enc Yba.prog Yba.f3 Rows.lawS2410BTypesRow.domain false) (Rows.lawS2410BTypesSpec.post enc Yba.prog Yba.f3 false true false false) := by
  refine returnsInHanded_of_change (C := Yba.checked) own started (by kernel_rfl) Yba.func3
    (ChangeSpec.witness6 (enc := enc) (C := Yba.checked) false ⟨#[], #[.slice none 0 0], []⟩ 8 (by kernel_rfl) (by kernel_rfl) (by kernel_rfl) (by kernel_rfl)) ?_
  intro W base args ds gs before hval0 hW hcnd _
  have hval : ∀ (j : Nat) t v, Yba.f3.params[j]? = some t → args[j]? = some v → Value.okWide Yba.prog W .any base t v := hval0
  have hW' := hW
  obtain ⟨p, q, hA0, hV, rfl, hfz, hnd⟩ := hW
  have hA : DataW.TrodAll enc Yba.prog W 0 (fun _ => true) true Yba.f3.params.toList args.toList ds p := hA0
  rw [Yba.params3] at hA hval
  obtain ⟨v0, vs0, d0, ds0, p0, q0, hargs, rfl, rfl, h0, r0⟩ := trodAll_cons hA
  obtain ⟨rfl, rfl, rfl⟩ := trodAll_nil r0
  obtain rfl : args = #[v0] := by cases args; simp_all
  obtain ⟨rfl, rfl⟩ := trodVars_none hV
  obtain ⟨a0, len0, cap0, rfl⟩ := okWide_slice Yba.underlying22 (hval 0 22 v0 rfl rfl)
  have k0 := h0
  have lt0 : ∀ x ∈ p0, x.block < W.heap.size := by obtain ⟨m, hm⟩ := k0; exact DataW.trod_lt m _ _ _ hm
  obtain ⟨z0, w0⟩ : ∃ zs, IsRow .u8 W a0 len0 cap0 zs := by
    obtain ⟨fuel, hf⟩ := h0
    rcases open_ints Yba.underlying22 Yba.underlying5 (by kernel_rfl) hf with ⟨hcs, _⟩ | ⟨x, l, c, zs, hcs, _, hl, hm, hz, _, hcell, hwz⟩
    · simp [Value.cells] at hcs
      obtain ⟨rfl, rfl, rfl⟩ := hcs
      exact ⟨[], .inl ⟨rfl, rfl, rfl, rfl⟩⟩
    · simp [Value.cells] at hcs
      obtain ⟨rfl, rfl, rfl⟩ := hcs
      exact ⟨zs, .inr ⟨_, rfl, hl, hm, by simpa using hz, hcell, hwz⟩⟩
  clear hA0 hval0
  refine (walk a0 len0 cap0 z0 W w0).mono fun e W' ⟨he, bel⟩ => ?_
  subst he
  exact ⟨_, rfl, _, _, _, [], _, [], hW', trodAll_mk1 (shut_bool Yba.underlying4 _), (trodAll_cons_mk (Below.trod laidOut (by kernel_rfl) (of_decide_eq_true (by kernel_rfl)) k0 bel lt0) trodAll_mk0), rfl, bel.frame _, fun h => by cases h⟩

theorem over : Rows.lawS2410BTypesRow.holds Yba.pinned (OpenSpec.ofChange Rows.lawS2410BTypesSpec) :=
  OpenClaim.holds_of_wide 3 Yba.f3 rfl rfl rfl rfl rfl rfl rfl ⟨rfl, rfl, rfl, rfl, rfl⟩ rfl rfl rfl rfl rfl (by kernel_rfl) Yba.func3 (by kernel_rfl)
    (of_decide_eq_true (by kernel_rfl)) (by unfold Func.isWrapper; first | (rw [if_pos (by decide +kernel)]; kernel_rfl) | (rw [if_neg (by decide +kernel)]; exact ⟨rfl, rfl⟩))
    (fun os started H enc _ => lifted os started H enc)

/-- ████ THE STATEMENT ████ -/
theorem proved : Rows.LawS2410BTypesSaid := over
#print axioms proved
end Go.Proofs.Ybulkawws.lawS2410BTypes
