/-
  LawS2410BSplit, walked.
-/
import Derived.Test.YbulkawwsFmtSplit
import Derived.Deep.OwnRows
import Derived.Deep.DeepCutAuto
import Derived.BigQuiet
import Derived.Deep.QuietTactic
namespace Go.Proofs.YbulkawwsFmt
open Go.RowKit

/-- The bytes 0 .. n - 1. -/
def cnt (n : Nat) : List Int := (List.range n).map fun j : Nat => (j : Int)
theorem cnt_len (n : Nat) : (cnt n).length = n := by simp [cnt]
theorem cnt_succ (n : Nat) : cnt (n + 1) = cnt n ++ [(n : Int)] := by simp [cnt, List.range_succ]

def mss (F : Nat → Int) (nl : Nat → Nat) (K : Nat) : List (Int × List Int) := (List.range K).map fun i => (F i, cnt (nl i))
theorem mss_len (F : Nat → Int) (nl : Nat → Nat) (K : Nat) : (mss F nl K).length = K := by simp [mss]
theorem mss_zero (F : Nat → Int) (nl : Nat → Nat) : msgsE (mss F nl 0) = [] := rfl
theorem mss_succ (F : Nat → Int) (nl : Nat → Nat) (i : Nat) : msgsE (mss F nl (i + 1)) = (msgsE (mss F nl i) ++ [F i, 0, 0, (nl i : Int)]) ++ cnt (nl i) := by
  simp [mss, List.range_succ, msgsE, msg, cnt_len]
theorem mss_getD (F : Nat → Int) (nl : Nat → Nat) (K j : Nat) (h : j < K) : ((mss F nl K).getD j (0, [])).1 = F j := by
  simp [mss, List.getD_eq_getElem?_getD, h]
theorem mss_byt (F : Nat → Int) (nl : Nat → Nat) (K : Nat) (hF : ∀ i, i < K → 0 ≤ F i ∧ F i ≤ 255) (hn : ∀ i, nl i < 8) : Byt (msgsE (mss F nl K)) := by
  intro x hx
  simp only [msgsE, mss, List.mem_flatMap, List.mem_map, List.mem_range] at hx
  obtain ⟨m, ⟨i, hi, rfl⟩, hx⟩ := hx
  simp only [msg, List.mem_cons, cnt_len] at hx
  have := hn i
  rcases hx with rfl | rfl | rfl | rfl | hx
  · exact hF i hi
  · omega
  · omega
  · omega
  · simp only [cnt, List.mem_map, List.mem_range] at hx
    obtain ⟨j, hj, rfl⟩ := hx
    omega

theorem cells_lit (w : World) (N : Nat) (cs : List Value) (t : TypeId) (hN : N = w.heap.size) : ∀ j u, cs[j]? = some u → (w.alloc (.cells cs.toArray t)).cell? ((⟨N, 0, none⟩ : Addr).add j) = some u := by
  subst hN
  intro j u hj
  rw [Go.WideShapes.add_plain]
  simp [hj]

theorem ints_one (y : List Int) : ∀ u ∈ y.map (Value.int .u8), u.oneCell' = true := by
  intro u hu
  simp at hu
  obtain ⟨z, _, rfl⟩ := hu
  rfl

theorem mss_bound (F : Nat → Int) (nl : Nat → Nat) (hn : ∀ i, nl i < 8) : ∀ i, (msgsE (mss F nl i)).length ≤ 11 * i
  | 0 => by simp [mss, msgsE]
  | i + 1 => by
    rw [mss_succ]
    have := mss_bound F nl hn i
    have := hn i
    simp [cnt_len]
    omega

theorem own_shape {w : World} {N : Nat} {v : Value} {bs : List Int} (h : w.ownsRow N 5 1 v bs.length (bs.map (Value.int .u8))) : ∃ a c, v = .slice a bs.length c ∧ Bts w (.slice a bs.length c) bs ∧ ∀ I, w.heap.size ≤ I → Off I (.slice a bs.length c) := by
  have h' := h
  rcases h.2 with ⟨rfl, h0⟩ | ⟨g, cap, cur, rfl, _, hg, hnc, hcm, _⟩
  · have hb : bs = [] := List.eq_nil_of_length_eq_zero h0
    subst hb
    exact ⟨none, 0, rfl, Bts.empty _ _ _ (by unfold maxLen; omega), fun I _ a n c e => by simp at e⟩
  · have hgl : g < w.heap.size := (Array.getElem?_eq_some_iff.1 hg).1
    refine ⟨some ⟨g, 0, none⟩, cap, rfl, ⟨_, _, rfl, hnc, hcm, fun _ => ⟨g, 0, rfl, fun j hj => ?_⟩⟩, fun I hI a n c e => ?_⟩
    · rw [Nat.zero_add, h'.cellAt j (by omega)]
      simp [List.getElem?_eq_getElem hj]
    · simp only [Value.slice.injEq, Option.some.injEq] at e
      obtain ⟨rfl, _, _⟩ := e
      show g ≠ I
      omega

/-- The array of three messages, as it is laid. -/
theorem msg_new (w : World) (ms : List (Int × List Int)) :
    Msg (w.alloc (.cells #[.int .u8 0, .slice none 0 0, .slice none 0 0, .int .u8 0, .slice none 0 0, .slice none 0 0, .int .u8 0, .slice none 0 0, .slice none 0 0] 27)) w.heap.size ms 0 := by
  refine ⟨fun j hj => ?_, fun j => by simp, fun j hj => absurd hj (by omega)⟩
  have e : j = 0 ∨ j = 1 ∨ j = 2 := by omega
  rcases e with rfl | rfl | rfl <;> exact ⟨0, none, 0, 0, none, 0, 0, by simp, by simp, by simp⟩

theorem msg_cells {w : World} {I K : Nat} {F : Nat → Int} {nl : Nat → Nat} (hK : K ≤ 3) (h : Msg w I (mss F nl K) K) :
    ∀ j, j < K → ∃ x l c y l' c', w.cell? ⟨I, j * 3, none⟩ = some (.int .u8 (F j)) ∧ w.cell? ⟨I, j * 3 + 1, none⟩ = some (.slice x l c) ∧ w.cell? ⟨I, j * 3 + 2, none⟩ = some (.slice y l' c') := by
  intro j hj
  obtain ⟨z, x, l, c, y, l', c', k0, k1, k2⟩ := h.1 j (by omega)
  have := h.2.2 j hj
  rw [mss_getD F nl K j hj] at this
  exact ⟨x, l, c, y, l', c', this, k1, k2⟩

set_option maxHeartbeats 1000000 in
theorem sp_core (a0 a1 : Option Addr) (n0 c0 n1 c1 : Nat) (F : Nat → Int) (G : Nat → Int) (w : World) (_h0 : n0 ≤ 9223372036854775807) (_h1 : n1 ≤ 9223372036854775807)
    (hF : ∀ j, j < n0 → ∃ b off, a0 = some ⟨b, off, none⟩ ∧ w.cell? ⟨b, off + j, none⟩ = some (.int .u8 (F j)) ∧ 0 ≤ F j ∧ F j ≤ 255)
    (hG : ∀ j, j < n1 → ∃ b off, a1 = some ⟨b, off, none⟩ ∧ w.cell? ⟨b, off + j, none⟩ = some (.int .u8 (G j)) ∧ 0 ≤ G j ∧ G j ≤ 255) :
    Calls Ybaf.prog 3 #[.slice a0 n0 c0, .slice a1 n1 c1] w fun e w' => e = .returned (.bool true) ∧ Below w.heap.size w w' := by
  obtain ⟨K, hK⟩ : ∃ K : Nat, K = if 3 < n0 then 3 else n0 := ⟨_, rfl⟩
  have HK : Hid (K = if 3 < n0 then 3 else n0) := hK
  have hK3 : K ≤ 3 ∧ K ≤ n0 := by rw [hK]; split <;> omega
  clear hK
  go_enter Ybaf.func3, Ybaf.ntmps3
  go_upto_if 18 with (fail)
  go_cut [5] (fun s w' => s = .int .i64 (K : Nat) ∧ w = w')
  case first =>
    go_wp2
    all_goals
      go_meet
      case rel =>
        refine ⟨?_, rfl⟩
        have hk := HK.out
        congr 1
        split at hk <;> omega
  case rest =>
    obtain ⟨rfl, rfl⟩ := hcut
    clear HK
    obtain ⟨nl, hnl, hnl1, hnl2⟩ : ∃ nl : Nat → Nat, (∀ i, nl i < 8) ∧ (∀ i, i < n1 → ((nl i : Nat) : Int) = G i % 8) ∧ (∀ i, ¬ i < n1 → nl i = 0) := by
      refine ⟨fun i => if i < n1 then (G i % 8).toNat else 0, fun i => ?_, fun i hi => ?_, fun i hi => if_neg hi⟩
      · simp only; split <;> omega
      · simp only [if_pos hi]; omega
    obtain ⟨i5, hi5, hz5, hs5, hb5⟩ := info_parts info5
    go_wp2
    go_loopw [6, 7] (fun t6 t7 wr => ∃ (i : Nat) (v : Value), i ≤ K ∧ t7 = .int .i64 i ∧ t6 = v ∧ wr.ownsRow w.heap.size 5 1 v (msgsE (mss F nl i)).length ((msgsE (mss F nl i)).map (Value.int .u8)) ∧ Below w.heap.size w wr) (fun _ t7 _ => K - (intOf t7).toNat)
    case atStart => exact ⟨0, _, Nat.zero_le _, rfl, rfl, World.ownsRow_nil _ _ _ _, Below.refl _ _⟩
    case round =>
      obtain ⟨i, v, hiK, rfl, rfl, hown, hbel⟩ := hrel
      by_cases hi : i < K
      · obtain ⟨b, off, ha, hc, hF0, hF1⟩ := hF i (by omega)
        subst ha
        have hbl : b < w.heap.size := World.block_lt_of_cell? w _ hc
        have hc' : wr.cell? ⟨b, off + i, none⟩ = some (.int .u8 (F i)) := (hbel.cell (p := ⟨b, off + i, none⟩) hbl).trans hc
        have hn8 := hnl i
        go_upto_if 27 with (fail)
        go_cut [8] (fun s w' => s = .int .i64 (nl i : Nat) ∧ wr = w')
        case first =>
          by_cases hi1 : i < n1
          · obtain ⟨b', off', ha', hg, hg0, hg1⟩ := hG i hi1
            subst ha'
            have hg' : wr.cell? ⟨b', off' + i, none⟩ = some (.int .u8 (G i)) := (hbel.cell (p := ⟨b', off' + i, none⟩) (World.block_lt_of_cell? w _ hg)).trans hg
            have HE : Hid (((nl i : Nat) : Int) = G i % 8) := hnl1 i hi1
            clear hF hG hnl1 hnl2 hg hc hnl
            generalize nl i = n at *
            go_wp2
            go_meet
            case rel =>
              exact ⟨by rw [HE.out], rfl⟩
          · have HE : Hid (nl i = 0) := hnl2 i hi1
            clear hF hG hnl1 hnl2 hc hnl
            generalize nl i = n at *
            go_wp2
            go_meet
            case rel => exact ⟨by rw [HE.out]; rfl, rfl⟩
        case rest =>
          obtain ⟨rfl, rfl⟩ := hcut
          clear hF hG hnl1 hnl2 hc
          have HMS : Hid (msgsE (mss F nl (i + 1)) = (msgsE (mss F nl i) ++ [F i, 0, 0, (nl i : Int)]) ++ cnt (nl i)) := mss_succ F nl i
          have hM : (msgsE (mss F nl i)).length ≤ 11 * i := mss_bound F nl hnl i
          clear hnl
          generalize msgsE (mss F nl i) = P at *
          generalize nl i = n at *
          have hwb := hbel.size
          go_wp2_with (at_builtin; refine wpList_append_own _ rfl _ _ _ rfl w.heap.size 5 i5 _ 1 1 Ybaf.underlying22 hi5 hz5 hs5 hb5 rfl (by omega) _ P.length _ rfl (hown.alloc _) ⟨wr.heap.size, 0, none⟩ 4 4 [.int .u8 (F i), .int .u8 0, .int .u8 0, .int .u8 (n : Int)] rfl rfl (cells_lit _ _ _ _ rfl) (ints_one [F i, 0, 0, (n : Int)]) (by unfold maxLen; omega) (by omega) (by simp; omega) ?_; intro v1 w1 hown1 hgr1 _)
          have hb1 : Below w.heap.size w w1 := (hbel.alloc (by omega) _).grown hgr1 (by simp; omega) (fun k hk => (hown.lt k hk).1)
          have ho1 : w1.ownsRow w.heap.size 5 1 v1 (P.length + 4 + 0) ((P ++ [F i, 0, 0, (n : Int)] ++ cnt 0).map (Value.int .u8)) := by simpa [cnt] using hown1
          have hn8' : n ≤ 7 := by omega
          clear hown1 hgr1 hown hc'
          go_loopw [6, 9] (fun t6 t9 wz => ∃ (j : Nat), j ≤ n ∧ t9 = .int .i64 j ∧ wz.ownsRow w.heap.size 5 1 t6 (P.length + 4 + j) ((P ++ [F i, 0, 0, (n : Int)] ++ cnt j).map (Value.int .u8)) ∧ Below w.heap.size w wz) (fun _ t9 _ => n - (intOf t9).toNat)
          case atStart => exact ⟨0, Nat.zero_le _, rfl, ho1, hb1⟩
          case round =>
            clear ho1 hb1
            obtain ⟨j, hjn, rfl, hoj, hbj⟩ := hrel
            by_cases hj : j < n
            · have hwj := hbj.size
              go_wp2_with (at_builtin; refine wpList_append_own _ rfl _ _ _ rfl w.heap.size 5 i5 _ 1 1 Ybaf.underlying22 hi5 hz5 hs5 hb5 rfl (by omega) _ (P.length + 4 + j) _ rfl (hoj.alloc _) ⟨_, 0, none⟩ 1 1 [.int .u8 (j : Int)] rfl rfl (cells_lit _ _ _ _ rfl) (ints_one [(j : Int)]) (by unfold maxLen; omega) (by omega) (by simp; omega) ?_; intro v2 w2 hown2 hgr2 _)
              go_roundw
              case rel =>
                refine ⟨j + 1, by omega, by go_num, ?_, (hbj.alloc (by omega) _).grown hgr2 (by simp; omega) (fun k hk => (hoj.lt k hk).1)⟩
                rw [cnt_succ]
                simpa [Nat.add_assoc] using hown2
              case measure => simp [intOf]; omega
            · have hjj : j = n := by omega
              subst hjj
              go_wp2
              go_roundw
              case rel =>
                refine ⟨i + 1, _, by omega, by go_num, rfl, ?_, hbj⟩
                rw [HMS.out]
                have e : (P ++ [F i, 0, 0, (j : Int)] ++ cnt j).length = P.length + 4 + j := by simp [cnt_len]; omega
                rw [e]; exact hoj
              case measure => simp [intOf]; omega
      · have hii : i = K := by omega
        subst hii
        obtain ⟨a, cap, rfl, hbts, hoff⟩ := own_shape hown
        have hby : Byt (msgsE (mss F nl i)) := mss_byt F nl i (fun j hj => by obtain ⟨_, _, _, _, q0, q1⟩ := hF j (by omega); exact ⟨q0, q1⟩) hnl
        have hoff' := hoff wr.heap.size (Nat.le_refl _)
        have hlen := mss_len F nl i
        clear hown hoff hG hnl1 hnl2
        by_cases hi0 : i = 0
        · subst hi0
          rw [mss_zero] at hbts hby hoff' ⊢
          go_wp2_with (go_at_call 6; refine (sm_empty _ _ _ _).mono ?_; rintro e w2 ⟨g, rfl, hb2⟩)
          go_ret
          exact ⟨rfl, (hbel.alloc hbel.size _).trans (hb2.mono (by have := hbel.size; simp; omega))⟩
        · have HLEN : Hid ((mss F nl i).length = i) := hlen
          have hi1 : ((i : Int) == 0) = false := by rw [beq_eq_false_iff_ne]; omega
          have h3 : (mss F nl i).length ≤ 3 := by omega
          have h4 : 1 ≤ (mss F nl i).length := by omega
          clear hlen
          go_wp2_with fail
          refine (sm_ok _ _ _ _ _ hby h3 h4 (hbts.alloc _) hoff' (by simp) (msg_new wr _)).mono ?_
          rintro e w2 ⟨he, hmsg, hgr⟩
          rw [HLEN.out] at he hmsg
          subst he
          have hb2 : Below w.heap.size w w2 := (hbel.alloc hbel.size _).grown hgr (by have := hbel.size; simp; omega) (by intro k e; cases e; exact hbel.size)
          have hz2 : wr.heap.size < w2.heap.size := by have := hgr.size; simp at this; omega
          have hcs := msg_cells hK3.1 hmsg
          clear hmsg hgr hbts hoff' hby
          go_wp2_with (go_at_call 7; refine (mt_any wr.heap.size i 3 w2 F (by omega) hcs).mono ?_; rintro e w3 ⟨rfl, hgot, hb3⟩)
          have hb4 : Below w.heap.size w w3 := hb2.trans (hb3.mono (by have := hbel.size; omega))
          clear hcs hb3 hb2
          generalize w2.heap.size = G2 at *
          go_loopw [14] (fun t wz => ∃ m : Nat, m ≤ i ∧ t = .int .i64 m ∧ ∃ q, wz = w3.drewN q) (fun t _ => i - (intOf t).toNat)
          case atStart => exact ⟨0, Nat.zero_le _, rfl, 0, rfl⟩
          case round =>
            obtain ⟨m, hm, rfl, q, rfl⟩ := hrel
            by_cases hmi : m < i
            · obtain ⟨b, off, ha, e0, _, _⟩ := hF m (by omega)
              subst ha
              have g0 : w3.cell? ⟨b, off + m, none⟩ = some (.int .u8 (F m)) := (hb4.cell (p := ⟨b, off + m, none⟩) (World.block_lt_of_cell? w _ e0)).trans e0
              have g1 := hgot m hmi
              have i0 : (0 : Int) ≤ (m : Int) := by omega
              have i1 : (m : Int) < (i : Int) := by omega
              have i2 : (m : Int) < (n0 : Int) := by omega
              clear e0 hF hgot
              go_wp2
              go_quiet (fail)
              go_wp2
              go_roundw
              case rel => exact ⟨m + 1, by omega, by go_num, _, rfl⟩
              case measure => simp [intOf]; omega
            · go_wp2
              go_ret
              exact ⟨rfl, below_draws hb4 _⟩
end Go.Proofs.YbulkawwsFmt
