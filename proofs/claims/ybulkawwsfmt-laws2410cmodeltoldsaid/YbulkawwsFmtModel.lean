/-
  zzs2410cmodel, walked: it answers as 'parse' says.
-/
import Derived.Test.YbulkawwsFmtParseErr
import Derived.WalkSpells
import Derived.WalkLawsBesides
import Derived.BigQuiet
import Derived.Deep.QuietTactic
namespace Go.Proofs.YbulkawwsFmt
open Go.RowKit

/-- What the model's answer must be. -/
def MdlEnd (N : Nat) (w : World) (R : Option (List (List Int))) (e : Ending) (w' : World) : Prop :=
  Below N w w' ∧ (R = none → e = .returned (.tuple #[.slice none 0 0, .bool false])) ∧
  (∀ xs, R = some xs → ∃ v vs, e = .returned (.tuple #[v, .bool true]) ∧ w'.ownsRow N 22 1 v xs.length vs ∧ ∀ j, j < xs.length → ∃ u, vs[j]? = some u ∧ Bts w u (xs.getD j []))

theorem end_none {N : Nat} {w w' : World} {R : Option (List (List Int))} (hR : R = none) (hb : Below N w w') : MdlEnd N w R (.returned (.tuple #[.slice none 0 0, .bool false])) w' :=
  ⟨hb, fun _ => rfl, fun xs h => by rw [hR] at h; cases h⟩

theorem md_short (w : World) (a : Option Addr) (L c : Nat) (bs : List Int) (hL : bs.length = L) (h2 : L < 2) :
    Calls Ybaf.prog 8 #[.slice a L c] w fun e w' => MdlEnd w.heap.size w (parse bs) e w' := by
  have HP : Hid (parse bs = none) := by
    show parse bs = none
    unfold parse rv2
    rw [if_neg (by omega)]
  have l1 : (L : Int) < 2 := by omega
  clear hL
  go_enter Ybaf.func8, Ybaf.ntmps8
  go_wp2
  go_ret2
  exact end_none HP.out (Below.refl _ _)

/-- The model's loop. -/
def Mdl (N : Nat) (w wr : World) (bs : List Int) (i : Nat) (v : Value) (ys : List (List Int)) (f : Nat) : Prop :=
  2 ≤ i ∧ i ≤ bs.length ∧ ((sct f (bs.drop i)).map (ys ++ ·) = sct (bs.drop 2).length (bs.drop 2)) ∧ (bs.drop i).length ≤ f ∧ ys.length ≤ i ∧
  (∃ vs, wr.ownsRow N 22 1 v ys.length vs ∧ ∀ j, j < ys.length → ∃ u, vs[j]? = some u ∧ Bts w u (ys.getD j [])) ∧ Below N w wr

theorem parse_none_of (bs : List Int) (n : Nat) (h2 : 2 ≤ bs.length) (hn : be (bs.take 2) = n) (h : n = 0 ∨ bs.length - 2 ≠ n) : parse bs = none := by
  unfold parse rv2
  rw [hn, Int.toNat_natCast]
  by_cases hc : 2 ≤ bs.length ∧ 2 + n ≤ bs.length
  · rw [if_pos hc]
    simp only
    by_cases hz : n = 0
    · subst hz; simp
    · rw [if_neg (fun e => by have := congrArg List.length e; simp at this; omega), if_neg (fun e => by have := congrArg List.length e; simp at this; omega)]
  · rw [if_neg hc]

theorem parse_eq (bs : List Int) (n : Nat) (h2 : 2 ≤ bs.length) (hn : be (bs.take 2) = n) (h0 : n ≠ 0) (hd : bs.length - 2 = n) : parse bs = sct (bs.drop 2).length (bs.drop 2) := by
  unfold parse rv2
  rw [hn, Int.toNat_natCast, if_pos ⟨h2, by omega⟩]
  have e1 : (bs.drop 2).take n = bs.drop 2 := List.take_of_length_le (by simp; omega)
  have e2 : (bs.drop 2).drop n = [] := List.drop_of_length_le (by simp; omega)
  simp only
  rw [e1, e2, if_neg (fun e => by have := congrArg List.length e; simp at this; omega), if_pos rfl]

theorem mdl_start (w wr : World) (bs : List Int) (h2 : 2 ≤ bs.length) (hb : Below w.heap.size w wr) : Mdl w.heap.size w wr bs 2 (.slice none 0 0) [] (bs.drop 2).length := by
  refine ⟨Nat.le_refl _, h2, by simp, Nat.le_refl _, by simp, ⟨[], World.ownsRow_nil _ _ _ _, fun j hj => absurd hj (by simp)⟩, hb⟩

/-- One item more. -/
theorem mdl_step {w wr w1 : World} {bs : List Int} {i : Nat} {v v1 : Value} {ys : List (List Int)} {f m : Nat} {u : Value} (h : Mdl w.heap.size w wr bs i v ys f) (hm : be ((bs.drop i).take 2) = m) (h2 : 2 ≤ bs.length - i) (hm0 : m ≠ 0) (hmL : i + 2 + m ≤ bs.length)
    (vs : List Value) (hvs : ∀ j, j < ys.length → ∃ u, vs[j]? = some u ∧ Bts w u (ys.getD j [])) (hl : vs.length = ys.length)
    (hown : w1.ownsRow w.heap.size 22 1 v1 (ys.length + 1) (vs ++ [u])) (hu : Bts w u ((bs.drop (i + 2)).take m)) (hb : Below w.heap.size w w1) :
    ∃ ys' f', ys'.length = ys.length + 1 ∧ Mdl w.heap.size w w1 bs (i + 2 + m) v1 ys' f' := by
  obtain ⟨h1, h3, h4, h5, h6, _, _⟩ := h
  have hr : rv2 (bs.drop i) = some ((bs.drop (i + 2)).take m, bs.drop (i + 2 + m)) := by
    unfold rv2
    rw [hm, Int.toNat_natCast, if_pos ⟨by simp; omega, by simp; omega⟩]
    simp [List.drop_drop, Nat.add_assoc]
  have hx : (bs.drop (i + 2)).take m ≠ [] := fun e => by have := congrArg List.length e; simp at this; omega
  cases f with
  | zero => simp at h5; omega
  | succ f =>
    have hs : sct (f + 1) (bs.drop i) = (sct f (bs.drop (i + 2 + m))).map ((bs.drop (i + 2)).take m :: ·) := by
      rw [sct, if_neg (fun e => by have := congrArg List.length e; simp at this; omega), hr]
      simp only
      rw [if_neg hx]
    refine ⟨ys ++ [(bs.drop (i + 2)).take m], f, by simp, by omega, hmL, ?_, ?_, by simp; omega, ⟨vs ++ [u], by simpa using hown, fun j hj => ?_⟩, hb⟩
    · rw [← h4, hs, Option.map_map]
      congr 1
      funext z
      simp
    · simp at h5 ⊢; omega
    · by_cases e : j < ys.length
      · obtain ⟨u', e', b'⟩ := hvs j e
        refine ⟨u', by rw [List.getElem?_append_left (by omega)]; exact e', ?_⟩
        have : (ys ++ [(bs.drop (i + 2)).take m]).getD j [] = ys.getD j [] := by
          rw [List.getD_eq_getElem?_getD, List.getD_eq_getElem?_getD, List.getElem?_append_left e]
        rw [this]; exact b'
      · have ej : j = ys.length := by simp at hj; omega
        subst ej
        refine ⟨u, by rw [List.getElem?_append_right (by omega), hl]; simp, ?_⟩
        have : (ys ++ [(bs.drop (i + 2)).take m]).getD ys.length [] = (bs.drop (i + 2)).take m := by
          rw [List.getD_eq_getElem?_getD, List.getElem?_append_right (Nat.le_refl _)]; simp
        rw [this]; exact hu

theorem mdl_fail {w wr : World} {bs : List Int} {i : Nat} {v : Value} {ys : List (List Int)} {f : Nat} (h : Mdl w.heap.size w wr bs i v ys f) (hi : i < bs.length) (hf : bs.length - i < 2 ∨ ∃ m : Nat, be ((bs.drop i).take 2) = m ∧ (m = 0 ∨ bs.length - (i + 2) < m)) :
    sct (bs.drop 2).length (bs.drop 2) = none := by
  obtain ⟨h1, h3, h4, h5, h6, _, _⟩ := h
  rw [← h4]
  have hne : bs.drop i ≠ [] := fun e => by have := congrArg List.length e; simp at this; omega
  cases f with
  | zero => simp at h5; omega
  | succ f =>
    have : sct (f + 1) (bs.drop i) = none := by
      rw [sct, if_neg hne]
      unfold rv2
      rcases hf with hf | ⟨m, hm, hf⟩
      · rw [if_neg (by simp; omega)]
      · rw [hm, Int.toNat_natCast]
        by_cases hc : 2 ≤ (bs.drop i).length ∧ 2 + m ≤ (bs.drop i).length
        · rw [if_pos hc]
          have hm0 : m = 0 := by simp at hc; omega
          subst hm0
          simp
        · rw [if_neg hc]
    rw [this]; rfl

theorem mdl_done {w wr : World} {bs : List Int} {v : Value} {ys : List (List Int)} {f : Nat} (h : Mdl w.heap.size w wr bs bs.length v ys f) (hp : parse bs = sct (bs.drop 2).length (bs.drop 2)) :
    MdlEnd w.heap.size w (parse bs) (.returned (.tuple #[v, .bool true])) wr := by
  obtain ⟨_, _, h4, _, _, ⟨vs, hown, hvs⟩, hb⟩ := h
  rw [List.drop_of_length_le (Nat.le_refl _)] at h4
  have e : parse bs = some ys := by
    rw [hp, ← h4]
    cases f <;> simp [sct]
  refine ⟨hb, (fun h => by rw [e] at h; cases h), fun xs h => ?_⟩
  rw [e] at h
  obtain rfl := Option.some.inj h
  exact ⟨v, vs, rfl, hown, hvs⟩

theorem one_new (w : World) (N : Nat) (x : Value) (t : TypeId) (hN : N = w.heap.size) : ∀ j u, [x][j]? = some u → (w.alloc (.cells #[x] t)).cell? ((⟨N, 0, none⟩ : Addr).add j) = some u := by
  subst hN
  intro j u hj
  match j, hj with
  | 0, hj => simp at hj; subst hj; simp [Addr.add]
  | j + 1, hj => simp at hj

theorem one_one (a : Option Addr) (n c : Nat) : ∀ u ∈ [Value.slice a n c], u.oneCell' = true := by
  intro u hu
  simp at hu
  subst hu
  rfl

set_option maxHeartbeats 1000000 in
theorem md_head (w : World) (g o : Nat) (L c : Nat) (bs : List Int) (hbd : Byt bs) (hL : bs.length = L) (h2 : 2 ≤ L) (hL7 : L ≤ 70000) (hLc : L ≤ c) (hcm : c ≤ maxLen)
    (hc : ∀ j, j < L → w.cell? ⟨g, o + j, none⟩ = some (.int .u8 (bs.getD j 0))) :
    Calls Ybaf.prog 8 #[.slice (some ⟨g, o, none⟩) L c] w fun e w' => MdlEnd w.heap.size w (parse bs) e w' := by
  obtain ⟨n, hn⟩ : ∃ n : Nat, be (bs.take 2) = n := ⟨_, (Int.toNat_of_nonneg (be_le2 hbd 2 (by omega) (by omega)).1).symm⟩
  have hn16 : n ≤ 65535 := by have := be_le2 hbd 2 (by omega) (by omega); omega
  have x0 := hbd.at 0
  have x1 := hbd.at 1
  have c0 := hc 0 (by omega)
  have c1 := hc 1 (by omega)
  rw [Nat.add_zero] at c0
  have hbe : bs.getD 0 0 * 256 + bs.getD 1 0 = n := by
    rw [← hn, be_take_succ bs 1 (by omega), be_take_succ bs 0 (by omega), be_zero]; omega
  have hor := or_byte (bs.getD 0 0) (bs.getD 1 0) (by omega) (by omega) (by omega) (by omega)
  rw [hbe] at hor
  have HBE : Hid (bs.getD 0 0 * 256 + bs.getD 1 0 = n) := hbe
  have HN : Hid (be (bs.take 2) = n) := hn
  have HL : Hid (bs.length = L) := hL
  have l1 : ¬ ((L : Int) < 2) := by omega
  have i1 : (1 : Int) < (L : Int) := by omega
  have i2 : (0 : Int) < (L : Int) := by omega
  clear hbe hn hL
  generalize bs.getD 0 0 = z0 at *
  generalize bs.getD 1 0 = z1 at *
  unfold maxLen at hcm
  go_enter Ybaf.func8, Ybaf.ntmps8
  go_wp2
  go_quiet (fail)
  have hb0 : Below w.heap.size w (w.drewN nq) := below_draws (Below.refl _ _) nq
  by_cases hz : n = 0
  · have HP : Hid (parse bs = none) := parse_none_of bs n (by rw [HL.out]; exact h2) HN.out (.inl hz)
    subst hz
    clear hc
    go_wp2
    go_ret2
    exact end_none HP.out hb0
  · have hz0 : ((n : Int) == 0) = false := by rw [beq_eq_false_iff_ne]; omega
    by_cases hd : L - 2 = n
    · have HP : Hid (parse bs = sct (bs.drop 2).length (bs.drop 2)) := parse_eq bs n (by rw [HL.out]; exact h2) HN.out hz (by rw [HL.out]; exact hd)
      have hd0 : (((L : Int) - 2) != (n : Int)) = false := by rw [bne_eq_false_iff_eq]; omega
      have HST : Hid (Mdl w.heap.size w (w.drewN nq) bs 2 (.slice none 0 0) [] (bs.drop 2).length) := mdl_start w _ bs (by rw [HL.out]; exact h2) hb0
      have HC : Hid (∀ j, j < L → w.cell? ⟨g, o + j, none⟩ = some (.int .u8 (bs.getD j 0))) := hc
      clear hc hd
      go_wp2
      clear c0 c1 hor x0 x1
      go_loopw [5, 6] (fun t5 t6 wr => ∃ (i : Nat) (ys : List (List Int)) (f : Nat), t6 = .int .i64 i ∧ Mdl w.heap.size w wr bs i t5 ys f) (fun _ t6 _ => L - (intOf t6).toNat)
      case atStart => exact ⟨2, _, _, rfl, HST.out⟩
      case round =>
        obtain ⟨i, ys, f, rfl, hmd⟩ := hrel
        have hiL : i ≤ L := by have := hmd.2.1; rw [HL.out] at this; exact this
        have hi2 := hmd.1
        obtain ⟨vs, hown, hvs⟩ := hmd.2.2.2.2.2.1
        have hbel := hmd.2.2.2.2.2.2
        have hys : ys.length ≤ 70000 := by have := hmd.2.2.2.2.1; omega
        have HMD : Hid (Mdl w.heap.size w wr bs i u5 ys f) := hmd
        have HVS : Hid (∀ j, j < ys.length → ∃ u, vs[j]? = some u ∧ Bts w u (ys.getD j [])) := hvs
        have hvl : vs.length = ys.length := by have := hown.1; omega
        have HVL : Hid (vs.length = ys.length) := hvl
        clear hmd hvs hvl
        by_cases hlt : i < L
        · by_cases h2i : L - i < 2
          · have l2 : (L : Int) - i < 2 := by omega
            have HF : Hid (parse bs = none) := HP.out.trans (mdl_fail HMD.out (by rw [HL.out]; exact hlt) (.inl (by rw [HL.out]; exact h2i)))
            go_wp2
            go_ret2
            exact end_none HF.out hbel
          · have l2 : ¬ ((L : Int) - i < 2) := by omega
            have hbdd := hbd.drop i
            have hdl : 2 ≤ (bs.drop i).length := by rw [List.length_drop, HL.out]; omega
            obtain ⟨m, hm⟩ : ∃ m : Nat, be ((bs.drop i).take 2) = m := ⟨_, (Int.toNat_of_nonneg (be_le2 hbdd 2 hdl (by omega)).1).symm⟩
            have hm16 : m ≤ 65535 := by have := be_le2 hbdd 2 hdl (by omega); omega
            have y0 := hbd.at i
            have y1 := hbd.at (i + 1)
            have d0 : wr.cell? ⟨g, o + i, none⟩ = some (.int .u8 (bs.getD i 0)) := (hbel.cell (p := ⟨g, o + i, none⟩) (World.block_lt_of_cell? w _ (HC.out i hlt))).trans (HC.out i hlt)
            have d1 : wr.cell? ⟨g, o + (i + 1), none⟩ = some (.int .u8 (bs.getD (i + 1) 0)) := (hbel.cell (p := ⟨g, o + (i + 1), none⟩) (World.block_lt_of_cell? w _ (HC.out (i + 1) (by omega)))).trans (HC.out (i + 1) (by omega))
            have hbe : bs.getD i 0 * 256 + bs.getD (i + 1) 0 = m := by
              rw [← hm, be_take_succ _ 1 (by omega), be_take_succ _ 0 (by omega), be_zero]
              simp [List.getD_eq_getElem?_getD]
            have hor := or_byte (bs.getD i 0) (bs.getD (i + 1) 0) (by omega) (by omega) (by omega) (by omega)
            rw [hbe] at hor
            have HM : Hid (be ((bs.drop i).take 2) = m) := hm
            clear hm hbe hbdd hdl
            generalize bs.getD i 0 = z0 at *
            generalize bs.getD (i + 1) 0 = z1 at *
            have j0 : (0 : Int) ≤ (i : Int) := by omega
            have j1 : (i : Int) < (L : Int) := by omega
            have j2 : (i : Int) + 1 < (L : Int) := by omega
            go_wp2
            go_quiet (fail)
            have hbq : Below w.heap.size w (wr.drewN nq) := below_draws hbel nq
            have hownq : (wr.drewN nq).ownsRow w.heap.size 22 1 u5 ys.length vs := hown
            by_cases hm0 : m = 0
            · have HF : Hid (parse bs = none) := HP.out.trans (mdl_fail HMD.out (by rw [HL.out]; exact hlt) (.inr ⟨m, HM.out, .inl hm0⟩))
              subst hm0
              go_wp2
              go_ret2
              exact end_none HF.out hbq
            · have hm1 : ((m : Int) == 0) = false := by rw [beq_eq_false_iff_ne]; omega
              by_cases hmL : L - (i + 2) < m
              · have l3 : (L : Int) - ((i : Int) + 2) < (m : Int) := by omega
                have HF : Hid (parse bs = none) := HP.out.trans (mdl_fail HMD.out (by rw [HL.out]; exact hlt) (.inr ⟨m, HM.out, .inr (by rw [HL.out]; exact hmL)⟩))
                go_wp2
                go_ret2
                exact end_none HF.out hbq
              · have l3 : ¬ ((L : Int) - ((i : Int) + 2) < (m : Int)) := by omega
                have l4 : i + 2 + m ≤ L := by omega
                have hci : ¬ (c = i + 2) := by omega
                obtain ⟨i22, hi22, hz22, hs22, hb22⟩ := info_parts info22
                have hwz := hbel.size
                have HU : Hid (Bts w (.slice (some ⟨g, o + (i + 2), none⟩) m (c - (i + 2))) ((bs.drop (i + 2)).take m)) := by
                  have hlen : ((bs.drop (i + 2)).take m).length = m := by simp [HL.out]; omega
                  refine ⟨_, _, by rw [hlen], by rw [hlen]; omega, by unfold maxLen; omega, fun _ => ⟨g, o + (i + 2), rfl, fun j hj => ?_⟩⟩
                  rw [hlen] at hj
                  rw [Nat.add_assoc, HC.out (i + 2 + j) (by omega)]
                  simp [hj]
                go_wp2_with (at_builtin; refine wpList_append_own _ rfl _ _ _ rfl w.heap.size 22 i22 _ 1 24 Ybaf.underlying37 hi22 hz22 hs22 hb22 rfl (by omega) u5 ys.length vs rfl (hownq.alloc _) ⟨wr.heap.size, 0, none⟩ 1 1 [.slice (some ⟨g, o + (i + 2), none⟩) m (c - (i + 2))] rfl rfl (one_new _ _ _ _ rfl) (one_one _ _ _) (by unfold maxLen; omega) (by omega) (by simp; omega) ?_; intro v1 w1 hown1 hgr1 _)
                have hb1 : Below w.heap.size w w1 := (hbq.alloc (by simp; omega) _).grown hgr1 (by simp; omega) (fun k hk => (hown.lt k hk).1)
                obtain ⟨ys', f', hyl, hmd'⟩ := mdl_step HMD.out HM.out (by rw [HL.out]; omega) hm0 (by rw [HL.out]; exact l4) vs HVS.out HVL.out hown1 HU.out hb1
                go_roundw
                case rel => exact ⟨i + 2 + m, ys', f', by go_num, hmd'⟩
                case measure => simp [intOf]; omega
        · have hiL2 : i = bs.length := by rw [HL.out]; omega
          have HD := show Hid (MdlEnd w.heap.size w (parse bs) (.returned (.tuple #[u5, .bool true])) wr) from mdl_done (by rw [← hiL2]; exact HMD.out) HP.out
          go_wp2
          go_ret2
          exact HD.out
    · have HP : Hid (parse bs = none) := parse_none_of bs n (by rw [HL.out]; exact h2) HN.out (.inr (by rw [HL.out]; exact hd))
      have hd0 : (((L : Int) - 2) != (n : Int)) = true := by rw [bne_iff_ne]; omega
      clear hc
      go_wp2
      go_ret2
      exact end_none HP.out hb0

/-- zzs2410cmodel at whatever bytes: what parse says. -/
theorem md_any (w : World) (a : Option Addr) (c : Nat) (bs : List Int) (hbd : Byt bs) (hL7 : bs.length ≤ 70000) (hb : Bts w (.slice a bs.length c) bs) :
    Calls Ybaf.prog 8 #[.slice a bs.length c] w fun e w' => MdlEnd w.heap.size w (parse bs) e w' := by
  by_cases h2 : 2 ≤ bs.length
  · obtain ⟨a', c', e, h1, hcm, h3⟩ := hb
    obtain ⟨g, o, ha, hc⟩ := h3 (by intro e; subst e; simp at h2)
    simp only [Value.slice.injEq, true_and] at e
    obtain ⟨rfl, rfl⟩ := e
    subst ha
    exact md_head w g o bs.length c bs hbd rfl h2 hL7 h1 hcm hc
  · exact md_short w a bs.length c bs rfl (by omega)
end Go.Proofs.YbulkawwsFmt
