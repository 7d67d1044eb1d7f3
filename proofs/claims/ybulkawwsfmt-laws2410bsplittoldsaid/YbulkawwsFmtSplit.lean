/-
  splitMessages, readUint8, messageTypes, walked.
-/
import Derived.Test.YbulkawwsFmtBuild
import Derived.WalkSpells
import Derived.WalkLawsBesides
import Derived.BigQuiet
import Derived.Deep.QuietTactic
namespace Go.Proofs.YbulkawwsFmt
open Go.RowKit

theorem ru_core (p g o c L : Nat) (w : World) (t : Int) (hL : 1 ≤ L) (_hLc : L ≤ c) (_hcm : c ≤ 9223372036854775807)
    (hv : w.cell? ⟨p, 0, none⟩ = some (.slice (some ⟨g, o, none⟩) L c)) (hfr : w.frozen? ⟨p, 0, none⟩ = false) (hc : w.cell? ⟨g, o, none⟩ = some (.int .u8 t)) :
    Calls Ybaf.prog 12 #[.pointer (some ⟨p, 0, none⟩)] w fun e w' => e = .returned (.tuple #[.int .u8 t, .nilIface]) ∧
      w' = w.setCell ⟨p, 0, none⟩ (.slice (if c = 1 then some ⟨g, o, none⟩ else some ⟨g, o + 1, none⟩) (L - 1) (c - 1)) := by
  have l1 : ¬ ((L : Int) < 1) := by omega
  by_cases hc1 : c = 1
  all_goals
    go_enter Ybaf.func12, Ybaf.ntmps12
    go_wp2
    go_ret2
    exact ⟨rfl, rfl⟩

/-- The slice does not lie in block I. -/
def Off (I : Nat) (v : Value) : Prop := ∀ a n c, v = .slice (some a) n c → a.block ≠ I

theorem Bts.offSet {w : World} {v : Value} {bs : List Int} {I : Nat} (h : Bts w v bs) (hO : Off I v) (j : Nat) (x : Value) : Bts (w.setCell ⟨I, j, none⟩ x) v bs := by
  obtain ⟨a, c, rfl, h1, h2, h3⟩ := h
  refine ⟨a, c, rfl, h1, h2, fun hne => ?_⟩
  obtain ⟨g, o, rfl, hc⟩ := h3 hne
  have hg := hO _ _ _ rfl
  refine ⟨g, o, rfl, fun i hi => ?_⟩
  rw [World.cell?_setCell_other _ _ _ _ (fun e => hg (congrArg Addr.block e).symm)]
  exact hc i hi

theorem ru_ok (p : Nat) (w : World) (v : Value) (t : Int) (r X : List Int) (hX : X = t :: r) (h : Rdr w p v X) (I : Nat) (hO : Off I v) :
    Calls Ybaf.prog 12 #[.pointer (some ⟨p, 0, none⟩)] w fun e w' => ∃ a2 c2, e = .returned (.tuple #[.int .u8 t, .nilIface]) ∧ w' = w.setCell ⟨p, 0, none⟩ (.slice a2 r.length c2) ∧ Bts w (.slice a2 r.length c2) r ∧ Off I (.slice a2 r.length c2) := by
  subst hX
  obtain ⟨hv, hfr, a, c, rfl, h1, h2, h3⟩ := h
  obtain ⟨g, o, rfl, hc⟩ := h3 (by simp)
  have hg := hO _ _ _ rfl
  have c0 := hc 0 (by simp)
  simp only [List.length_cons] at h1 hc
  refine (ru_core p g o c (t :: r).length w t (by simp) (by simpa using h1) (by unfold maxLen at h2; omega) hv hfr (by simpa using c0)).mono ?_
  rintro e w' ⟨rfl, rfl⟩
  refine ⟨if c = 1 then some ⟨g, o, none⟩ else some ⟨g, o + 1, none⟩, c - 1, rfl, by simp, ?_, ?_⟩
  · refine ⟨_, _, rfl, by omega, by omega, fun hne => ?_⟩
    have hl := List.length_pos_iff.2 hne
    rw [if_neg (by omega)]
    refine ⟨g, o + 1, rfl, fun j hj => ?_⟩
    have := hc (j + 1) (by omega)
    rw [show o + 1 + j = o + (j + 1) by omega, this]
    simp
  · intro a n c' e
    simp only [Value.slice.injEq] at e
    have e1 := e.1
    split at e1 <;> (cases e1; exact hg)

theorem rv3_ok (p : Nat) (w : World) (v : Value) (b r Y : List Int) (hY : Y = 0 :: 0 :: (b.length : Int) :: (b ++ r)) (hbd : Byt Y) (h : Rdr w p v Y) (I : Nat) (hO : Off I v) :
    Calls Ybaf.prog 13 #[.pointer (some ⟨p, 0, none⟩), .int .i64 3] w fun e w' => ∃ a1 c1 a2 c2, e = .returned (.tuple #[.slice a1 b.length c1, .nilIface]) ∧ w' = w.setCell ⟨p, 0, none⟩ (.slice a2 r.length c2) ∧
      Bts w (.slice a2 r.length c2) r ∧ Off I (.slice a2 r.length c2) := by
  subst hY
  obtain ⟨hv, hfr, a, c, rfl, h1, h2, h3⟩ := h
  obtain ⟨g, o, rfl, hc⟩ := h3 (by simp)
  have hg := hO _ _ _ rfl
  have hn : be ((0 :: 0 :: (b.length : Int) :: (b ++ r)).take 3) = (b.length : Nat) := by simp [be]
  have hlen : (0 :: 0 :: (b.length : Int) :: (b ++ r)).length = b.length + r.length + 3 := by simp
  rw [hlen] at hv h1 hc
  refine (rv_core p g o c (b.length + r.length + 3) w 3 _ hbd (by omega) (by omega) hlen (by omega) h1 (by unfold maxLen at h2; omega) hv hfr hc b.length hn (by omega)).mono ?_
  rintro e w' ⟨rfl, rfl⟩
  have el : b.length + r.length + 3 - 3 - b.length = r.length := by omega
  refine ⟨_, _, (if c = 3 then some ⟨g, o, none⟩ else if c - 3 = b.length then some ⟨g, o + 3, none⟩ else some ⟨g, o + 3 + b.length, none⟩), c - 3 - b.length, rfl, by rw [el], ?_, ?_⟩
  · refine ⟨_, _, rfl, by omega, by omega, fun hne => ?_⟩
    have hl := List.length_pos_iff.2 hne
    rw [if_neg (by omega), if_neg (by omega)]
    refine ⟨g, o + 3 + b.length, rfl, fun j hj => ?_⟩
    have := hc (3 + b.length + j) (by omega)
    rw [show o + 3 + b.length + j = o + (3 + b.length + j) by omega, this]
    rw [show 3 + b.length + j = (b.length + j) + 1 + 1 + 1 by omega]
    simp [List.getElem?_append_right]
  · intro a n c' e
    simp only [Value.slice.injEq] at e
    have e1 := e.1
    split at e1
    · cases e1; exact hg
    · split at e1 <;> (cases e1; exact hg)

/-- A handshake message on the wire. -/
def msg (m : Int × List Int) : List Int := m.1 :: 0 :: 0 :: (m.2.length : Int) :: m.2
def msgsE (ms : List (Int × List Int)) : List Int := ms.flatMap msg
theorem msgsE_cons (m : Int × List Int) (ms : List (Int × List Int)) : msgsE (m :: ms) = m.1 :: 0 :: 0 :: (m.2.length : Int) :: (m.2 ++ msgsE ms) := by simp [msgsE, msg]

theorem byt_msgs_drop {ms : List (Int × List Int)} (h : Byt (msgsE ms)) (m : Nat) : Byt (msgsE (ms.drop m)) := by
  intro x hx
  refine h x ?_
  simp only [msgsE, List.mem_flatMap] at hx ⊢
  obtain ⟨y, hy, hxy⟩ := hx
  exact ⟨y, List.mem_of_mem_drop hy, hxy⟩

/-- The messages that have been split off lie in the array I. -/
def Msg (w : World) (I : Nat) (ms : List (Int × List Int)) (m : Nat) : Prop :=
  (∀ j, j < 3 → ∃ z a n c a' n' c', w.cell? ⟨I, j * 3, none⟩ = some (.int .u8 z) ∧ w.cell? ⟨I, j * 3 + 1, none⟩ = some (.slice a n c) ∧ w.cell? ⟨I, j * 3 + 2, none⟩ = some (.slice a' n' c')) ∧
  (∀ j, w.frozen? ⟨I, j, none⟩ = false) ∧ ∀ j, j < m → w.cell? ⟨I, j * 3, none⟩ = some (.int .u8 (ms.getD j (0, [])).1)

/-- The splitting loop. -/
def Spl (w wr : World) (N I : Nat) (ms : List (Int × List Int)) (m : Nat) (a : Option Addr) (c : Nat) : Prop :=
  m ≤ ms.length ∧ Rdr wr N (.slice a (msgsE (ms.drop m)).length c) (msgsE (ms.drop m)) ∧ Off I (.slice a (msgsE (ms.drop m)).length c) ∧ Msg wr I ms m ∧ w.grownBy wr (some I) ∧ I < N ∧ N = w.heap.size

theorem spl_step {w wr : World} {N I : Nat} {ms : List (Int × List Int)} {m : Nat} {a : Option Addr} {c : Nat} (h : Spl w wr N I ms m a c) (hm : m < ms.length) (h3 : ms.length ≤ 3) {t : Int} {b R : List Int} (hms : ms[m] = (t, b)) (hR : msgsE (ms.drop (m + 1)) = R)
    {v2 : Value} {a4 : Option Addr} {c4 : Nat} (b4 : Bts (wr.setCell ⟨N, 0, none⟩ v2) (.slice a4 R.length c4) R) (o4 : Off I (.slice a4 R.length c4)) (hv2 : ∀ z, v2 ≠ .int .u8 z) {a5 a6 : Option Addr} {n5 c5 n6 c6 : Nat} (ob : Obj) :
    Spl w ((((((wr.setCell ⟨N, 0, none⟩ v2).setCell ⟨N, 0, none⟩ (.slice a4 R.length c4)).setCell ⟨I, m * 3, none⟩ (.int .u8 t)).setCell ⟨I, m * 3 + 1, none⟩ (.slice a5 n5 c5)).setCell ⟨I, m * 3 + 2, none⟩ (.slice a6 n6 c6)).alloc ob) N I ms (m + 1) a4 c4 := by
  obtain ⟨_, hRd, _, hM, hg, hIN, hN⟩ := h
  subst hR
  have lt := hRd.lt
  have cN1 : (wr.setCell ⟨N, 0, none⟩ v2).cell? ⟨N, 0, none⟩ = some v2 := World.cell?_setCell_same _ _ _ hRd.1
  obtain ⟨w5, hw5⟩ : ∃ w5, w5 = ((((wr.setCell ⟨N, 0, none⟩ v2).setCell ⟨N, 0, none⟩ (.slice a4 (msgsE (ms.drop (m + 1))).length c4)).setCell ⟨I, m * 3, none⟩ (.int .u8 t)).setCell ⟨I, m * 3 + 1, none⟩ (.slice a5 n5 c5)).setCell ⟨I, m * 3 + 2, none⟩ (.slice a6 n6 c6) := ⟨_, rfl⟩
  have nI : ∀ j i, (⟨I, j, none⟩ : Addr) ≠ ⟨N, i, none⟩ := fun j i e => by have := congrArg Addr.block e; simp at this; omega
  have nN : ∀ j i, (⟨N, j, none⟩ : Addr) ≠ ⟨I, i, none⟩ := fun j i e => (nI i j) e.symm
  have nO : ∀ {i j}, i ≠ j → (⟨I, i, none⟩ : Addr) ≠ ⟨I, j, none⟩ := fun hij e => hij (congrArg Addr.off e)
  -- the cells of the array behind the five stores
  obtain ⟨z, q1, q2, q3, q4, q5, q6, k0, k1, k2⟩ := hM.1 m (by omega)
  have cI : ∀ j, j ≠ m * 3 → j ≠ m * 3 + 1 → j ≠ m * 3 + 2 → w5.cell? ⟨I, j, none⟩ = wr.cell? ⟨I, j, none⟩ := fun j h0 h1 h2 => by
    rw [hw5, World.cell?_setCell_other _ _ _ _ (nO (Ne.symm h2)), World.cell?_setCell_other _ _ _ _ (nO (Ne.symm h1)), World.cell?_setCell_other _ _ _ _ (nO (Ne.symm h0)), World.cell?_setCell_other _ _ _ _ (nN _ _), World.cell?_setCell_other _ _ _ _ (nN _ _)]
  have d0 : ((wr.setCell ⟨N, 0, none⟩ v2).setCell ⟨N, 0, none⟩ (.slice a4 (msgsE (ms.drop (m + 1))).length c4)).cell? ⟨I, m * 3, none⟩ = some (.int .u8 z) := by
    rw [World.cell?_setCell_other _ _ _ _ (nN _ _), World.cell?_setCell_other _ _ _ _ (nN _ _)]; exact k0
  have d1 : (((wr.setCell ⟨N, 0, none⟩ v2).setCell ⟨N, 0, none⟩ (.slice a4 (msgsE (ms.drop (m + 1))).length c4)).setCell ⟨I, m * 3, none⟩ (.int .u8 t)).cell? ⟨I, m * 3 + 1, none⟩ = some (.slice q1 q2 q3) := by
    rw [World.cell?_setCell_other _ _ _ _ (nO (by omega)), World.cell?_setCell_other _ _ _ _ (nN _ _), World.cell?_setCell_other _ _ _ _ (nN _ _)]; exact k1
  have d2 : ((((wr.setCell ⟨N, 0, none⟩ v2).setCell ⟨N, 0, none⟩ (.slice a4 (msgsE (ms.drop (m + 1))).length c4)).setCell ⟨I, m * 3, none⟩ (.int .u8 t)).setCell ⟨I, m * 3 + 1, none⟩ (.slice a5 n5 c5)).cell? ⟨I, m * 3 + 2, none⟩ = some (.slice q4 q5 q6) := by
    rw [World.cell?_setCell_other _ _ _ _ (nO (by omega)), World.cell?_setCell_other _ _ _ _ (nO (by omega)), World.cell?_setCell_other _ _ _ _ (nN _ _), World.cell?_setCell_other _ _ _ _ (nN _ _)]; exact k2
  have e0 : w5.cell? ⟨I, m * 3, none⟩ = some (.int .u8 t) := by
    rw [hw5, World.cell?_setCell_other _ _ _ _ (nO (by omega)), World.cell?_setCell_other _ _ _ _ (nO (by omega))]; exact World.cell?_setCell_same _ _ _ d0
  have e1 : w5.cell? ⟨I, m * 3 + 1, none⟩ = some (.slice a5 n5 c5) := by
    rw [hw5, World.cell?_setCell_other _ _ _ _ (nO (by omega))]; exact World.cell?_setCell_same _ _ _ d1
  have e2 : w5.cell? ⟨I, m * 3 + 2, none⟩ = some (.slice a6 n6 c6) := by
    rw [hw5]; exact World.cell?_setCell_same _ _ _ d2
  have fz : ∀ p, w5.frozen? p = wr.frozen? p := fun p => by rw [hw5]; simp only [World.frozen?_setCell]
  have sz : w5.heap.size = wr.heap.size := by rw [hw5]; simp
  -- the reader
  have r5 : Rdr w5 N (.slice a4 (msgsE (ms.drop (m + 1))).length c4) (msgsE (ms.drop (m + 1))) := by
    refine ⟨?_, by rw [fz]; exact hRd.2.1, ?_⟩
    · rw [hw5, World.cell?_setCell_other _ _ _ _ (nI _ _), World.cell?_setCell_other _ _ _ _ (nI _ _), World.cell?_setCell_other _ _ _ _ (nI _ _)]
      exact World.cell?_setCell_same _ _ _ cN1
    · rw [hw5]
      exact (((b4.setCell cN1 hv2 _).offSet o4 _ _).offSet o4 _ _).offSet o4 _ _
  have hb : Below w5.heap.size w5 (w5.alloc ob) := (Below.refl _ _).alloc (Nat.le_refl _) ob
  have cA : ∀ j, (w5.alloc ob).cell? ⟨I, j, none⟩ = w5.cell? ⟨I, j, none⟩ := fun j => hb.cell (p := ⟨I, j, none⟩) (by show I < _; omega)
  rw [← hw5]
  refine ⟨by omega, r5.below hb, o4, ⟨fun j hj => ?_, fun j => ?_, fun j hj => ?_⟩, ?_, hIN, hN⟩
  · by_cases e : j = m
    · subst e; exact ⟨t, _, _, _, _, _, _, (cA _).trans e0, (cA _).trans e1, (cA _).trans e2⟩
    · obtain ⟨z', p1, p2, p3, p4, p5, p6, g0, g1, g2⟩ := hM.1 j hj
      exact ⟨z', p1, p2, p3, p4, p5, p6, (cA _).trans ((cI _ (by omega) (by omega) (by omega)).trans g0), (cA _).trans ((cI _ (by omega) (by omega) (by omega)).trans g1), (cA _).trans ((cI _ (by omega) (by omega) (by omega)).trans g2)⟩
  · rw [hb.frozen (p := ⟨I, j, none⟩) (by show I < _; omega), fz]; exact hM.2.1 j
  · by_cases e : j = m
    · subst e
      rw [cA, e0, List.getD_eq_getElem?_getD, List.getElem?_eq_getElem hm, hms]
      rfl
    · exact (cA _).trans ((cI _ (by omega) (by omega) (by omega)).trans (hM.2.2 j (by omega)))
  · have ga := World.grownBy_alloc w5 ob none
    have g1 := grownBy_setCell wr ⟨N, 0, none⟩ v2
    have g2 := grownBy_setCell (wr.setCell ⟨N, 0, none⟩ v2) ⟨N, 0, none⟩ (.slice a4 (msgsE (ms.drop (m + 1))).length c4)
    have g3 := grownBy_setCell ((wr.setCell ⟨N, 0, none⟩ v2).setCell ⟨N, 0, none⟩ (.slice a4 (msgsE (ms.drop (m + 1))).length c4)) ⟨I, m * 3, none⟩ (.int .u8 t)
    have g4 := grownBy_setCell (((wr.setCell ⟨N, 0, none⟩ v2).setCell ⟨N, 0, none⟩ (.slice a4 (msgsE (ms.drop (m + 1))).length c4)).setCell ⟨I, m * 3, none⟩ (.int .u8 t)) ⟨I, m * 3 + 1, none⟩ (.slice a5 n5 c5)
    have g5 := grownBy_setCell ((((wr.setCell ⟨N, 0, none⟩ v2).setCell ⟨N, 0, none⟩ (.slice a4 (msgsE (ms.drop (m + 1))).length c4)).setCell ⟨I, m * 3, none⟩ (.int .u8 t)).setCell ⟨I, m * 3 + 1, none⟩ (.slice a5 n5 c5)) ⟨I, m * 3 + 2, none⟩ (.slice a6 n6 c6)
    rw [← hw5] at g5
    refine ⟨ga.os.trans (g5.os.trans (g4.os.trans (g3.os.trans (g2.os.trans (g1.os.trans hg.os))))), ga.tape.trans (g5.tape.trans (g4.tape.trans (g3.tape.trans (g2.tape.trans (g1.tape.trans hg.tape))))), ga.output.trans (g5.output.trans (g4.output.trans (g3.output.trans (g2.output.trans (g1.output.trans hg.output))))), ?_, fun k hk hne => ?_⟩
    · have := hg.size; simp; omega
    · rw [hb.block k (by have := hg.size; omega), hw5]
      have hkI : k ≠ I := fun e => hne (by rw [e])
      have hkN : k ≠ N := by omega
      rw [Below.heap_setCell _ _ _ _ hkI, Below.heap_setCell _ _ _ _ hkI, Below.heap_setCell _ _ _ _ hkI, Below.heap_setCell _ _ _ _ hkN, Below.heap_setCell _ _ _ _ hkN]
      exact hg.block k hk hne

set_option maxHeartbeats 1000000 in
theorem sm_ok (w : World) (a : Option Addr) (c I : Nat) (ms : List (Int × List Int)) (hbd : Byt (msgsE ms)) (hms : ms.length ≤ 3) (hms0 : 1 ≤ ms.length) (hb : Bts w (.slice a (msgsE ms).length c) (msgsE ms)) (hO : Off I (.slice a (msgsE ms).length c)) (hI : I < w.heap.size) (hM : Msg w I ms 0) :
    Calls Ybaf.prog 6 #[.slice a (msgsE ms).length c, .pointer (some ⟨I, 0, none⟩)] w fun e w' => e = .returned (.tuple #[.slice (some ⟨I, 0, none⟩) ms.length 3, .nilIface]) ∧ Msg w' I ms ms.length ∧ w.grownBy w' (some I) := by
  go_enter Ybaf.func6, Ybaf.ntmps6
  go_wp2_with fail
  go_loopw [6] (fun t6 wr => ∃ m a c, Spl w wr w.heap.size I ms m a c ∧ t6 = .slice (some ⟨I, 0, none⟩) m 3) (fun t6 _ => ms.length - (match t6 with | .slice _ n _ => n | _ => 0))
  case atStart =>
    have hb1 : Below w.heap.size w (w.alloc (.cells #[.slice a (msgsE ms).length c] 24)) := (Below.refl _ _).alloc (Nat.le_refl _) _
    have cA : ∀ j, (w.alloc (.cells #[.slice a (msgsE ms).length c] 24)).cell? ⟨I, j, none⟩ = w.cell? ⟨I, j, none⟩ := fun j => hb1.cell (p := ⟨I, j, none⟩) hI
    refine ⟨0, a, c, ⟨Nat.zero_le _, ?_, ?_, ⟨fun j hj => ?_, fun j => ?_, fun j hj => absurd hj (by omega)⟩, World.grownBy_alloc w _ _, hI, rfl⟩, rfl⟩
    · rw [List.drop_zero]; exact Rdr.new w hb
    · rw [List.drop_zero]; exact hO
    · simp only [cA]; exact hM.1 j hj
    · rw [hb1.frozen (p := ⟨I, j, none⟩) hI]; exact hM.2.1 j
  case round =>
    obtain ⟨m, ar, cr, hspl, rfl⟩ := hrel
    have hspl' := hspl
    obtain ⟨hm, hR, hOff, hMsg, hgr, hIN, _⟩ := hspl
    have g0 := hR.1
    by_cases hmk : m < ms.length
    · obtain ⟨t, b, hms⟩ : ∃ t b, ms[m] = (t, b) := ⟨_, _, rfl⟩
      obtain ⟨R, hR0⟩ : ∃ R, msgsE (ms.drop (m + 1)) = R := ⟨_, rfl⟩
      obtain ⟨Y, hY⟩ : ∃ Y, Y = 0 :: 0 :: (b.length : Int) :: (b ++ R) := ⟨_, rfl⟩
      obtain ⟨X, hX0⟩ : ∃ X, msgsE (ms.drop m) = X := ⟨_, rfl⟩
      have hX : X = t :: Y := by rw [← hX0, List.drop_eq_getElem_cons hmk, hms, msgsE_cons, hY, hR0]
      have hbdX : Byt X := by rw [← hX0]; exact byt_msgs_drop hbd m
      have hbdY : Byt Y := by rw [hX] at hbdX; exact fun x hx => hbdX x (List.mem_cons_of_mem _ hx)
      have hl1 : X.length = Y.length + 1 := by rw [hX]; simp
      have hl2 : Y.length = b.length + R.length + 3 := by rw [hY]; simp
      have l1 : R.length + 4 ≤ X.length := by omega
      have l2 : 0 < X.length := by omega
      have HL : Hid (X.length = b.length + R.length + 4) := by show _ = _; omega
      rw [hX0] at hR g0 hOff
      have HMS : Hid (ms[m] = (t, b)) := hms
      have HR0 : Hid (msgsE (ms.drop (m + 1)) = R) := hR0
      have HX : Hid (X = t :: Y) := hX
      have HY : Hid (Y = 0 :: 0 :: (b.length : Int) :: (b ++ R)) := hY
      clear hms hR0 hX hX0 hY hl1 hl2
      obtain ⟨hr1, hr2, hr3⟩ := hMsg
      obtain ⟨z, a5, n5, c5, a6, n6, c6, k0, k1, k2⟩ := hr1 m (by omega)
      have f0 := hr2 (m * 3)
      have f1 := hr2 (m * 3 + 1)
      have f2 := hr2 (m * 3 + 2)
      clear hr1 hr2 hr3
      have hm3 : ((m : Int) == 3) = false := by rw [beq_eq_false_iff_ne]; omega
      have hR' := hR.2.2
      obtain ⟨a', c', e', hLc, hcm, hcell⟩ := hR'
      obtain ⟨g, o, ha, _⟩ := hcell (by intro e; rw [e] at l2; simp at l2)
      have ear : ar = some ⟨g, o, none⟩ := by simp only [Value.slice.injEq] at e'; rw [e'.1, ha]
      have ecr : cr = c' := by simp only [Value.slice.injEq] at e'; exact e'.2.2
      clear e' hcell ha
      subst ecr
      subst ear
      unfold maxLen at hcm
      have hne : I ≠ w.heap.size := by omega
      have hNw : w.heap.size < wr.heap.size := hR.lt
      have hIw : I < wr.heap.size := by omega
      go_wp2_with fail
      refine (ru_ok w.heap.size _ _ t Y X HX.out hR I hOff).mono ?_
      rintro e w2 ⟨a2, c2, rfl, rfl, b2, o2⟩
      go_wp2_with fail
      refine (rv3_ok w.heap.size _ _ b R Y HY.out hbdY (hR.same (by simp) b2) I o2).mono ?_
      rintro e w2 ⟨a3, c3, a4, c4, rfl, rfl, b4, o4⟩
      have fN := hR.2.1
      go_wp2_with fail
      go_roundw
      case rel => exact ⟨m + 1, a4, c4, by rw [← HR0.out] at b4 o4 ⊢; exact spl_step hspl' hmk hms HMS.out rfl b4 o4 (by simp) _, rfl⟩
      case measure => simp; omega
    · have hmm : m = ms.length := by omega
      subst hmm
      rw [List.drop_of_length_le (Nat.le_refl _)] at g0
      have g1 : wr.cell? ⟨w.heap.size, 0, none⟩ = some (.slice ar 0 cr) := g0
      have hm0 : ((ms.length : Int) == 0) = false := by rw [beq_eq_false_iff_ne]; omega
      clear g0 hR hOff
      go_wp2
      go_ret2
      exact ⟨rfl, hMsg, hgr⟩

/-- splitMessages at no byte: an error of errors.New's. -/
theorem sm_empty (w : World) (a : Option Addr) (c I : Nat) :
    Calls Ybaf.prog 6 #[.slice a 0 c, .pointer (some ⟨I, 0, none⟩)] w fun e w' => ∃ g, e = .returned (.tuple #[.slice none 0 0, .iface 54 (.pointer (some g))]) ∧ Below w.heap.size w w' := by
  go_enter Ybaf.func6, Ybaf.ntmps6
  go_wp2
  refine wp_loop_rounds 1 ?_
  rw [rounds_succ]
  go_wp2
  go_ret2
  exact ⟨_, rfl, ((Below.refl _ _).alloc (Nat.le_refl _) _).alloc (by simp) _⟩

theorem info23 : (Ybaf.prog.info? 23).map (fun i => (i.zero, i.size, i.bytes)) = some (some (.int .u8 0), 1, 1) := by kernel_rfl
/-- What a round of messageTypes does to the row that the call made. -/
theorem mt_step (B n k : Nat) (w wr : World) (xs : List Value) (F : Nat → Int) (o : Obj) (hB : B = w.heap.size) (hkn : k < n)
    (hxs : wr.ownsRow B 23 1 (.slice (some ⟨B, 0, none⟩) n n) n xs) (hF : ∀ j, j < k → xs[j]? = some (.int .u8 (F j))) (hbel : Below B w wr) (hlt : B < wr.heap.size) :
    (∃ ys, ((wr.setCell ⟨B, k, none⟩ (.int .u8 (F k))).alloc o).ownsRow B 23 1 (.slice (some ⟨B, 0, none⟩) n n) n ys ∧ ∀ j, j < k + 1 → ys[j]? = some (.int .u8 (F j))) ∧
    Below B w ((wr.setCell ⟨B, k, none⟩ (.int .u8 (F k))).alloc o) ∧ B < ((wr.setCell ⟨B, k, none⟩ (.int .u8 (F k))).alloc o).heap.size := by
  have hlen : xs.length = n := by have := hxs.1; simpa using this
  refine ⟨⟨xs.set k (.int .u8 (F k)), (hxs.stored k _).1.alloc o, ?_⟩, (hbel.setCell (by simp) _).alloc (by simp; omega) o, by simp; omega⟩
  intro j hj
  by_cases e : j = k
  · subst e; simp [hlen, hkn]
  · rw [List.getElem?_set_ne (by omega)]; exact hF j (by omega)

theorem mt_any (g n cap : Nat) (w : World) (F : Nat → Int) (hn : n ≤ 4096)
    (hc : ∀ j, j < n → ∃ x l c y l' c', w.cell? ⟨g, j * 3, none⟩ = some (.int .u8 (F j)) ∧ w.cell? ⟨g, j * 3 + 1, none⟩ = some (.slice x l c) ∧ w.cell? ⟨g, j * 3 + 2, none⟩ = some (.slice y l' c')) :
    Calls Ybaf.prog 7 #[.slice (some ⟨g, 0, none⟩) n cap] w fun e w' => e = .returned (.slice (some ⟨w.heap.size, 0, none⟩) n n) ∧
      (∀ j, j < n → w'.cell? ⟨w.heap.size, j, none⟩ = some (.int .u8 (F j))) ∧ Below w.heap.size w w' := by
  obtain ⟨i, hi, hz, hs, hb⟩ := info_parts info23
  go_enter Ybaf.func7, Ybaf.ntmps7
  go_wp2_with (at_make; refine wpList_make_full _ rfl _ _ _ rfl w.heap.size 23 i _ 1 Ybaf.underlying34 hi hz hs _ _ _ _ n rfl rfl rfl rfl (by rw [hb]; omega) (by unfold maxLen; omega) (Nat.le_refl _) ?_; intro w1 hown hgr)
  have hb1 : Below w.heap.size w w1 := (Below.refl _ _).grown hgr (Nat.le_refl _) (by intro k h; cases h)
  have hz1 : w.heap.size < w1.heap.size := (hown.lt w.heap.size rfl).2
  go_loopw [11] (fun i wr => ∃ k : Nat, k ≤ n ∧ i = .int .i64 k ∧ (∃ xs, wr.ownsRow w.heap.size 23 1 (.slice (some ⟨w.heap.size, 0, none⟩) n n) n xs ∧ ∀ j, j < k → xs[j]? = some (.int .u8 (F j))) ∧ Below w.heap.size w wr ∧ w.heap.size < wr.heap.size) (fun i _ => n - (intOf i).toNat)
  case atStart => exact ⟨0, Nat.zero_le _, rfl, ⟨_, hown, by intro j hj; omega⟩, hb1, hz1⟩
  case round =>
    obtain ⟨k, hk, rfl, ⟨xs, hxs, hF⟩, hbel, hlt⟩ := hrel
    by_cases hkn : k < n
    · obtain ⟨x, l, c, y, l', c', e0, e1, e2⟩ := hc k hkn
      have hg : g < w.heap.size := World.block_lt_of_cell? w _ e0
      have g0 : wr.cell? ⟨g, k * 3, none⟩ = some (.int .u8 (F k)) := (hbel.cell (p := ⟨g, k * 3, none⟩) hg).trans e0
      have g1 : wr.cell? ⟨g, k * 3 + 1, none⟩ = some (.slice x l c) := (hbel.cell (p := ⟨g, k * 3 + 1, none⟩) hg).trans e1
      have g2 : wr.cell? ⟨g, k * 3 + 2, none⟩ = some (.slice y l' c') := (hbel.cell (p := ⟨g, k * 3 + 2, none⟩) hg).trans e2
      have hlen : xs.length = n := by have := hxs.1; simpa using this
      have s0 : wr.cell? ⟨w.heap.size, k, none⟩ = some xs[k] := by rw [hxs.cellAt k (by omega)]; simp [hlen, hkn]
      have s1 := hxs.frozenAt k
      have HF : Hid (∀ j, j < k → xs[j]? = some (.int .u8 (F j))) := hF
      clear e0 e1 e2 hc hown hgr hb1 hF
      go_wp2
      go_roundw
      case rel =>
        obtain ⟨r1, r2, r3⟩ := mt_step w.heap.size n k w wr xs F (.cells #[.int .u8 (F k), .slice x l c, .slice y l' c'] 26) rfl hkn hxs HF.out hbel hlt
        exact ⟨k + 1, by omega, by go_num, r1, r2, r3⟩
      case measure => simp [intOf]; omega
    · go_wp2
      go_ret
      have : k = n := by omega
      subst this
      refine ⟨rfl, ?_, hbel⟩
      intro j hj
      rw [hxs.cellAt j (by omega)]; exact hF j hj

end Go.Proofs.YbulkawwsFmt
