/-
  parseSCTList, walked where it fails: nil and an error, at whatever does not parse.
-/
import Derived.Test.YbulkawwsFmtErrorf
import Derived.Test.YbulkawwsFmtBuild
import Derived.Stop.IfaceNil
import Derived.WalkSpells
import Derived.WalkLawsBesides
import Derived.BigQuiet
import Derived.Deep.QuietTactic
namespace Go.Proofs.YbulkawwsFmt
open Go.RowKit

/-- The sentinel stands: the variable holds the pointer, the block its text. -/
def Sent (w : World) (a1 : Addr) (s1 : ByteArray) : Prop := w.cell? ⟨0, 0, none⟩ = some (.iface 54 (.pointer (some a1))) ∧ w.cell? a1 = some (.string s1)
theorem Sent.below {w w' : World} {a1 : Addr} {s1 : ByteArray} {B : Nat} (h : Sent w a1 s1) (hb : Below B w w') (hB : B = w.heap.size) : Sent w' a1 s1 := by
  subst hB
  exact ⟨(hb.cell (World.block_lt_of_cell? w _ h.1)).trans h.1, (hb.cell (World.block_lt_of_cell? w _ h.2)).trans h.2⟩
theorem Sent.drewN {w : World} {a1 : Addr} {s1 : ByteArray} (h : Sent w a1 s1) (n : Nat) : Sent (w.drewN n) a1 s1 := h

theorem new_cell (w : World) (N : Nat) (cs : Array Value) (t : TypeId) (j : Nat) (u : Value) (hN : N = w.heap.size) (h : cs[j]? = some u) : (w.alloc (.cells cs t)).cell? ⟨N, j, none⟩ = some u := by
  subst hN
  simp [h]

theorem rv2_fail (p : Nat) (w : World) (v : Value) (bs : List Int) (a1 : Addr) (hbd : Byt bs) (hr : rv2 bs = none) (hg : w.cell? ⟨0, 0, none⟩ = some (.iface 54 (.pointer (some a1)))) (hv : w.cell? ⟨p, 0, none⟩ = some v) (hb : Bts w v bs) :
    Calls Ybaf.prog 13 #[.pointer (some ⟨p, 0, none⟩), .int .i64 2] w fun e w' => e = .returned (.tuple #[.slice none 0 0, .iface 54 (.pointer (some a1))]) ∧ ∃ q, w' = w.drewN q := by
  unfold rv2 at hr
  split at hr
  · cases hr
  · rename_i hc
    by_cases h2 : 2 ≤ bs.length
    · have hbe := be_le2 hbd 2 h2 (by omega)
      exact rv_cut p w v bs 2 2 a1 rfl (by omega) (by omega) hbd h2 hg hv hb (be (bs.take 2)).toNat (by omega) (by omega)
    · exact rv_short p w v bs 2 2 a1 rfl (by omega) hg hv hb

/-- parseSCTList where the outer vector cannot be read. -/
theorem ps_cut (w : World) (v : Value) (bs : List Int) (a1 : Addr) (s1 : ByteArray) (hbd : Byt bs) (hb : Bts w v bs) (hS : Sent w a1 s1) (hr : rv2 bs = none) :
    Calls Ybaf.prog 9 #[v] w fun e w' => ∃ t g, e = .returned (.tuple #[.slice none 0 0, .iface t (.pointer (some g))]) ∧ Below w.heap.size w w' := by
  have hb' := hb
  obtain ⟨a, c, rfl, _, _, _⟩ := hb'
  have HR : Hid (rv2 bs = none) := hr
  have HS := show Hid (Sent w a1 s1) from hS
  have hS1 := hS.below ((Below.refl _ _).alloc (Nat.le_refl _) (.cells #[.slice a bs.length c] 24)) rfl
  clear hr hS
  have H1 := show Hid _ from hS1
  clear hS1
  go_enter Ybaf.func9, Ybaf.ntmps9
  go_wp2_with fail
  refine (rv2_fail w.heap.size _ _ bs a1 hbd HR.out (Hid.out H1).1 (by simp) (hb.alloc _)).mono ?_
  rintro e w2 ⟨rfl, q, rfl⟩
  go_wp2_with fail
  refine (errorf_A (w.heap.size + 1 + 1) _ a1 s1 (by go_simp) (HS.out.below (((below_draws ((Below.refl _ _).alloc (Nat.le_refl _) _) _).alloc (by simp) _).alloc (by simp; omega) _) rfl).2).mono ?_
  rintro e w3 ⟨t, g, rfl, hb3⟩
  go_wp2
  go_ret2
  exact ⟨t, g, rfl, (((below_draws ((Below.refl _ _).alloc (Nat.le_refl _) _) _).alloc (by simp) _).alloc (by simp; omega) _).trans (hb3.mono (by simp; omega))⟩

/-- parseSCTList where bytes are left behind the list. -/
theorem ps_more (w : World) (v : Value) (bs l r : List Int) (hbd : Byt bs) (hb : Bts w v bs) (hr : rv2 bs = some (l, r)) (hl : l ≠ []) (hr0 : r ≠ []) :
    Calls Ybaf.prog 9 #[v] w fun e w' => ∃ t g, e = .returned (.tuple #[.slice none 0 0, .iface t (.pointer (some g))]) ∧ Below w.heap.size w w' := by
  have hb' := hb
  obtain ⟨a, c, rfl, _, _, _⟩ := hb'
  have HR : Hid (rv2 bs = some (l, r)) := hr
  have hl0 : ((l.length : Int) == 0) = false := by
    rw [beq_eq_false_iff_ne]; intro e; apply hl; exact List.eq_nil_of_length_eq_zero (by omega)
  have hr1 : ((r.length : Int) == 0) = false := by
    rw [beq_eq_false_iff_ne]; intro e; apply hr0; exact List.eq_nil_of_length_eq_zero (by omega)
  have hr2 : ((r.length : Int) != 0) = true := by simp [bne, hr1]
  clear hr hl hr0
  go_enter Ybaf.func9, Ybaf.ntmps9
  go_wp2_with fail
  refine (rv2_ok w.heap.size _ _ bs l r hbd HR.out (by simp) (by simp) (hb.alloc _)).mono ?_
  rintro e w2 ⟨a1, c1, a2, c2, rfl, rfl, b1, b2⟩
  go_wp2_with fail
  refine (errorf_B (w.heap.size + 1 + 1) _ (r.length : Int) (by go_simp)).mono ?_
  rintro e w3 ⟨t, g, rfl, hb3⟩
  go_wp2
  go_ret2
  exact ⟨t, g, rfl, ((((Below.refl _ _).alloc (Nat.le_refl _) _).alloc (by simp) _).alloc (by simp; omega) _).trans (hb3.mono (by simp; omega))⟩

theorem sct_none {f : Nat} {bs : List Int} (h : sct f bs = none) (hf : bs.length ≤ f) : bs ≠ [] ∧ (rv2 bs = none ∨ (∃ r, rv2 bs = some ([], r)) ∨ ∃ x r f', rv2 bs = some (x, r) ∧ x ≠ [] ∧ sct f' r = none ∧ r.length ≤ f' ∧ f' + 1 = f) := by
  have hne : bs ≠ [] := by intro e; subst e; cases f <;> simp [sct] at h
  refine ⟨hne, ?_⟩
  cases f with
  | zero => exact absurd (List.eq_nil_of_length_eq_zero (by omega)) hne
  | succ f =>
    unfold sct at h
    rw [if_neg hne] at h
    split at h
    · rename_i e; exact .inl e
    · rename_i x r e
      split at h
      · rename_i hx; subst hx; exact .inr (.inl ⟨r, e⟩)
      · rename_i hx
        have := rv2_len e
        refine .inr (.inr ⟨x, r, f, e, hx, ?_, by omega, rfl⟩)
        cases hs : sct f r with
        | none => rfl
        | some ys => rw [hs] at h; cases h

/-- The counting loop, where it will fail. -/
def CntF (N : Nat) (w wr : World) (L k p : Nat) (a : Option Addr) (r : List Int) (c f : Nat) : Prop :=
  k + r.length ≤ L ∧ N + 1 < p ∧ Rdr wr p (.slice a r.length c) r ∧ Byt r ∧ sct f r = none ∧ r.length ≤ f ∧ Below N w wr

theorem cntF_step {N : Nat} {w wr : World} {L k p : Nat} {a : Option Addr} {r : List Int} {c f : Nat} (h : CntF N w wr L k p a r c f)
    {x r' : List Int} {f' : Nat} (hr : rv2 r = some (x, r')) (hx : x ≠ []) (hs : sct f' r' = none) (hf : r'.length ≤ f') {a2 : Option Addr} {c2 : Nat} (h2 : Bts wr (.slice a2 r'.length c2) r') :
    CntF N w ((wr.setCell ⟨p, 0, none⟩ (.slice a2 r'.length c2)).alloc (.cells #[.slice a2 r'.length c2] 24)) L (k + 1) wr.heap.size a2 r' c2 f' := by
  obtain ⟨h1, hp, hR, hB, _, _, hb⟩ := h
  have hN := hR.lt
  have hl := rv2_len hr
  have hxl := List.length_pos_iff.2 hx
  have hsc : Bts (wr.setCell ⟨p, 0, none⟩ (.slice a2 r'.length c2)) (.slice a2 r'.length c2) r' := h2.setCell hR.1 (by simp) _
  have hnew := Rdr.new (wr.setCell ⟨p, 0, none⟩ (.slice a2 r'.length c2)) hsc
  refine ⟨by omega, by omega, ?_, (rv2_byt hB hr).2, hs, hf, (hb.setCell (by show N ≤ p; omega) _).alloc (by simp; omega) _⟩
  simpa using hnew

set_option maxHeartbeats 800000 in
/-- parseSCTList where an item is cut off or empty. -/
theorem ps_item (w : World) (v : Value) (bs l : List Int) (sa : Addr) (s1 : ByteArray) (hbd : Byt bs) (hb : Bts w v bs) (hS : Sent w sa s1) (hr : rv2 bs = some (l, [])) (hl : l ≠ []) (hs : sct l.length l = none) :
    Calls Ybaf.prog 9 #[v] w fun e w' => ∃ t g, e = .returned (.tuple #[.slice none 0 0, .iface t (.pointer (some g))]) ∧ Below w.heap.size w w' := by
  have hbl := (rv2_byt hbd hr).1
  have hll : l.length ≤ 65535 := by
    obtain ⟨h2, h3, hl', hr'⟩ := rv2_some hr
    have hbe := be_le2 hbd 2 h2 (by omega)
    rw [hl']; simp; omega
  have hl0 : ((l.length : Int) == 0) = false := by
    rw [beq_eq_false_iff_ne]; intro e; apply hl; exact List.eq_nil_of_length_eq_zero (by omega)
  have hb' := hb
  obtain ⟨a, c, rfl, _, _, _⟩ := hb'
  have HS : Hid (sct l.length l = none) := hs
  have HSE : Hid (Sent w sa s1) := hS
  have HR : Hid (rv2 bs = some (l, [])) := hr
  clear hs hl hr hS
  go_enter Ybaf.func9, Ybaf.ntmps9
  go_wp2_with fail
  refine (rv2_ok w.heap.size _ _ bs l [] hbd HR.out (by simp) (by simp) (hb.alloc _)).mono ?_
  rintro e w2 ⟨a1, c1, a2, c2, rfl, rfl, b1, b2⟩
  go_wp2_with fail
  go_loopw [6, 7] (fun t6 t7 wr => ∃ k p a r c f, CntF w.heap.size w wr l.length k p a r c f ∧ t6 = .int .i64 (k : Nat) ∧ t7 = .pointer (some ⟨p, 0, none⟩)) (fun t6 _ _ => 65536 - (intOf t6).toNat)
  case atStart =>
    refine ⟨0, w.heap.size + 1 + 1, a1, l, c1, l.length, ?_, rfl, rfl⟩
    have k1 : Bts (w.alloc (.cells #[.slice a2 0 c2] 24)) (.slice a1 l.length c1) l := by
      have := b1.setCell (p := ⟨w.heap.size, 0, none⟩) (u := .slice a bs.length c) (by simp) (by simp) (.slice a2 0 c2)
      rw [World.setCell_alloc_at _ _ _ _ _ rfl] at this
      simpa using this
    have r3 := Rdr.new _ (k1.alloc (.cells #[.slice a1 l.length c1] 24))
    simp only [World.size_alloc] at r3
    exact ⟨by omega, by omega, r3, hbl, HS.out, Nat.le_refl _, (((Below.refl _ _).alloc (Nat.le_refl _) _).alloc (by simp) _).alloc (by simp; omega) _⟩
  case round =>
    clear b1 b2 hb
    obtain ⟨k, p, ar, r, cr, f, hcnt, rfl, rfl⟩ := hrel
    have hcnt' := hcnt
    obtain ⟨hk, hp, hR, hB, hsc, hrf, hbel⟩ := hcnt
    obtain ⟨hrne, hcase⟩ := sct_none hsc hrf
    clear hsc
    have g0 := hR.1
    have hr0 : (0 : Int) < r.length := by have := List.length_pos_iff.2 hrne; omega
    have hk2 : k ≤ 65535 := by omega
    have hplt := hR.lt
    have HSE2 : Hid (Sent wr sa s1) := HSE.out.below hbel rfl
    rcases hcase with hn | ⟨r', hn⟩ | ⟨x, r', f', hn, hx, hs2, hf2, _⟩
    · have HN : Hid (rv2 r = none) := hn
      clear hn hrne
      go_wp2_with fail
      refine (rv2_fail p _ _ r sa hB HN.out HSE2.out.1 hR.1 hR.2.2).mono ?_
      rintro e w2 ⟨rfl, q, rfl⟩
      go_wp2_with fail
      refine (errorf_C wr.heap.size _ (k : Int) sa s1 (by exact new_cell _ _ _ _ _ _ rfl rfl) (by exact new_cell _ _ _ _ _ _ rfl rfl) ((HSE2.out.drewN q).below ((Below.refl _ _).alloc (Nat.le_refl _) _) rfl).2).mono ?_
      rintro e w3 ⟨t, g, rfl, hb3⟩
      go_wp2
      go_ret2
      exact ⟨t, g, rfl, ((below_draws hbel q).alloc (by simp; omega) _).trans (hb3.mono (by simp; omega))⟩
    · have HN : Hid (rv2 r = some ([], r')) := hn
      clear hn hrne
      have fz := hR.2.1
      go_wp2_with fail
      refine (rv2_ok p _ _ r [] r' hB HN.out hR.1 hR.2.1 hR.2.2).mono ?_
      rintro e w2 ⟨a3, c3, a4, c4, rfl, rfl, b3, b4⟩
      go_wp2_with fail
      refine (errorf_D wr.heap.size _ (k : Int) (by go_simp)).mono ?_
      rintro e w3 ⟨t, g, rfl, hb3⟩
      go_wp2
      go_ret2
      exact ⟨t, g, rfl, ((hbel.setCell (by show w.heap.size ≤ p; omega) _).alloc (by simp; omega) _).trans (hb3.mono (by simp; omega))⟩
    · have hx0 : ((x.length : Int) == 0) = false := by rw [beq_eq_false_iff_ne]; intro e; apply hx; exact List.eq_nil_of_length_eq_zero (by omega)
      have HN : Hid (rv2 r = some (x, r')) := hn
      have HX : Hid (x ≠ []) := hx
      have HS2 : Hid (sct f' r' = none) := hs2
      clear hn hrne hx hs2
      have fz := hR.2.1
      go_wp2_with fail
      refine (rv2_ok p _ _ r x r' hB HN.out hR.1 hR.2.1 hR.2.2).mono ?_
      rintro e w2 ⟨a3, c3, a4, c4, rfl, rfl, b3, b4⟩
      go_wp2_with fail
      go_roundw
      case rel => exact ⟨k + 1, _, _, _, _, _, cntF_step hcnt' HN.out HX.out HS2.out hf2 b4, by go_num, rfl⟩
      case measure => simp [intOf]; omega

/-- parseSCTList at whatever does not parse: nil and an error. -/
theorem ps_err (w : World) (v : Value) (bs : List Int) (sa : Addr) (s1 : ByteArray) (hbd : Byt bs) (hb : Bts w v bs) (hS : Sent w sa s1) (hp : parse bs = none) :
    Calls Ybaf.prog 9 #[v] w fun e w' => ∃ t g, e = .returned (.tuple #[.slice none 0 0, .iface t (.pointer (some g))]) ∧ Below w.heap.size w w' := by
  unfold parse at hp
  split at hp
  · rename_i hr; exact ps_cut w v bs sa s1 hbd hb hS hr
  · rename_i l r hr
    split at hp
    · rename_i hl
      subst hl
      exact (ps_empty w v bs r hbd hb hr).mono fun e w' ⟨g, he, hb⟩ => ⟨54, g, he, hb⟩
    · rename_i hl
      split at hp
      · rename_i hr0; subst hr0; exact ps_item w v bs l sa s1 hbd hb hS hr hl hp
      · rename_i hr0; exact ps_more w v bs l r hbd hb hr hl hr0
end Go.Proofs.YbulkawwsFmt
