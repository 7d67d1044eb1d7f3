/-
  parseSCTList, walked: where it gives the items; where the list is empty. bytes.Equal at equal bytes.
-/
import Derived.Test.YbulkawwsFmtRead
import Derived.Test.YbulkawwsFmtSct
import Derived.WalkSpells
import Derived.Laws.BytesArg
import Derived.WalkLawsBesides
import Derived.BigQuiet
import Derived.Deep.QuietTactic
namespace Go.Proofs.YbulkawwsFmt
open Go.RowKit
theorem info22 : (Ybaf.prog.info? 22).map (fun i => (i.zero, i.size, i.bytes)) = some (some (.slice none 0 0), 1, 24) := by kernel_rfl


theorem rv2_ok (p : Nat) (w : World) (v : Value) (bs x r : List Int) (hbd : Byt bs) (hr : rv2 bs = some (x, r)) (hv : w.cell? ⟨p, 0, none⟩ = some v) (hfr : w.frozen? ⟨p, 0, none⟩ = false) (hb : Bts w v bs) :
    Calls Ybaf.prog 13 #[.pointer (some ⟨p, 0, none⟩), .int .i64 2] w fun e w' => ∃ a1 c1 a2 c2, e = .returned (.tuple #[.slice a1 x.length c1, .nilIface]) ∧ w' = w.setCell ⟨p, 0, none⟩ (.slice a2 r.length c2) ∧
      Bts w (.slice a1 x.length c1) x ∧ Bts w (.slice a2 r.length c2) r := by
  obtain ⟨h2, h3, rfl, rfl⟩ := rv2_some hr
  have hbe := be_le2 hbd 2 h2 (by omega)
  refine (rv_ok p w v bs 2 2 rfl (by omega) (by omega) hbd h2 hv hfr hb (be (bs.take 2)).toNat (by omega) h3).mono ?_
  rintro e w' ⟨v1, v2, rfl, rfl, b1, b2⟩
  have k1 := b1
  have k2 := b2
  obtain ⟨a1, c1, e1, _⟩ := b1
  obtain ⟨a2, c2, e2, _⟩ := b2
  rw [e1] at k1 ⊢
  rw [e2] at k2 ⊢
  exact ⟨a1, c1, a2, c2, rfl, rfl, k1, k2⟩

theorem Bts.alloc {w : World} {v : Value} {bs : List Int} (h : Bts w v bs) (o : Obj) : Bts (w.alloc o) v bs := h.below ((Below.refl _ _).alloc (Nat.le_refl _) o)

/-- A variable of type reader in a block of its own: it holds the bytes. -/
def Rdr (w : World) (p : Nat) (v : Value) (bs : List Int) : Prop := w.cell? ⟨p, 0, none⟩ = some v ∧ w.frozen? ⟨p, 0, none⟩ = false ∧ Bts w v bs

theorem Rdr.lt {w : World} {p : Nat} {v : Value} {bs : List Int} (h : Rdr w p v bs) : p < w.heap.size := World.block_lt_of_cell? w _ h.1

theorem Rdr.below {w w' : World} {p : Nat} {v : Value} {bs : List Int} (h : Rdr w p v bs) (hb : Below w.heap.size w w') : Rdr w' p v bs :=
  ⟨(hb.cell (p := ⟨p, 0, none⟩) h.lt).trans h.1, (hb.frozen (p := ⟨p, 0, none⟩) h.lt).trans h.2.1, h.2.2.below hb⟩

theorem Rdr.other {w : World} {p q : Nat} {v u : Value} {bs : List Int} (h : Rdr w p v bs) (hne : q ≠ p) (hq : w.cell? ⟨q, 0, none⟩ = some u) (hu : ∀ z, u ≠ .int .u8 z) (x : Value) : Rdr (w.setCell ⟨q, 0, none⟩ x) p v bs := by
  refine ⟨?_, ?_, h.2.2.setCell hq hu x⟩
  · rw [World.cell?_setCell_other _ _ _ _ (fun e => hne (congrArg Addr.block e))]; exact h.1
  · rw [World.frozen?_setCell]; exact h.2.1

theorem Rdr.same {w : World} {p : Nat} {v : Value} {bs : List Int} (h : Rdr w p v bs) {a : Option Addr} {n c : Nat} {cs : List Int} (hv : ∀ z, v ≠ .int .u8 z) (hx : Bts w (.slice a n c) cs) : Rdr (w.setCell ⟨p, 0, none⟩ (.slice a n c)) p (.slice a n c) cs := by
  refine ⟨World.cell?_setCell_same _ _ _ h.1, ?_, hx.setCell h.1 hv _⟩
  rw [World.frozen?_setCell]; exact h.2.1

theorem Rdr.new (w : World) {v : Value} {bs : List Int} (h : Bts w v bs) : Rdr (w.alloc (.cells #[v] 24)) w.heap.size v bs :=
  ⟨by simp, by simp, h.alloc _⟩

/-- The counting loop: k items have been read off. -/
def Cnt (N : Nat) (w wr : World) (vl : Value) (l : List Int) (xs : List (List Int)) (k p : Nat) (a : Option Addr) (r : List Int) (c f : Nat) : Prop :=
  k ≤ xs.length ∧ N + 1 < p ∧ Rdr wr p (.slice a r.length c) r ∧ Byt r ∧ sct f r = some (xs.drop k) ∧ Rdr wr (N + 1) vl l ∧ Below N w wr

theorem cnt_step {N : Nat} {w wr : World} {vl : Value} {l : List Int} {xs : List (List Int)} {k p : Nat} {a : Option Addr} {r : List Int} {c f : Nat} (h : Cnt N w wr vl l xs k p a r c f) (hk : k < xs.length)
    {x r' : List Int} {f' : Nat} (hr : rv2 r = some (x, r')) (hs : sct f' r' = some (xs.drop (k + 1))) {a2 : Option Addr} {c2 : Nat} (h2 : Bts wr (.slice a2 r'.length c2) r') :
    Cnt N w ((wr.setCell ⟨p, 0, none⟩ (.slice a2 r'.length c2)).alloc (.cells #[.slice a2 r'.length c2] 24)) vl l xs (k + 1) wr.heap.size a2 r' c2 f' := by
  obtain ⟨h1, hp, hR, hB, _, hV, hb⟩ := h
  have hN := hR.lt
  have hsc : Bts (wr.setCell ⟨p, 0, none⟩ (.slice a2 r'.length c2)) (.slice a2 r'.length c2) r' := h2.setCell hR.1 (by simp) _
  have hnew := Rdr.new (wr.setCell ⟨p, 0, none⟩ (.slice a2 r'.length c2)) hsc
  have hold := (hV.other (q := p) (by omega) hR.1 (by simp) (.slice a2 r'.length c2)).below ((Below.refl _ _).alloc (Nat.le_refl _) (.cells #[.slice a2 r'.length c2] 24))
  refine ⟨by omega, by omega, ?_, (rv2_byt hB hr).2, hs, hold, (hb.setCell (by show N ≤ p; omega) _).alloc (by simp; omega) _⟩
  simpa using hnew

/-- The filling loop: k items have been read off and stored. -/
def Fil (N : Nat) (w wz : World) (G n : Nat) (xs : List (List Int)) (k : Nat) (a : Option Addr) (r : List Int) (c f : Nat) : Prop :=
  k ≤ xs.length ∧ N + 1 < G ∧ (∀ j, j < n → ∃ a m c, wz.cell? ⟨G, j, none⟩ = some (.slice a m c)) ∧ (∀ j, wz.frozen? ⟨G, j, none⟩ = false) ∧ Got wz G k xs ∧ Rdr wz (N + 1) (.slice a r.length c) r ∧ Byt r ∧ sct f r = some (xs.drop k) ∧ Below N w wz

theorem fil_start {N : Nat} {w wr wz : World} {n : Nat} {xs : List (List Int)} {a : Option Addr} {l : List Int} {c : Nat} (hV : Rdr wr (N + 1) (.slice a l.length c) l) (hB : Byt l) (hs : sct l.length l = some xs) (hb : Below N w wr) (hN : N + 1 < wr.heap.size)
    (hown : wz.ownsRow N 22 1 (.slice (some ⟨wr.heap.size, 0, none⟩) n n) n (madeCells #[.slice none 0 0] (n * 1)).toList) (hg : wr.grownBy wz none) : Fil N w wz wr.heap.size n xs 0 a l c l.length := by
  have hb1 : Below wr.heap.size wr wz := (Below.refl _ _).grown hg (Nat.le_refl _) (by intro k h; cases h)
  refine ⟨Nat.zero_le _, hN, fun j hj => ?_, fun j => hown.frozenAt j, fun j hj => absurd hj (by omega), hV.below hb1, hB, hs, hb.trans (hb1.mono (by omega))⟩
  refine ⟨none, 0, 0, ?_⟩
  rw [hown.cellAt j (by omega), toList_madeCells_one]
  simp [hj]

theorem fil_step {N : Nat} {w wz : World} {G n : Nat} {xs : List (List Int)} {k : Nat} {a : Option Addr} {r : List Int} {c f : Nat} (h : Fil N w wz G n xs k a r c f) (hk : k < xs.length) (hn : xs.length = n)
    {x r' : List Int} {f' : Nat} (hx : xs.getD k [] = x) (hr : rv2 r = some (x, r')) (hs : sct f' r' = some (xs.drop (k + 1))) {a1 a2 : Option Addr} {c1 c2 : Nat} (h1 : Bts wz (.slice a1 x.length c1) x) (h2 : Bts wz (.slice a2 r'.length c2) r') :
    Fil N w ((wz.setCell ⟨N + 1, 0, none⟩ (.slice a2 r'.length c2)).setCell ⟨G, k, none⟩ (.slice a1 x.length c1)) G n xs (k + 1) a2 r' c2 f' := by
  obtain ⟨_, hG, hrow, hfz, hgot, hR, hB, _, hb⟩ := h
  have e0 : ∀ j, (wz.setCell ⟨N + 1, 0, none⟩ (.slice a2 r'.length c2)).cell? ⟨G, j, none⟩ = wz.cell? ⟨G, j, none⟩ := fun j =>
    World.cell?_setCell_other _ _ _ _ (fun e => by have := congrArg Addr.block e; simp at this; omega)
  obtain ⟨ak, mk, ck, hck⟩ := hrow k (by omega)
  have hck' := (e0 k).trans hck
  have kp : ∀ {v bs}, Bts wz v bs → Bts ((wz.setCell ⟨N + 1, 0, none⟩ (.slice a2 r'.length c2)).setCell ⟨G, k, none⟩ (.slice a1 x.length c1)) v bs := fun hv =>
    (hv.setCell hR.1 (by simp) _).setCell hck' (by simp) _
  have e1 : ∀ j, j ≠ k → ((wz.setCell ⟨N + 1, 0, none⟩ (.slice a2 r'.length c2)).setCell ⟨G, k, none⟩ (.slice a1 x.length c1)).cell? ⟨G, j, none⟩ = wz.cell? ⟨G, j, none⟩ := fun j hj =>
    (World.cell?_setCell_other _ _ _ _ (fun e => by have := congrArg Addr.off e; simp at this; omega)).trans (e0 j)
  have ek : ((wz.setCell ⟨N + 1, 0, none⟩ (.slice a2 r'.length c2)).setCell ⟨G, k, none⟩ (.slice a1 x.length c1)).cell? ⟨G, k, none⟩ = some (.slice a1 x.length c1) := World.cell?_setCell_same _ _ _ hck'
  refine ⟨by omega, hG, fun j hj => ?_, fun j => ?_, fun j hj => ?_, ?_, (rv2_byt hB hr).2, hs, (hb.setCell (by show N ≤ N + 1; omega) _).setCell (by show N ≤ G; omega) _⟩
  · by_cases e : j = k
    · subst e; exact ⟨_, _, _, ek⟩
    · rw [e1 j e]; exact hrow j hj
  · rw [World.frozen?_setCell, World.frozen?_setCell]; exact hfz j
  · by_cases e : j = k
    · subst e; exact ⟨_, ek, by rw [hx]; exact kp h1⟩
    · obtain ⟨v, hv, hbv⟩ := hgot j (by omega)
      exact ⟨v, (e1 j e).trans hv, kp hbv⟩
  · refine ⟨?_, by rw [World.frozen?_setCell, World.frozen?_setCell]; exact hR.2.1, kp h2⟩
    rw [World.cell?_setCell_other _ _ _ _ (fun e => by have := congrArg Addr.block e; simp at this; omega)]
    exact World.cell?_setCell_same _ _ _ hR.1

set_option maxHeartbeats 800000 in
theorem ps_ok (w : World) (v : Value) (bs : List Int) (xs : List (List Int)) (hbd : Byt bs) (hb : Bts w v bs) (hp : parse bs = some xs) :
    Calls Ybaf.prog 9 #[v] w fun e w' => ∃ G, e = .returned (.tuple #[.slice (some ⟨G, 0, none⟩) xs.length xs.length, .nilIface]) ∧ Below w.heap.size w w' ∧ w.heap.size ≤ G ∧ Got w' G xs.length xs := by
  obtain ⟨l, hr, hl, hs⟩ := parse_some hp
  clear hp
  have hbl := (rv2_byt hbd hr).1
  have hll : l.length ≤ 65535 := by
    obtain ⟨h2, h3, hl', hr'⟩ := rv2_some hr
    have hbe := be_le2 hbd 2 h2 (by omega)
    rw [hl']; simp; omega
  have hl0 : ((l.length : Int) == 0) = false := by
    rw [beq_eq_false_iff_ne]; intro e; apply hl; exact List.eq_nil_of_length_eq_zero (by omega)
  have hb' := hb
  obtain ⟨a, c, rfl, _, _, _⟩ := hb'
  have HS : Hid (sct l.length l = some xs) := hs
  have HX : Hid (xs.length ≤ l.length) := sct_len hs
  clear hs hl
  have HR : Hid (rv2 bs = some (l, [])) := hr
  clear hr
  go_enter Ybaf.func9, Ybaf.ntmps9
  go_wp2_with fail
  refine (rv2_ok w.heap.size _ _ bs l [] hbd HR.out (by simp) (by simp) (hb.alloc _)).mono ?_
  rintro e w2 ⟨a1, c1, a2, c2, rfl, rfl, b1, b2⟩
  go_wp2_with fail
  have hx65 : xs.length ≤ 65535 := Nat.le_trans HX.out hll
  go_loopw [6, 7] (fun t6 t7 wr => ∃ k p a r c f, Cnt w.heap.size w wr (.slice a1 l.length c1) l xs k p a r c f ∧ t6 = .int .i64 (k : Nat) ∧ t7 = .pointer (some ⟨p, 0, none⟩)) (fun t6 _ _ => xs.length - (intOf t6).toNat)
  case atStart =>
    refine ⟨0, w.heap.size + 1 + 1, a1, l, c1, l.length, ?_, rfl, rfl⟩
    have k1 : Bts (w.alloc (.cells #[.slice a2 0 c2] 24)) (.slice a1 l.length c1) l := by
      have := b1.setCell (p := ⟨w.heap.size, 0, none⟩) (u := .slice a bs.length c) (by simp) (by simp) (.slice a2 0 c2)
      rw [World.setCell_alloc_at _ _ _ _ _ rfl] at this
      simpa using this
    have r1 := Rdr.new _ k1
    have r2 := r1.below ((Below.refl _ _).alloc (Nat.le_refl _) (.cells #[.slice a1 l.length c1] 24))
    have r3 := Rdr.new _ (k1.alloc (.cells #[.slice a1 l.length c1] 24))
    simp only [World.size_alloc] at r1 r2 r3
    exact ⟨Nat.zero_le _, by omega, r3, hbl, by simpa using HS.out, r2, (((Below.refl _ _).alloc (Nat.le_refl _) _).alloc (by simp) _).alloc (by simp; omega) _⟩
  case round =>
    clear b1 b2 hb
    obtain ⟨k, p, ar, r, cr, f, hcnt, rfl, rfl⟩ := hrel
    have hcnt' := hcnt
    obtain ⟨hk, hp, hR, hB, hsc, hV, hbel⟩ := hcnt
    have HC : Hid (sct f r = some (xs.drop k)) := hsc
    clear hsc
    have g0 := hR.1
    by_cases hkx : k < xs.length
    · have hd : xs.drop k = xs[k] :: xs.drop (k + 1) := List.drop_eq_getElem_cons hkx
      obtain ⟨hrne, hxne, f', r', hr2, hs2⟩ := sct_cons (by rw [← hd]; exact HC.out)
      have hr0 : (0 : Int) < r.length := by have := List.length_pos_iff.2 hrne; omega
      have hx0 : ((xs[k].length : Int) == 0) = false := by rw [beq_eq_false_iff_ne]; intro e; apply hxne; exact List.eq_nil_of_length_eq_zero (by omega)
      have HR2 : Hid (rv2 r = some (xs[k], r')) := hr2
      have HS2 : Hid (sct f' r' = some (xs.drop (k + 1))) := hs2
      clear hd hr2 hs2 hrne hxne
      generalize xs[k] = x at *
      go_wp2_with fail
      refine (rv2_ok p _ _ r x r' hB HR2.out hR.1 hR.2.1 hR.2.2).mono ?_
      rintro e w2 ⟨a3, c3, a4, c4, rfl, rfl, b3, b4⟩
      have fz := hR.2.1
      go_wp2_with fail
      go_roundw
      case rel => exact ⟨k + 1, _, _, _, _, _, cnt_step hcnt' hkx HR2.out HS2.out b4, by go_num, rfl⟩
      case measure => simp [intOf]; omega
    · have hre : r = [] := sct_nil (f := f) (by rw [HC.out, List.drop_of_length_le (by omega)])
      subst hre
      have hkn : k = xs.length := by omega
      subst hkn
      have hN2 := hV.lt
      obtain ⟨i, hi, hz, hs, hb⟩ := info_parts info22
      go_wp2_with (at_make; refine wpList_make_full _ rfl _ _ _ rfl w.heap.size 22 i _ 1 Ybaf.underlying37 hi hz hs _ _ _ _ xs.length rfl rfl rfl rfl (by rw [hb]; omega) (by unfold maxLen; omega) (by omega) ?_; intro wz hown hgr)
      have hfil := fil_start hV hbl HS.out hbel hN2 hown hgr
      clear hown hgr hcnt' hR HC hN2 hV hbel g0
      generalize wr.heap.size = G at hfil ⊢
      go_loopw [65] (fun t wz => ∃ k a r c f, Fil w.heap.size w wz G xs.length xs k a r c f ∧ t = .int .i64 (k : Nat)) (fun t _ => xs.length - (intOf t).toNat)
      case atStart => exact ⟨0, _, _, _, _, hfil, rfl⟩
      case round =>
        clear hfil
        obtain ⟨k, ar, r, cr, f, hfil, rfl⟩ := hrel
        have hfil' := hfil
        obtain ⟨hk, hNG, hrow, hfz, hgot, hR, hB, hsc, hbel⟩ := hfil
        have HC : Hid (sct f r = some (xs.drop k)) := hsc
        clear hsc
        by_cases hkx : k < xs.length
        · have hd : xs.drop k = xs[k] :: xs.drop (k + 1) := List.drop_eq_getElem_cons hkx
          obtain ⟨hrne, hxne, f', r', hr2, hs2⟩ := sct_cons (by rw [← hd]; exact HC.out)
          have HX2 : Hid (xs.getD k [] = xs[k]) := by show xs.getD k [] = xs[k]; rw [List.getD_eq_getElem?_getD, List.getElem?_eq_getElem hkx]; rfl
          have HR2 : Hid (rv2 r = some (xs[k], r')) := hr2
          have HS2 : Hid (sct f' r' = some (xs.drop (k + 1))) := hs2
          clear hd hr2 hs2 hrne hxne
          generalize xs[k] = x at *
          obtain ⟨ak, mk, ck, hck⟩ := hrow k hkx
          have hfk := hfz k
          have hne : G ≠ w.heap.size + 1 := by omega
          clear hrow hfz hgot
          go_wp2_with fail
          refine (rv2_ok (w.heap.size + 1) _ _ r x r' hB HR2.out hR.1 hR.2.1 hR.2.2).mono ?_
          rintro e w2 ⟨a3, c3, a4, c4, rfl, rfl, b3, b4⟩
          go_wp2_with fail
          go_roundw
          case rel => exact ⟨k + 1, _, _, _, _, fil_step hfil' hkx rfl HX2.out HR2.out HS2.out b3 b4, by go_num⟩
          case measure => simp [intOf]; omega
        · go_wp2_with fail
          go_ret2
          have hkn : k = xs.length := by omega
          subst hkn
          exact ⟨G, rfl, hbel, by omega, hgot⟩

/-- parseSCTList at an empty list: an error of errors.New's. -/
theorem ps_empty (w : World) (v : Value) (bs r : List Int) (hbd : Byt bs) (hb : Bts w v bs) (hr : rv2 bs = some ([], r)) :
    Calls Ybaf.prog 9 #[v] w fun e w' => ∃ g, e = .returned (.tuple #[.slice none 0 0, .iface 54 (.pointer (some g))]) ∧ Below w.heap.size w w' := by
  have hb' := hb
  obtain ⟨a, c, rfl, _, _, _⟩ := hb'
  have HR : Hid (rv2 bs = some ([], r)) := hr
  clear hr
  go_enter Ybaf.func9, Ybaf.ntmps9
  go_wp2_with fail
  refine (rv2_ok w.heap.size _ _ bs [] r hbd HR.out (by simp) (by simp) (hb.alloc _)).mono ?_
  rintro e w2 ⟨a1, c1, a2, c2, rfl, rfl, b1, b2⟩
  go_wp2
  go_ret2
  exact ⟨_, rfl, (((Below.refl _ _).alloc (Nat.le_refl _) _).alloc (by simp) _).alloc (by simp; omega) _⟩

theorem conv_zero (w : World) (p : Option Addr) (c : Nat) : ∀ dst, Ybaf.prog.underlying dst = some .string → (convert 22 dst (.slice p 0 c)).run Ybaf.prog w = .ok (.string ByteArray.empty) w := by
  intro dst hd
  rw [run_convert_bytes_string w 22 dst 5 _ 0 c Ybaf.underlying22 Ybaf.underlying5 hd]
  cases p <;> simp [Conv.bytesToString, loadCells, loadCellsFrom]

theorem conv_bts {w : World} {v : Value} {bs : List Int} (h : Bts w v bs) : ∀ dst, Ybaf.prog.underlying dst = some .string → (convert 22 dst v).run Ybaf.prog w = .ok (.string (strOfNums bs)) w := by
  obtain ⟨a, c, rfl, _, _, h3⟩ := h
  cases bs with
  | nil => exact conv_zero w a c
  | cons x xs =>
    obtain ⟨g, o, rfl, hc⟩ := h3 (by simp)
    exact run_convert_bytes_arg (P := Ybaf.prog) w 22 5 Ybaf.underlying22 Ybaf.underlying5 g o _ c (x :: xs) rfl hc

/-- bytes.Equal at equal bytes. -/
theorem eq_same (w : World) (v u : Value) (bs : List Int) (h : Bts w v bs) (k : Bts w u bs) :
    Calls Ybaf.prog 10 #[v, u] w fun e w' => e = .returned (.bool true) ∧ w' = w := by
  have c1 := conv_bts h 9 Ybaf.underlying9
  have c2 := conv_bts k 9 Ybaf.underlying9
  obtain ⟨a, c, rfl, _, _, _⟩ := h
  obtain ⟨a', c', rfl, _, _, _⟩ := k
  go_enter Ybaf.func10, Ybaf.ntmps10
  go_wp2
  go_ret
  exact ⟨rfl, rfl⟩
end Go.Proofs.YbulkawwsFmt
