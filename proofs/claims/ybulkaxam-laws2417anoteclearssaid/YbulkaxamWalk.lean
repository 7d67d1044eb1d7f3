import Derived.Test.YbulkaxamPlain
import Derived.WalkSpells
import Derived.WalkLawsBesides
import Derived.BigQuiet
import Derived.Deep.QuietTactic
import Derived.BigRegion
import Derived.Deep.OwnRows
import Derived.Deep.DeepCutAuto
namespace Go.Proofs.Ybulkaxam
open Go.RowKit Go.Maps

theorem law : Keyed Yba.prog 9 := string_keyed Yba.underlying9
theorem zero9 (w : World) : (zeroValue 9).run Yba.prog w = .ok (.string ByteArray.empty) w := by kernel_rfl
theorem zelem : plainElem (H := Unit) Yba.prog 9 (.string ByteArray.empty) = some (dv ByteArray.empty, []) := plainElem_string Yba.underlying9 (by decide)

/-- Block B is a map of at most n entries that reads as D. -/
def Mp (w : World) (B n : Nat) (D : MD) : Prop := w.ownsMap Yba.prog 9 (plainElem Yba.prog 9) B n D

theorem Mp.put {w : World} {B n : Nat} {D : MD} (h : Mp w B n D) (hn : n < maxLen) {s v : ByteArray} (hs : s.size ≤ maxLen) (hv : v.size ≤ maxLen) :
    ∃ w', (Instr.mapUpdate 23 (.map (some B)) (.string s) (.string v)).run Yba.prog w = .ok () w' ∧ Mp w' B (n + 1) (D.put (kl s) (dv v)) ∧ w.grownBy w' (some B) :=
  World.ownsMap.update h law Yba.underlying23 hn (WideMaps.keyOf_string_mk Yba.underlying9 hs) (plainElem_string Yba.underlying9 hv)

theorem Mp.look {w : World} {B n : Nat} {D : MD} (h : Mp w B n D) {s : ByteArray} (hs : s.size ≤ maxLen) :
    ∃ c : ByteArray, (Instr.lookup 23 (.map (some B)) (.string s) true).run Yba.prog w = .ok (.tuple #[.string c, .bool (Maps.has D (kl s))]) w ∧ D.atKey (kl s) (dv ByteArray.empty) = dv c := by
  obtain ⟨v, ps, hrun, hv⟩ := World.ownsMap.look_ok h law Yba.underlying23 (zero9 w) zelem (WideMaps.keyOf_string_mk Yba.underlying9 hs)
  obtain ⟨c, rfl, hc, _⟩ := plainElem_string_inv Yba.underlying9 hv
  exact ⟨c, hrun, congrArg Prod.fst hc⟩

theorem del_any (O : Nat) (w : World) (h : w.cell? ⟨O, 4, none⟩ = some (.pointer none)) :
    Calls Yba.prog 5 #[.pointer (some ⟨O, 0, none⟩)] w fun e w' => e = .returned (.bool false) ∧ w' = w := by
  go_enter Yba.func5, Yba.ntmps5
  go_wp2
  go_ret
  exact ⟨rfl, rfl⟩

theorem note_false (C B n : Nat) (D : MD) (name : ByteArray) (p : Option Addr) (hs : name.size ≤ maxLen) (w : World) (hC : w.cell? ⟨C, 9, none⟩ = some (.map (some B))) (hm : Mp w B n D) :
    Calls Yba.prog 4 #[.pointer (some ⟨C, 0, none⟩), .string name, .pointer p, .bool false] w fun e w' => e = .returned (.tuple #[]) ∧ Mp w' B n (D.del (kl name)) ∧ w.grownBy w' (some B) := by
  go_enter Yba.func4, Yba.ntmps4
  go_wp2_with (at_delete; refine wpList_delete_own _ rfl _ _ 23 9 rfl 9 law Yba.underlying23 _ B n D rfl hm _ _ rfl (WideMaps.keyOf_string_mk Yba.underlying9 hs) ?_; intro w1 hown1 hturn1)
  go_end0
  exact ⟨rfl, hown1, hturn1.grown⟩

theorem note_true (C B n O : Nat) (D : MD) (name : ByteArray) (hs : name.size ≤ maxLen) (w : World) (hC : w.cell? ⟨C, 9, none⟩ = some (.map (some B))) (hO : w.cell? ⟨O, 4, none⟩ = some (.pointer none)) (hm : Mp w B n D) :
    Calls Yba.prog 4 #[.pointer (some ⟨C, 0, none⟩), .string name, .pointer (some ⟨O, 0, none⟩), .bool true] w fun e w' => e = .returned (.tuple #[]) ∧ Mp w' B n (D.del (kl name)) ∧ w.grownBy w' (some B) := by
  go_enter Yba.func4, Yba.ntmps4
  go_wp2_with (first | (go_at_call 5; refine (del_any O w hO).mono ?_; rintro e w1 ⟨rfl, rfl⟩) | (at_delete; refine wpList_delete_own _ rfl _ _ 23 9 rfl 9 law Yba.underlying23 _ B n D rfl hm _ _ rfl (WideMaps.keyOf_string_mk Yba.underlying9 hs) ?_; intro w1 hown1 hturn1))
  go_end0
  exact ⟨rfl, hown1, hturn1.grown⟩

theorem note_any (C B n : Nat) (D : MD) (name : ByteArray) (p : Option Addr) (there : Bool) (hs : name.size ≤ maxLen) (w : World) (hC : w.cell? ⟨C, 9, none⟩ = some (.map (some B))) (ht : there = true → ∃ O, p = some ⟨O, 0, none⟩ ∧ w.cell? ⟨O, 4, none⟩ = some (.pointer none)) (hm : Mp w B n D) :
    Calls Yba.prog 4 #[.pointer (some ⟨C, 0, none⟩), .string name, .pointer p, .bool there] w fun e w' => e = .returned (.tuple #[]) ∧ Mp w' B n (D.del (kl name)) ∧ w.grownBy w' (some B) := by
  cases there with
  | false => exact note_false C B n D name p hs w hC hm
  | true =>
    obtain ⟨O, rfl, hO⟩ := ht rfl
    exact note_true C B n O D name hs w hC hO hm

theorem note_at (C B n : Nat) (D : MD) (name : ByteArray) (p : Option Addr) (there : Bool) (hs : name.size ≤ maxLen) (w0 w : World) (hC : w.cell? ⟨C, 9, none⟩ = some (.map (some B))) (ht : there = true → ∃ O, p = some ⟨O, 0, none⟩ ∧ w.cell? ⟨O, 4, none⟩ = some (.pointer none)) (hm : Mp w B n D)
    (hlt : C < w.heap.size) (hne : C ≠ B) (hb : Below B w0 w) (hB : B ≤ w.heap.size) :
    Calls Yba.prog 4 #[.pointer (some ⟨C, 0, none⟩), .string name, .pointer p, .bool there] w fun e w' => e = .returned (.tuple #[]) ∧ w'.cell? ⟨C, 9, none⟩ = some (.map (some B)) ∧
      (∃ c, (Instr.lookup 23 (.map (some B)) (.string name) true).run Yba.prog w' = .ok (.tuple #[.string c, .bool false]) w') ∧ Mp w' B n (D.del (kl name)) ∧ Below B w0 w' := by
  refine (note_any C B n D name p there hs w hC ht hm).mono fun e w2 ⟨he, hm2, hg2⟩ => ⟨he, ?_, ?_, hm2, ?_⟩
  · exact (World.cell?_of_block (w := w) (w' := w2) (a := ⟨C, 9, none⟩) (hg2.block C hlt (fun e => hne (by injection e)))).trans hC
  · obtain ⟨c, hrun, _⟩ := hm2.look hs
    rw [has_del_same] at hrun
    exact ⟨c, hrun⟩
  · exact hb.grown hg2 hB (fun j hj => by cases hj; exact Nat.le_refl _)

theorem beq_same {a b : ByteArray} (h : a = b) : (a.toList == b.toList) = true := by subst h; exact beq_self_eq_true _
theorem beq_other {a b : ByteArray} (h : a ≠ b) : (a.toList == b.toList) = false := by
  refine beq_eq_false_iff_ne.2 fun e => h ?_
  rw [ByteArray.toList_eq, ByteArray.toList_eq] at e
  exact bytes_inj e

/-- What the two slices hold. -/
def Sl (w : World) (a : Option Addr) (n : Nat) (ks : Nat → ByteArray) : Prop :=
  ∀ i, i < n → ∃ b off, a = some ⟨b, off, none⟩ ∧ w.cell? ⟨b, off + i, none⟩ = some (.string (ks i))

set_option linter.unusedVariables false in
set_option maxRecDepth 100000 in
theorem walk (a0 a1 : Option Addr) (n0 n1 c0 c1 : Nat) (ks vs : Nat → ByteArray) (name : ByteArray) (there : Bool) (w : World) (h0 : Sl w a0 n0 ks) (h1 : Sl w a1 n1 vs) (m0 : n0 ≤ maxLen) (m1 : n1 ≤ maxLen)
    (hk : ∀ i, (ks i).size ≤ maxLen) (hv : ∀ i, (vs i).size ≤ maxLen) (hs : name.size ≤ maxLen) :
    Calls Yba.prog 3 #[.slice a0 n0 c0, .slice a1 n1 c1, .string name, .bool there] w fun e w' => e = .returned (.bool true) ∧ Below w.heap.size w w' := by
  have hmm := @run_makeMap Yba.prog
  by_cases g0 : (n0 : Int) > 1024
  · go_enter Yba.func3, Yba.ntmps3
    go_wp2
    go_ret
    exact ⟨rfl, Below.refl _ _⟩
  by_cases g1 : (n1 : Int) > 1024
  · go_enter Yba.func3, Yba.ntmps3
    go_wp2
    go_ret
    exact ⟨rfl, Below.refl _ _⟩
  go_enter Yba.func3, Yba.ntmps3
  go_upto_if 36 with (fail)
  obtain ⟨n, hn⟩ : ∃ n, n = min n0 n1 := ⟨_, rfl⟩
  have HN : Hid (n = min n0 n1) := hn
  have l0 : n ≤ n0 := by omega
  have l1 : n ≤ n1 := by omega
  have lm : n ≤ 1024 := by omega
  have LM : Hid (n ≤ 1024) := lm
  clear hn lm
  go_cut [9] (fun s w' => s = .int .i64 (n : Nat) ∧ w = w')
  case first =>
    by_cases hlt : n1 < n0
    · clear g0 g1 l0 l1 LM h0 h1 m0 m1 hk hv hs hmm
      go_wp2
      go_meet
      case rel => exact ⟨by rw [HN.out, Nat.min_eq_right (by omega)], rfl⟩
    · clear g0 g1 l0 l1 LM h0 h1 m0 m1 hk hv hs hmm
      go_wp2
      go_meet
      case rel => exact ⟨by rw [HN.out, Nat.min_eq_left (by omega)], rfl⟩
  case rest =>
    obtain ⟨rfl, rfl⟩ := hcut
    clear HN g0 g1
    go_wp2
    clear hmm
    go_loopw [11] (fun t wr => ∃ k : Nat, k ≤ n ∧ t = .int .i64 k ∧ Mp wr w.heap.size k (Fill ks vs k) ∧ Below w.heap.size w wr) (fun t _ => n - (intOf t).toNat)
    case atStart => exact ⟨0, Nat.zero_le _, rfl, World.ownsMap_made _ _ _ _, (Below.refl _ _).alloc (Nat.le_refl _) _⟩
    case round =>
      obtain ⟨k, hkn, rfl, hmp, hbel⟩ := hrel
      by_cases hkl : k < n
      · obtain ⟨b0, o0, rfl, hc0⟩ := h0 k (by omega)
        obtain ⟨b1, o1, rfl, hc1⟩ := h1 k (by omega)
        have hd0 : wr.cell? ⟨b0, o0 + k, none⟩ = some (.string (ks k)) := (hbel.cell (p := ⟨b0, o0 + k, none⟩) (World.block_lt_of_cell? w _ hc0)).trans hc0
        have hd1 : wr.cell? ⟨b1, o1 + k, none⟩ = some (.string (vs k)) := (hbel.cell (p := ⟨b1, o1 + k, none⟩) (World.block_lt_of_cell? w _ hc1)).trans hc1
        have k0 : (0 : Int) ≤ (k : Int) := by omega
        have k1 : (k : Int) < (n0 : Int) := by omega
        have k2 : (k : Int) < (n1 : Int) := by omega
        have ek : wrap64 ((k : Int) + 1) = ((k + 1 : Nat) : Int) := by have := LM.out; unfold wrap64; omega
        obtain ⟨w1, hrun, hm1, hg1⟩ := Mp.put (w := wr.drew) hmp (by have := LM.out; unfold maxLen; omega) (hk k) (hv k)
        have HM : Hid (Mp w1 w.heap.size (k + 1) (Fill ks vs (k + 1))) := hm1
        clear hm1
        go_wp2
        go_region
        go_wp2
        go_roundw
        case rel => exact ⟨k + 1, by omega, by rw [ek], HM.out, Below.drew (hbel) |>.grown hg1 (hbel.size) (fun j hj => by cases hj; exact Nat.le_refl _)⟩
        case measure => rw [ek]; simp [intOf]; omega
      · have e : k = n := by omega
        subst e
        have hsz : w.heap.size < wr.heap.size := hmp.lt
        clear hkl hkn
        have HMP : Hid (Mp wr w.heap.size k (Fill ks vs k)) := hmp
        have HBL : Hid (Below w.heap.size w wr) := hbel
        clear hmp hbel
        go_upto_if 57 with (fail)
        go_cut [13] (fun s w' => ∃ p, s = .pointer p ∧ (there = true → ∃ O, p = some ⟨O, 0, none⟩ ∧ w'.cell? ⟨O, 4, none⟩ = some (.pointer none)) ∧ w'.cell? ⟨wr.heap.size, 9, none⟩ = some (.map (some w.heap.size)) ∧ wr.heap.size < w'.heap.size ∧ Mp w' w.heap.size k (Fill ks vs k) ∧ Below w.heap.size w w')
        case first =>
          cases there with
          | false =>
            go_wp2
            go_meet
            case rel => exact ⟨none, rfl, (fun h => by cases h), by simp [go_sem], by simp, World.ownsMap.alloc HMP.out _, HBL.out.alloc (Nat.le_of_lt hsz) _⟩
          | true =>
            go_wp2
            go_meet
            case rel => exact ⟨_, rfl, (fun _ => ⟨_, rfl, by simp [go_sem]⟩), by simp [go_sem], by simp; omega, World.ownsMap.alloc (World.ownsMap.alloc HMP.out _) _, (HBL.out.alloc (Nat.le_of_lt hsz) _).alloc (by simp; omega) _⟩
        case rest =>
          obtain ⟨p, rfl, hp, hC, hlt, hmc, hbc⟩ := hcut
          have HC := note_at wr.heap.size w.heap.size k (Fill ks vs k) name p there hs w wc hC hp hmc hlt (by omega) hbc hbc.size
          have HH : Hid _ := HC
          clear HC hp hmc HMP HBL hC hlt hbc
          go_wp2_with (go_at_call 4; refine Calls.mono HH.out ?_; rintro e w2 ⟨rfl, hC2, ⟨c, hrun⟩, hm2, hb2⟩)
          have HS0 : Hid (Sl w2 a0 k ks) := fun i hi => by
            obtain ⟨b, o, ha, hc⟩ := h0 i (by omega)
            exact ⟨b, o, ha, (hb2.cell (p := ⟨b, o + i, none⟩) (World.block_lt_of_cell? w _ hc)).trans hc⟩
          have HS1 : Hid (Sl w2 a1 k vs) := fun i hi => by
            obtain ⟨b, o, ha, hc⟩ := h1 i (by omega)
            exact ⟨b, o, ha, (hb2.cell (p := ⟨b, o + i, none⟩) (World.block_lt_of_cell? w _ hc)).trans hc⟩
          have HB2 : Hid (Below w.heap.size w w2) := hb2
          have HM2 : Hid (Mp w2 w.heap.size k ((Fill ks vs k).del (kl name))) := hm2
          clear hb2 hm2 hsz h0 h1 HH hrun m0 m1
          generalize wr.heap.size = C at *
          go_loopw [16, 17] (fun t16 t17 wq => wq = w2 ∧ ∃ i d : Nat, i ≤ k ∧ d ≤ i ∧ t16 = .int .i64 d ∧ t17 = .int .i64 i ∧ Cnt ks ((Fill ks vs k).del (kl name)) k i d) (fun _ t _ => k - (intOf t).toNat)
          case atStart => exact ⟨rfl, 0, 0, Nat.zero_le _, Nat.le_refl _, rfl, rfl, cnt_start ((fill_tidy k).del _) ((fill_ks k).del _)⟩
          case round =>
            obtain ⟨rfl, i, d, hik, hdi, rfl, rfl, hcnt⟩ := hrel
            by_cases hil : i < k
            · obtain ⟨b0, o0, rfl, hc0⟩ := HS0.out i hil
              obtain ⟨b1, o1, rfl, hc1⟩ := HS1.out i hil
              have k0 : (0 : Int) ≤ (i : Int) := by omega
              have k1 : (i : Int) < (n0 : Int) := by omega
              have k2 : (i : Int) < (n1 : Int) := by omega
              have HCN : Hid (Cnt ks ((Fill ks vs k).del (kl name)) k i d) := hcnt
              clear hcnt
              have EI : Hid (wrap64 ((i : Int) + 1) = ((i + 1 : Nat) : Int)) := by have := LM.out; show wrap64 ((i : Int) + 1) = ((i + 1 : Nat) : Int); unfold wrap64; omega
              have ED : Hid (wrap64 ((d : Int) + 1) = ((d + 1 : Nat) : Int)) := by have := LM.out; show wrap64 ((d : Int) + 1) = ((d + 1 : Nat) : Int); unfold wrap64; omega
              go_wp2
              go_loopw [19, 20] (fun t19 t20 wq => wq = wr ∧ ∃ j : Nat, i < j ∧ j ≤ k ∧ t19 = .bool false ∧ t20 = .int .i64 j ∧ ∀ m, i < m → m < j → ks m ≠ ks i) (fun _ t _ => k - (intOf t).toNat)
              case atStart => exact ⟨rfl, i + 1, by omega, by omega, rfl, by rw [EI.out], fun m h1 h2 => absurd h1 (by omega)⟩
              case round =>
                obtain ⟨rfl, j, hij, hjk, rfl, rfl, hall⟩ := hrel
                have HA : Hid (∀ m, i < m → m < j → ks m ≠ ks i) := hall
                clear hall
                by_cases hjl : j < k
                · obtain ⟨b2, o2, e, hcj⟩ := HS0.out j hjl
                  injection e with e
                  injection e with e1 e2
                  subst e1 e2
                  have j0 : (0 : Int) ≤ (j : Int) := by omega
                  have j1 : (j : Int) < (n0 : Int) := by omega
                  have EJ : Hid (wrap64 ((j : Int) + 1) = ((j + 1 : Nat) : Int)) := by have := LM.out; show wrap64 ((j : Int) + 1) = ((j + 1 : Nat) : Int); unfold wrap64; omega
                  by_cases hej : ks j = ks i
                  · have HE : Hid (ks j = ks i) := hej
                    have t0 := beq_same hej
                    clear hej
                    go_wp2
                    go_roundw
                    case rel => exact ⟨trivial, i + 1, d, by omega, by omega, rfl, by rw [EI.out], cnt_skip HCN.out fun hl => hl j hij hjl HE.out⟩
                    case measure => rw [EI.out]; simp [intOf]; omega
                  · have HE : Hid (ks j ≠ ks i) := hej
                    have t0 := beq_other hej
                    clear hej
                    go_wp2
                    go_roundw
                    case rel =>
                      refine ⟨trivial, j + 1, by omega, by omega, rfl, by rw [EJ.out], fun m h1 h2 => ?_⟩
                      by_cases em : m = j
                      · subst em; exact HE.out
                      · exact HA.out m h1 (by omega)
                    case measure => rw [EJ.out]; simp [intOf]; omega
                · have e : j = k := by omega
                  subst e
                  have hl : LastAt ks j i := HA.out
                  have HL : Hid (LastAt ks j i) := hl
                  clear hl
                  by_cases hnm : ks i = name
                  · have HE : Hid (ks i = name) := hnm
                    have t0 := beq_same hnm
                    clear hnm
                    go_wp2
                    go_roundw
                    case rel => exact ⟨trivial, i + 1, d, by omega, by omega, rfl, by rw [EI.out], cnt_name HCN.out (by rw [HE.out]; exact has_del_same)⟩
                    case measure => rw [EI.out]; simp [intOf]; omega
                  · have HE : Hid (ks i ≠ name) := hnm
                    have t0 := beq_other hnm
                    obtain ⟨c', hrun, hat⟩ := HM2.out.look (hk i)
                    rw [del_here hil HL.out hnm] at hrun
                    have ec : c' = vs i := dv_inj (hat.symm.trans (del_at hil HL.out hnm _))
                    subst ec
                    have t1 := beq_same (rfl : vs i = vs i)
                    clear hnm hat
                    go_wp2
                    go_roundw
                    case rel => exact ⟨trivial, i + 1, d + 1, by omega, by omega, by rw [ED.out], by rw [EI.out], cnt_hit HCN.out hil HL.out (del_here hil HL.out HE.out)⟩
                    case measure => rw [EI.out]; simp [intOf]; omega
            · have e : i = k := by omega
              subst e
              have hsize := cnt_end hcnt fun x hx => del_has hx
              go_wp2_with (at_len; refine wpList_len_own _ rfl _ 23 rfl 9 9 Yba.underlying23 _ _ _ _ rfl HM2.out ?_)
              go_ret
              exact ⟨by simp, HB2.out⟩
end Go.Proofs.Ybulkaxam
