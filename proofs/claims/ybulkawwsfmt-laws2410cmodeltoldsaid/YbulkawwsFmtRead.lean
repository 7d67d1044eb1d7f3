/-
  readVector, walked: where it reads, where the reader is too short, where the vector is cut off.
-/
import Derived.Test.YbulkawwsFmtRows
import Derived.Test.YbulkawwsFmtBytes
import Derived.WalkSpells
import Derived.WalkLawsBesides
import Derived.BigQuiet
import Derived.Deep.QuietTactic
namespace Go.Proofs.YbulkawwsFmt
open Go.RowKit

set_option maxHeartbeats 800000 in
theorem rv_core (p g o c L : Nat) (w : World) (W : Nat) (bs : List Int) (hbd : Byt bs) (hW0 : 1 ≤ W) (hW : W ≤ 3) (hL : bs.length = L) (hWL : W ≤ L) (hLc : L ≤ c) (_hcm : c ≤ 9223372036854775807)
    (hv : w.cell? ⟨p, 0, none⟩ = some (.slice (some ⟨g, o, none⟩) L c)) (hfr : w.frozen? ⟨p, 0, none⟩ = false)
    (hc : ∀ j, j < L → w.cell? ⟨g, o + j, none⟩ = some (.int .u8 (bs.getD j 0)))
    (n : Nat) (hn : be (bs.take W) = n) (hnL : W + n ≤ L) :
    Calls Ybaf.prog 13 #[.pointer (some ⟨p, 0, none⟩), .int .i64 W] w fun e w' =>
      e = .returned (.tuple #[.slice (if c = W then some ⟨g, o, none⟩ else some ⟨g, o + W, none⟩) n n, .nilIface]) ∧
      w' = w.setCell ⟨p, 0, none⟩ (.slice (if c = W then some ⟨g, o, none⟩ else if c - W = n then some ⟨g, o + W, none⟩ else some ⟨g, o + W + n, none⟩) (L - W - n) (c - W - n)) := by
  have HN : Hid (be (bs.take W) = n) := hn
  clear hn
  have c0 : ¬ c = 0 := by omega
  have l1 : ¬ ((L : Int) < W) := by omega
  go_enter Ybaf.func13, Ybaf.ntmps13
  go_wp2
  go_loop [6, 23] (fun t i => ∃ k : Nat, k ≤ W ∧ i = .int .i64 k ∧ t = .int .i64 (be (bs.take k))) (fun _ i => W - (intOf i).toNat)
  case atStart => exact ⟨0, Nat.zero_le _, rfl, rfl⟩
  case round =>
    obtain ⟨k, hk, rfl, rfl⟩ := hrel
    by_cases hkW : k < W
    · have hb := be_le2 hbd k (by omega) (by omega)
      have hx := hbd.at k
      have hcell := hc k (by omega)
      have hor := or_byte (be (bs.take k)) (bs.getD k 0) hb.1 hb.2 hx.1 hx.2
      have HS : Hid (be (bs.take (k + 1)) = be (bs.take k) * 256 + bs.getD k 0) := be_take_succ bs k (by omega)
      clear hc
      generalize be (bs.take k) = B at *
      generalize bs.getD k 0 = z at *
      go_wp2
      go_round
      case rel => exact ⟨k + 1, by omega, by go_num, by rw [HS.out]⟩
      case measure => simp [intOf]; omega
    · have hkk : k = W := by omega
      subst hkk
      clear hc
      have hb := HN.out
      rw [hb]
      clear hb
      by_cases hcW : c = k
      · go_wp2
        go_ret2
        exact ⟨rfl, rfl⟩
      · by_cases hcn : c - k = n
        · go_wp2
          go_ret2
          exact ⟨rfl, rfl⟩
        · go_wp2
          go_ret2
          exact ⟨rfl, rfl⟩

/-- readVector where it reads a vector. -/
theorem rv_ok (p : Nat) (w : World) (v : Value) (bs : List Int) (m : Int) (W : Nat) (hm : m = W) (hW0 : 1 ≤ W) (hW : W ≤ 3) (hbd : Byt bs) (hWL : W ≤ bs.length)
    (hv : w.cell? ⟨p, 0, none⟩ = some v) (hfr : w.frozen? ⟨p, 0, none⟩ = false) (hb : Bts w v bs) (n : Nat) (hn : be (bs.take W) = n) (hnL : W + n ≤ bs.length) :
    Calls Ybaf.prog 13 #[.pointer (some ⟨p, 0, none⟩), .int .i64 m] w fun e w' => ∃ v1 v2, e = .returned (.tuple #[v1, .nilIface]) ∧ w' = w.setCell ⟨p, 0, none⟩ v2 ∧
      Bts w v1 ((bs.drop W).take n) ∧ Bts w v2 ((bs.drop W).drop n) := by
  subst hm
  obtain ⟨a, c, rfl, h1, h2, h3⟩ := hb
  obtain ⟨g, o, rfl, hc⟩ := h3 (by intro e; subst e; simp at hWL; omega)
  refine (rv_core p g o c bs.length w W bs hbd hW0 hW rfl hWL h1 (by unfold maxLen at h2; omega) hv hfr hc n hn hnL).mono ?_
  rintro e w' ⟨rfl, rfl⟩
  refine ⟨_, _, rfl, rfl, ⟨_, n, by congr 1; simp; omega, by simp; omega, by omega, ?_⟩, ⟨_, c - W - n, by congr 1; simp; omega, by simp; omega, by omega, ?_⟩⟩
  · intro hne
    have hlt : W < c := by
      rcases Nat.lt_or_ge W c with h | h
      · exact h
      · exfalso; apply hne; rw [List.drop_of_length_le (by omega)]; simp
    rw [if_neg (by omega)]
    refine ⟨g, o + W, rfl, fun j hj => ?_⟩
    simp at hj
    rw [Nat.add_assoc, hc (W + j) (by omega)]
    simp [show j < n by omega]
  · intro hne
    have hlt : W + n < bs.length := by
      rcases Nat.lt_or_ge (W + n) bs.length with h | h
      · exact h
      · exfalso; apply hne; rw [List.drop_drop, List.drop_of_length_le (by omega)]
    rw [if_neg (by omega), if_neg (by omega)]
    refine ⟨g, o + W + n, rfl, fun j hj => ?_⟩
    simp at hj
    rw [Nat.add_assoc, Nat.add_assoc, hc (W + (n + j)) (by omega)]
    simp [Nat.add_assoc]

/-- readVector where the reader is shorter than the length's own bytes. -/
theorem rv_short (p : Nat) (w : World) (v : Value) (bs : List Int) (m : Int) (W : Nat) (a1 : Addr) (hm : m = W) (hWL : bs.length < W) (hg : w.cell? ⟨0, 0, none⟩ = some (.iface 54 (.pointer (some a1))))
    (hv : w.cell? ⟨p, 0, none⟩ = some v) (hb : Bts w v bs) :
    Calls Ybaf.prog 13 #[.pointer (some ⟨p, 0, none⟩), .int .i64 m] w fun e w' => e = .returned (.tuple #[.slice none 0 0, .iface 54 (.pointer (some a1))]) ∧ ∃ q, w' = w.drewN q := by
  subst hm
  obtain ⟨a, c, rfl, h1, h2, h3⟩ := hb
  clear h3
  generalize bs.length = L at *
  unfold maxLen at h2
  have l1 : (L : Int) < W := by omega
  go_enter Ybaf.func13, Ybaf.ntmps13
  go_wp2
  go_quiet (fail)
  go_wp2
  go_ret2
  exact ⟨rfl, _, rfl⟩

/-- readVector where the vector is cut off. -/
theorem rv_cut (p : Nat) (w : World) (v : Value) (bs : List Int) (m : Int) (W : Nat) (a1 : Addr) (hm : m = W) (hW0 : 1 ≤ W) (hW : W ≤ 3) (hbd : Byt bs) (hWL : W ≤ bs.length) (hg : w.cell? ⟨0, 0, none⟩ = some (.iface 54 (.pointer (some a1))))
    (hv : w.cell? ⟨p, 0, none⟩ = some v) (hb : Bts w v bs) (n : Nat) (hn : be (bs.take W) = n) (hnL : bs.length < W + n) :
    Calls Ybaf.prog 13 #[.pointer (some ⟨p, 0, none⟩), .int .i64 m] w fun e w' => e = .returned (.tuple #[.slice none 0 0, .iface 54 (.pointer (some a1))]) ∧ ∃ q, w' = w.drewN q := by
  subst hm
  obtain ⟨a, c, rfl, h1, h2, h3⟩ := hb
  obtain ⟨g, o, rfl, hc⟩ := h3 (by intro e; subst e; simp at hWL; omega)
  have HN : Hid (be (bs.take W) = n) := hn
  clear hn h3
  have hL : Hid (bs.length = bs.length) := rfl
  have hbe : ∀ k, k ≤ W → 0 ≤ be (bs.take k) ∧ (k ≤ 2 → be (bs.take k) ≤ 65535) := fun k hk => ⟨(be_le3 hbd k (by omega) (by omega)).1, fun h => (be_le2 hbd k (by omega) h).2⟩
  have hts : ∀ k, k < W → be (bs.take (k + 1)) = be (bs.take k) * 256 + bs.getD k 0 := fun k hk => be_take_succ bs k (by omega)
  have HT := show Hid (∀ k, k < W → be (bs.take (k + 1)) = be (bs.take k) * 256 + bs.getD k 0) from hts
  clear hts
  generalize hLL : bs.length = L at *
  clear hLL hL
  unfold maxLen at h2
  have c0 : ¬ c = 0 := by omega
  have l1 : ¬ ((L : Int) < W) := by omega
  go_enter Ybaf.func13, Ybaf.ntmps13
  go_wp2
  go_loop [6, 23] (fun t i => ∃ k : Nat, k ≤ W ∧ i = .int .i64 k ∧ t = .int .i64 (be (bs.take k))) (fun _ i => W - (intOf i).toNat)
  case atStart => exact ⟨0, Nat.zero_le _, rfl, rfl⟩
  case round =>
    obtain ⟨k, hk, rfl, rfl⟩ := hrel
    by_cases hkW : k < W
    · have hb := hbe k hk
      have hb1 := hb.1
      have hb2 := hb.2 (by omega)
      have hx := hbd.at k
      have hcell := hc k (by omega)
      have hor := or_byte (be (bs.take k)) (bs.getD k 0) hb.1 hb2 hx.1 hx.2
      have HS : Hid (be (bs.take (k + 1)) = be (bs.take k) * 256 + bs.getD k 0) := HT.out k hkW
      clear hc hbe HT hb
      generalize be (bs.take k) = B at *
      generalize bs.getD k 0 = z at *
      go_wp2
      go_round
      case rel => exact ⟨k + 1, by omega, by go_num, by rw [HS.out]⟩
      case measure => simp [intOf]; omega
    · have hkk : k = W := by omega
      subst hkk
      clear hc hbe HT
      have hb := HN.out
      rw [hb]
      clear hb
      by_cases hcW : c = k
      all_goals
        go_wp2
        go_quiet (fail)
        go_wp2
        go_ret2
        exact ⟨rfl, _, rfl⟩
end Go.Proofs.YbulkawwsFmt
