/-
  LawS2410CRoundTrip, walked.
-/
import Derived.Test.YbulkawwsFmtBuild
import Derived.Deep.OwnRows
import Derived.Deep.DeepCutAuto
import Derived.WalkSpells
import Derived.BigQuiet
import Derived.Deep.QuietTactic
namespace Go.Proofs.YbulkawwsFmt
open Go.RowKit
theorem rt_many (a0 : Option Addr) (n cap : Nat) (w : World) (hn : 1024 < n) (h63 : n ≤ 9223372036854775807) :
    Calls Ybaf.prog 5 #[.slice a0 n cap] w fun e w' => e = .returned (.bool true) ∧ Below w.heap.size w w' := by
  have h9 : decide ((1024 : Int) < n) = true := by simp; omega
  go_enter Ybaf.func5, Ybaf.ntmps5
  go_wp2
  go_ret
  exact ⟨rfl, Below.refl _ _⟩

set_option maxHeartbeats 1000000 in
theorem rt_core (a0 : Option Addr) (n cap : Nat) (its : List (List Int)) (w : World) (hln : its.length = n) (hn : n ≤ 1024) (hits : Its w a0 its) :
    Calls Ybaf.prog 5 #[.slice a0 n cap] w fun e w' => e = .returned (.bool true) ∧ Below w.heap.size w w' := by
  have h9 : decide ((1024 : Int) < n) = false := by simp; omega
  have HLN : Hid (its.length = n) := hln
  clear hln
  go_enter Ybaf.func5, Ybaf.ntmps5
  go_wp2
  go_loop [3, 4] (fun t i => ∃ k : Nat, k ≤ n ∧ i = .int .i64 k ∧ t = .int .i64 (enk its k).length ∧ (enk its k).length ≤ 65535) (fun _ i => n - (intOf i).toNat)
  case atStart => exact ⟨0, Nat.zero_le _, rfl, by rw [enk_zero]; rfl, by rw [enk_zero]; simp⟩
  case round =>
    obtain ⟨k, hk, rfl, rfl, ht⟩ := hrel
    by_cases hkn : k < n
    · obtain ⟨b, off, a, c, ha, hc, hB, _⟩ := hits k (by rw [HLN.out]; exact hkn)
      subst ha
      have HSUC : Hid ((enk its (k + 1)).length = (enk its k).length + (2 + if (its.getD k []).length = 0 then 1 else (its.getD k []).length)) := by
        show _ = _
        rw [enk_len_succ its k (by rw [HLN.out]; exact hkn), eff1_len]
      have hm : (its.getD k []).length ≤ 9223372036854775807 := by
        obtain ⟨a', c', e, h1, h2, _⟩ := hB; unfold maxLen at h2; omega
      clear hits hB
      generalize (enk its k).length = T at *
      generalize (its.getD k []).length = m at *
      obtain ⟨m1, hm1⟩ : ∃ m1 : Nat, m1 = if m = 0 then 1 else m := ⟨_, rfl⟩
      have HM1 : Hid (m1 = if m = 0 then 1 else m) := hm1
      have hmb : m1 ≤ 9223372036854775807 ∧ 1 ≤ m1 := by rw [hm1]; split <;> omega
      rw [← hm1] at HSUC
      clear hm1
      go_upto_if 28 with (fail)
      go_cut [5] (fun s w' => s = .int .i64 (m1 : Nat) ∧ w' = w)
      case first =>
        go_wp2
        all_goals
          go_meet
          case rel =>
            refine ⟨?_, rfl⟩
            have := HM1.out
            simp at *
            split at this <;> simp_all
      case rest =>
        obtain ⟨rfl, rfl⟩ := hcut
        clear hc hm HM1
        obtain ⟨hm2, hm3⟩ := hmb
        by_cases hmx : m1 ≤ 65535
        · by_cases hT : T + (2 + m1) ≤ 65535
          · go_wp2
            go_round
            case rel => exact ⟨k + 1, by omega, by go_num, by rw [HSUC.out]; go_num, by rw [HSUC.out]; omega⟩
            case measure => simp [intOf]; omega
          · go_wp2
            go_ret
            exact ⟨rfl, Below.refl _ _⟩
        · go_wp2
          go_ret
          exact ⟨rfl, Below.refl _ _⟩
    · have hkk : k = n := by omega
      subst hkk
      have HT : Hid ((enk its k).length = (enk its k).length) := rfl
      generalize hTT : (enk its k).length = T at *
      have HTT : Hid ((enk its k).length = T) := hTT
      clear hTT HT
      have hmk1 := fun w => run_make_row' (P := Ybaf.prog) 37 22 (.slice none 0 0) 24 Ybaf.underlying37 info22 rfl .i64 .i64 k (by omega) (by omega) w
      have hmk2 : ∀ w : World, (Instr.makeSlice 22 (.int .i64 2) (.int .i64 (2 + (T : Int)))).run Ybaf.prog w = .ok (.slice (some ⟨w.heap.size, 0, none⟩) 2 (2 + T)) (w.alloc (.cells (madeCells #[.int .u8 0] (2 + T)) 5)) := by
        intro w
        obtain ⟨i, hi, hz, hs, hb⟩ := info_parts info5
        have := run_make (P := Ybaf.prog) w 22 5 i _ Ybaf.underlying22 hi hz .i64 .i64 2 (2 + T) (by omega) (by omega) (by rw [hb]; omega) (by omega)
        rw [this, hs]
        rw [show ((2 + (T : Int)).toNat) = 2 + T by omega]
        simp [Value.cells]
      go_wp2
      clear hmk1 hmk2
      go_loopw [7, 8] (fun t7 t8 wr => ∃ i M : Nat, i ≤ k ∧ t8 = .int .i64 i ∧ t7 = .slice (some ⟨w.heap.size + 1, 0, none⟩) M (2 + T) ∧ Bld w.heap.size w wr its T i M) (fun _ t8 _ => k - (intOf t8).toNat)
      case atStart => exact ⟨0, 2, Nat.zero_le _, rfl, rfl, bld_start HLN.out ht⟩
      case round =>
        obtain ⟨i, M, hik, rfl, rfl, hbld⟩ := hrel
        have hbld' := hbld
        obtain ⟨hM, hown, hrow, hfz, heff, hbel, hsz⟩ := hbld
        by_cases hi : i < k
        · have hil : i < its.length := by rw [HLN.out]; exact hi
          obtain ⟨b, off, a, c, ha, hc, hB, hBy⟩ := hits i hil
          subst ha
          obtain ⟨ae, me, ce, hce⟩ := hrow i hil
          have hfe := hfz i
          have hbl : b < w.heap.size := World.block_lt_of_cell? w _ hc
          have hc' : wr.cell? ⟨b, off + i, none⟩ = some (.slice a (its.getD i []).length c) := (hbel.cell (p := ⟨b, off + i, none⟩) hbl).trans hc
          have hbne : b ≠ w.heap.size := by omega
          obtain ⟨y, hy⟩ : ∃ y, eff1 i (its.getD i []) = y := ⟨_, rfl⟩
          have HY : Hid (eff1 i (its.getD i []) = y) := hy
          have HYO : Hid (∀ z, z = i → eff1 z (its.getD z []) = y) := by rintro z rfl; exact hy
          have HLT : Hid (M + 2 + y.length ≤ 2 + T) := by
            show _ ≤ _
            have h1 := enk_mono its (i + 1) k (by omega) (by rw [HLN.out]; exact Nat.le_refl _)
            have h2 := enk_len_succ its i hil
            rw [hy] at h2
            have h3 := HTT.out
            omega
          have hyl : 1 ≤ y.length := by rw [← hy]; have := List.length_pos_iff.2 (eff1_ne i (its.getD i [])); omega
          clear hM hits hrow hfz heff hc hy
          generalize its.getD i [] = x at *
          go_upto_if 55 with (fail)
          go_cut [9] (fun s9 w' => ∃ g o c, s9 = .slice (some ⟨g, o, none⟩) y.length c ∧ Itm w' w.heap.size g o c y ∧ Bld w.heap.size w w' its T i M)
          case first =>
            by_cases hx : x = []
            · subst hx
              go_wp2
              go_meet
              case rel =>
                obtain ⟨e, hI⟩ := item_new HY.out hsz
                exact ⟨_, _, _, by rw [e], hI, bld_alloc hbld' _⟩
            · have hx0 : ((x.length : Int) == 0) = false := by rw [beq_eq_false_iff_ne]; intro e; apply hx; exact List.eq_nil_of_length_eq_zero (by omega)
              obtain ⟨e, g, o, ea, hI⟩ := item_old HY.out hx hB hbel
              clear hx
              go_wp2
              go_meet
              case rel => exact ⟨g, o, c, by rw [ea, e], hI, hbld'⟩
          case rest =>
            clear hown hbel hsz hbld' hce hfe hc' hB HY hBy
            obtain ⟨g, o, c9, rfl, hI, hbld'⟩ := hcut
            have hbld := hbld'
            obtain ⟨hM, hown, hrow, hfz, heff, hbel, hsz⟩ := hbld
            obtain ⟨ae, me, ce, hce⟩ := hrow i hil
            have hfe := hfz i
            obtain ⟨i5, hi5, _, hs5, _⟩ := info_parts info5
            clear hM hrow hfz heff
            have hLT := HLT.out
            go_wp2_with (first | (at_builtin; refine wpList_append_fits _ rfl _ _ _ rfl w.heap.size 5 i5 1 Ybaf.underlying22 hi5 hs5 (w.heap.size + 1) M (2 + T) _ rfl ((own_mid hown i _).alloc _) ⟨wc.heap.size, 0, none⟩ 2 2 [.int .u8 ((y.length : Int) / 256), .int .u8 ((y.length : Int) % 256)] rfl rfl (two_cells _ _ _ _ _ (by simp)) (two_one _ _) (by omega) ?_; intro w1 hown1 hgr1) | (at_builtin; refine wpList_append_fits _ rfl _ _ _ rfl w.heap.size 5 i5 1 Ybaf.underlying22 hi5 hs5 (w.heap.size + 1) (M + 2) (2 + T) _ rfl hown1 ⟨g, o, none⟩ y.length c9 (y.map (Value.int .u8)) rfl (by simp) (news_cells (hI.two ((((Two.grown (grownBy_setCell wc ⟨w.heap.size, i, none⟩ (.slice (some ⟨g, o, none⟩) y.length c9)) (.inr (.inl rfl))).trans (Two.grown (World.grownBy_alloc _ _ none) (.inl rfl))).trans (Two.grown hgr1 (.inr (.inr rfl))))))) (news_one y) (by omega) ?_; intro w2 hown2 hgr2))
            go_roundw
            case rel => exact ⟨i + 1, _, by omega, by go_num, rfl, bld_step hbld' hil (HYO.out i rfl) hI _ hgr1 hgr2 hown2⟩
            case measure => simp [intOf]; omega
        · have hik' : i = k := by omega
          subst hik'
          obtain ⟨hM', ⟨u0, e0⟩, ⟨u1, e1⟩, f0, f1, hdone⟩ := bld_done hbld' HLN.out HTT.out ht (fun j hj => (hits j hj).choose_spec.choose_spec.choose_spec.choose_spec.2.2.2)
          subst hM'
          obtain ⟨d1, d2, d3, d4, d5⟩ := hdone _ rfl
          have hne1 : (⟨w.heap.size + 1, 0, none⟩ : Addr) ≠ ⟨w.heap.size + 1, 1, none⟩ := by simp
          clear hM hown hrow hfz heff hbel hdone hbld' hits
          by_cases hi0 : i = 0
          · subst hi0
            have hits0 : its = [] := List.eq_nil_of_length_eq_zero HLN.out
            have hT0 : T = 0 := by rw [← HTT.out, enk_zero]; rfl
            subst hits0 hT0
            have HR : Hid (rv2 ((((0 : Nat) : Int) / 256) :: (((0 : Nat) : Int) % 256) :: encs (effs [])) = some ([], [])) := rv2_none_enc
            have hnil := fun (w : World) (a : Option Addr) (n c : Nat) => Lib.run_eql_slice_nil (P := Ybaf.prog) w 37 22 a n c 0 0 Ybaf.underlying37
            go_wp2_with (go_at_call 9; refine (ps_empty _ _ _ _ d2 d1 HR.out).mono ?_; rintro e w4 ⟨G, rfl, hb4⟩)
            go_ret
            exact ⟨rfl, d4.trans (hb4.mono (by omega))⟩
          · have hp : parse (((T : Int) / 256) :: ((T : Int) % 256) :: encs (effs its)) = some (effs its) := by
              refine parse_encs (effs its) T ?_ ?_ (effs_ne its)
              · rw [← enk_all, HLN.out]; exact HTT.out
              · intro e; have := effs_length its; rw [e] at this; have h := HLN.out; simp at this; omega
            have HP : Hid (parse (((T : Int) / 256) :: ((T : Int) % 256) :: encs (effs its)) = some (effs its)) := hp
            clear hp
            have hl : (effs its).length = i := by rw [effs_length]; exact HLN.out
            have HL : Hid ((effs its).length = i) := hl
            clear hl
            have hi1 : ((i : Int) == 0) = false := by rw [beq_eq_false_iff_ne]; omega
            go_wp2_with (go_at_call 9; refine (ps_ok _ _ _ _ d2 d1 HP.out).mono ?_; rintro e w4 ⟨G, he, hb4, hG, hgot⟩; rw [HL.out] at he hgot; subst he)
            have heff4 := eff_below d3 (by omega) hb4
            have hb5 : Below w.heap.size w w4 := d4.trans (hb4.mono (by omega))
            clear d1 d2 d3 d4 hb4 e0 e1
            go_loopw [12] (fun t wz => ∃ m : Nat, m ≤ i ∧ t = .int .i64 m ∧ ∃ q, wz = w4.drewN q) (fun t _ => i - (intOf t).toNat)
            case atStart => exact ⟨0, Nat.zero_le _, rfl, 0, rfl⟩
            case round =>
              obtain ⟨m, hm, rfl, q, rfl⟩ := hrel
              by_cases hmi : m < i
              · obtain ⟨v, c1, b1⟩ := hgot m hmi
                obtain ⟨g, o, c, c2, hI⟩ := heff4 m hmi
                have b2 := hI.bts
                have b1' := b1
                obtain ⟨a', c', rfl, _, _, _⟩ := b1'
                have HB1 : Hid (Bts w4 (.slice a' ((effs its).getD m []).length c') ((effs its).getD m [])) := b1
                have HB2 : Hid (Bts w4 (.slice (some ⟨g, o, none⟩) ((effs its).getD m []).length c) ((effs its).getD m [])) := b2
                have i0 : (0 : Int) ≤ (m : Int) := by omega
                have i1 : (m : Int) < (i : Int) := by omega
                clear b1 b2 hI hgot heff4
                generalize (effs its).getD m [] = x at *
                go_wp2
                go_quiet ((go_at_call 10; exact (eq_same _ _ _ x (HB1.out.drewN _) (HB2.out.drewN _)).mono fun _ _ ⟨he, hw⟩ => ⟨he, _, hw⟩))
                go_wp2
                go_roundw
                case rel => exact ⟨m + 1, by omega, by go_num, _, rfl⟩
                case measure => simp [intOf]; omega
              · go_wp2
                go_ret
                exact ⟨rfl, below_draws hb5 _⟩
end Go.Proofs.YbulkawwsFmt
