import Derived.Test.Qxb6600329aTabB
namespace Go.Proofs.Qxb6600329a.Tab
open Go.RowKit Go.ChangeShapes Go.WideShapes Go.ChangeAt

theorem RecAt.later {w w' : World} {b o : Nat} {r : R} (h : RecAt w b o r) (hb : Below w.heap.size w w') : RecAt w' b o r := by
  obtain ⟨c0, c1, c2, c3, c4, rest⟩ := h
  exact ⟨(hb.cell (cell_lt c0)).trans c0, (hb.cell (cell_lt c1)).trans c1, (hb.cell (cell_lt c2)).trans c2, (hb.cell (cell_lt c3)).trans c3, (hb.cell (cell_lt c4)).trans c4, rest⟩

theorem Recs.later {w w' : World} {a : Option Addr} {len : Nat} {rs : List R} (h : Recs w a len rs) (hb : Below w.heap.size w w') : Recs w' a len rs := by
  obtain ⟨hl, h0 | ⟨b, o, rfl, hc⟩⟩ := h
  · exact ⟨hl, .inl h0⟩
  · exact ⟨hl, .inr ⟨b, o, rfl, fun i r hr => (hc i r hr).later hb⟩⟩

set_option maxHeartbeats 1000000 in
/-- candidates. -/
theorem ca_calls {a : Option Addr} {len cap : Nat} {rs : List R} {w : World} (h : Recs w a len rs) (hlen : len ≤ 4096) :
    Calls Try.prog 15 #[.slice a len cap] w fun e w' => ∃ v', e = .returned v' ∧ OwnU w.heap.size w' v' (cands rs) ∧ Below w.heap.size w w' := by
  obtain ⟨i0, hi, hz0, hz1, hz2⟩ := info_parts info33
  have HL : Hid (rs.length = len) := h.1
  go_enter Try.func15, Try.ntmps15
  go_wp2
  go_loopw [3, 4] (fun a i wr => ∃ (k : Nat) (v : Value), k ≤ len ∧ v = a ∧ i = .int .i64 k ∧ OwnU w.heap.size wr v (cands (rs.take k)) ∧ Below w.heap.size w wr) (fun _ i _ => len - (intOf i).toNat)
  case atStart => exact ⟨0, _, Nat.zero_le _, rfl, rfl, World.ownsRow_nil _ _ _ _, Below.refl _ _⟩
  case round =>
    obtain ⟨k, v, hk, rfl, rfl, hown, hbel⟩ := hrel
    by_cases hlt : k < len
    · obtain ⟨b, o, r, rfl, hr, hc⟩ := h.at hlt
      obtain ⟨c0, c1, c2, c3, c4, wf0, wf3, s1, s4⟩ := hc.later hbel
      obtain ⟨L, hL⟩ : ∃ L, L = cands (rs.take k) := ⟨_, rfl⟩
      have hll : L.length ≤ 8192 := by
        rw [hL]
        have := length_cands (rs.take k)
        have h2 : (rs.take k).length ≤ k := List.length_take_le _ _
        omega
      rw [← hL] at hown
      have HE : Hid (cands (rs.take (k + 1)) = L ++ cand1 r) := by rw [hL]; exact cands_snoc hr
      have hws : w.heap.size ≤ wr.heap.size := hbel.size
      have hbw : b < w.heap.size := cell_lt hc.1
      clear hL h hr hc wf0 wf3 s1 s4
      obtain ⟨id, rel, has, iid, irel⟩ := r
      simp only [cand1] at HE
      simp only at c0 c1 c2 c3 c4
      have HOWN : Hid (OwnU w.heap.size wr v L) := hown
      clear hown
      by_cases h1 : rel.toList.isEmpty = true
      · rw [if_pos h1] at HE
        cases has with
        | false =>
          rw [if_neg (by simp)] at HE
          go_wp2
          go_roundw
          case rel => exact ⟨k + 1, v, by omega, rfl, by go_num, by rw [HE.out]; simpa using HOWN.out, hbel⟩
          case measure => simp [intOf]; omega
        | true =>
          by_cases h2 : irel.toList.isEmpty = true
          · rw [if_neg (by simp [h2])] at HE
            go_wp2
            go_roundw
            case rel => exact ⟨k + 1, v, by omega, rfl, by go_num, by rw [HE.out]; simpa using HOWN.out, hbel⟩
            case measure => simp [intOf]; omega
          · have h2' : irel.toList.isEmpty = false := by simpa using h2
            clear h2
            rw [if_pos (by simp [h2'])] at HE
            go_wp2_with (at_builtin; refine wpList_append_own _ rfl _ _ 25 rfl w.heap.size 33 i0 (.int .u32 0) 1 4 Try.underlying25 hi hz0 hz1 hz2 rfl (by decide) _ _ _ rfl (World.ownsRow.alloc HOWN.out _) ⟨wr.heap.size, 0, none⟩ 1 1 [.int .u32 iid] rfl rfl (cell_one_new _ _ _) (ints_oneCell .u32 [iid]) (by unfold maxLen; omega) (by omega) (by simp; omega) ?_)
            intro v4 w4 hown4 hgrow4 _
            have Q4 := OwnU.snoc hown4
            have B4 := below_grown hbel HOWN.out hws hgrow4
            clear hown4 hgrow4 HOWN hbel c0 c1 c2 c3 c4
            go_wp2
            go_roundw
            case rel => exact ⟨k + 1, v4, by omega, rfl, by go_num, by rw [HE.out]; simpa using Q4, B4⟩
            case measure => simp [intOf]; omega
      · have h1' : rel.toList.isEmpty = false := by simpa using h1
        clear h1
        rw [if_neg (by simp [h1'])] at HE
        go_wp2_with (at_builtin; refine wpList_append_own _ rfl _ _ 25 rfl w.heap.size 33 i0 (.int .u32 0) 1 4 Try.underlying25 hi hz0 hz1 hz2 rfl (by decide) _ _ _ rfl (World.ownsRow.alloc HOWN.out _) ⟨wr.heap.size, 0, none⟩ 1 1 [.int .u32 id] rfl rfl (cell_one_new _ _ _) (ints_oneCell .u32 [id]) (by unfold maxLen; omega) (by omega) (by simp; omega) ?_)
        intro v4 w4 hown4 hgrow4 _
        have Q4 := OwnU.snoc hown4
        have B4 := below_grown hbel HOWN.out hws hgrow4
        have Bc := below_grown (Below.refl w.heap.size wr) HOWN.out hws hgrow4
        have d0 := (Bc.cell (by exact hbw)).trans c0
        have d1 := (Bc.cell (by exact hbw)).trans c1
        have d2 := (Bc.cell (by exact hbw)).trans c2
        have d3 := (Bc.cell (by exact hbw)).trans c3
        have d4 := (Bc.cell (by exact hbw)).trans c4
        have hws4 : w.heap.size ≤ w4.heap.size := B4.size
        obtain ⟨L4, hL4⟩ : ∃ L4, L4 = L ++ [id] := ⟨_, rfl⟩
        rw [← hL4] at Q4
        have hll4 : L4.length ≤ 8193 := by rw [hL4]; simp; omega
        have HL4 : Hid (L4 = L ++ [id]) := hL4
        have HQ4 : Hid (OwnU w.heap.size w4 v4 L4) := Q4
        clear hown4 hgrow4 HOWN hbel c0 c1 c2 c3 c4 Bc hL4 Q4
        cases has with
        | false =>
          rw [if_neg (by simp)] at HE
          go_wp2
          go_roundw
          case rel => exact ⟨k + 1, v4, by omega, rfl, by go_num, by have q := HQ4.out; rw [HL4.out] at q; rw [HE.out]; simpa using q, B4⟩
          case measure => simp [intOf]; omega
        | true =>
          by_cases h2 : irel.toList.isEmpty = true
          · rw [if_neg (by simp [h2])] at HE
            go_wp2
            go_roundw
            case rel => exact ⟨k + 1, v4, by omega, rfl, by go_num, by have q := HQ4.out; rw [HL4.out] at q; rw [HE.out]; simpa using q, B4⟩
            case measure => simp [intOf]; omega
          · have h2' : irel.toList.isEmpty = false := by simpa using h2
            clear h2
            rw [if_pos (by simp [h2'])] at HE
            go_wp2_with (at_builtin; refine wpList_append_own _ rfl _ _ 25 rfl w.heap.size 33 i0 (.int .u32 0) 1 4 Try.underlying25 hi hz0 hz1 hz2 rfl (by decide) _ _ _ rfl (World.ownsRow.alloc HQ4.out _) ⟨w4.heap.size, 0, none⟩ 1 1 [.int .u32 iid] rfl rfl (cell_one_new _ _ _) (ints_oneCell .u32 [iid]) (by unfold maxLen; omega) (by omega) (by simp; omega) ?_)
            intro v5 w5 hown5 hgrow5 _
            have Q5 := OwnU.snoc hown5
            have B5 := below_grown B4 HQ4.out hws4 hgrow5
            clear hown5 hgrow5 HQ4 B4 d0 d1 d2 d3 d4
            go_wp2
            go_roundw
            case rel => exact ⟨k + 1, v5, by omega, rfl, by go_num, by have q := Q5; rw [HL4.out] at q; rw [HE.out]; simpa using q, B5⟩
            case measure => simp [intOf]; omega
    · have HOWN : Hid (OwnU w.heap.size wr v (cands rs)) := by have h := hown; rw [List.take_of_length_le (by rw [HL.out]; omega)] at h; exact h
      clear hown h
      go_wp2
      go_ret
      exact ⟨v, rfl, HOWN.out, hbel⟩

end Go.Proofs.Qxb6600329a.Tab
