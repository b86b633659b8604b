import Derived.Test.Qxb6600329aTabC
namespace Go.Proofs.Qxb6600329a.Tab
open Go.RowKit Go.ChangeShapes Go.WideShapes Go.ChangeAt

theorem Uts.at {w : World} {a : Option Addr} {len : Nat} {zs : List Int} (h : Uts w a len zs) {k : Nat} (hk : k < len) : ∃ b o, a = some ⟨b, o, none⟩ ∧ ∀ i, i < len → w.cell? ⟨b, o + i, none⟩ = some (.int .u32 (zs.getD i 0)) := by
  obtain ⟨hl, h0 | h1⟩ := h
  · omega
  · exact h1

theorem take_snoc {zs : List Int} {k : Nat} (h : k < zs.length) : zs.take (k + 1) = zs.take k ++ [zs.getD k 0] := by
  rw [List.take_succ_eq_append_getElem h]
  simp [List.getD, h]

theorem mem_take_of {zs : List Int} {j i : Nat} (hj : j < i) (hi : i ≤ zs.length) : zs.getD j 0 ∈ zs.take i := by
  have hl : j < zs.length := by omega
  rw [List.mem_take_iff_getElem]
  exact ⟨j, by omega, by simp [List.getD, hl]⟩

set_option maxHeartbeats 1000000 in
/-- firstOnly. -/
theorem fo_calls {a : Option Addr} {len cap : Nat} {zs : List Int} {w : World} (h : Uts w a len zs) (hlen : len ≤ 100000) :
    Calls Try.prog 14 #[.slice a len cap] w fun e w' => ∃ v', e = .returned v' ∧ OwnU w.heap.size w' v' (dedup zs) ∧ Below w.heap.size w w' := by
  obtain ⟨i0, hi, hz0, hz1, hz2⟩ := info_parts info33
  have HL : Hid (zs.length = len) := h.1
  go_enter Try.func14, Try.ntmps14
  go_wp2
  go_loopw [3, 4] (fun a i wr => ∃ (k : Nat) (v : Value), k ≤ len ∧ v = a ∧ i = .int .i64 k ∧ OwnU w.heap.size wr v (dedup (zs.take k)) ∧ Below w.heap.size w wr) (fun _ i _ => len - (intOf i).toNat)
  case atStart => exact ⟨0, _, Nat.zero_le _, rfl, rfl, World.ownsRow_nil _ _ _ _, Below.refl _ _⟩
  case round =>
    obtain ⟨k, v, hk, rfl, rfl, hown, hbel⟩ := hrel
    by_cases hlt : k < len
    · obtain ⟨b, o, rfl, hc⟩ := h.at hlt
      obtain ⟨x, hxn⟩ : ∃ x, x = zs.getD k 0 := ⟨_, rfl⟩
      have hcx : wr.cell? ⟨b, o + k, none⟩ = some (.int .u32 x) := by rw [hxn]; exact (hbel.cell (cell_lt (hc k hlt))).trans (hc k hlt)
      obtain ⟨L, hL⟩ : ∃ L, L = dedup (zs.take k) := ⟨_, rfl⟩
      have hll : L.length ≤ 100000 := by
        rw [hL]
        have := length_dedup (zs.take k)
        have h2 : (zs.take k).length ≤ k := List.length_take_le _ _
        omega
      rw [← hL] at hown
      have HOld : Hid (x ∈ zs.take k → dedup (zs.take (k + 1)) = L) := by
        intro hm
        rw [take_snoc (by rw [HL.out]; exact hlt), ← hxn, hL, dedup_old hm]
      have HNew : Hid (x ∉ zs.take k → dedup (zs.take (k + 1)) = L ++ [x]) := by
        intro hm
        rw [take_snoc (by rw [HL.out]; exact hlt), ← hxn, hL, dedup_new hm]
      have hws : w.heap.size ≤ wr.heap.size := hbel.size
      have HC : Hid (∀ i, i < len → wr.cell? ⟨b, o + i, none⟩ = some (.int .u32 (zs.getD i 0))) := fun i hi => (hbel.cell (cell_lt (hc i hi))).trans (hc i hi)
      clear hL h hxn hc
      have HOWN : Hid (OwnU w.heap.size wr v L) := hown
      clear hown
      go_wp2
      obtain ⟨wo, rfl⟩ : ∃ wo : World, wo = wr := ⟨_, rfl⟩
      go_loopw [5, 6] (fun f i wr => ∃ j : Nat, j ≤ k ∧ i = .int .i64 j ∧ f = .bool true ∧ (∃ n, wr = wo.drewN n) ∧ Hid (x ∉ zs.take j)) (fun _ i _ => k - (intOf i).toNat)
      case atStart => exact ⟨0, Nat.zero_le _, rfl, rfl, ⟨0, rfl⟩, by simp [Hid]⟩
      case round =>
        obtain ⟨j, hj, rfl, rfl, ⟨n, rfl⟩, HN⟩ := hrel
        by_cases hjk : j < k
        · obtain ⟨y, hyn⟩ : ∃ y, y = zs.getD j 0 := ⟨_, rfl⟩
          have hcy : wo.cell? ⟨b, o + j, none⟩ = some (.int .u32 y) := by rw [hyn]; exact HC.out j (by omega)
          have hltI : (k : Int) < (len : Int) := by omega
          have hltJ : (j : Int) < (len : Int) := by omega
          have HY : Hid (y = zs.getD j 0) := hyn
          clear hyn
          by_cases hyx : y = x
          · have HM : Hid (x ∈ zs.take k) := by
              show x ∈ zs.take k
              rw [← hyx, HY.out]
              exact mem_take_of hjk (by rw [HL.out]; omega)
            subst hyx
            go_wp2
            go_quiet (fail)
            go_wp2
            go_roundw
            case rel => exact ⟨k + 1, v, by omega, rfl, by go_num, by rw [HOld.out HM.out]; exact HOWN.out, by simpa using below_drewN (below_drewN hbel _) _⟩
            case measure => simp [intOf]; omega
          · have hne : (y == x) = false := by simpa using hyx
            have HNE : Hid (y ≠ x) := hyx
            clear hyx
            go_wp2
            go_quiet (fail)
            go_wp2
            go_roundw
            case rel =>
              refine ⟨j + 1, by omega, by go_num, rfl, ⟨_, rfl⟩, ?_⟩
              show x ∉ zs.take (j + 1)
              rw [take_snoc (by rw [HL.out]; omega), ← HY.out]
              simp only [List.mem_append, List.mem_singleton, not_or]
              exact ⟨HN.out, fun e => HNE.out e.symm⟩
            case measure => simp [intOf]; omega
        · obtain rfl : j = k := by omega
          clear HC
          have HOWN' : Hid (OwnU w.heap.size (wo.drewN n) v L) := HOWN
          have hbel' := below_drewN hbel n
          have hws' : w.heap.size ≤ (wo.drewN n).heap.size := hws
          clear HOWN hbel
          go_wp2_with (at_builtin; refine wpList_append_own _ rfl _ _ 25 rfl w.heap.size 33 i0 (.int .u32 0) 1 4 Try.underlying25 hi hz0 hz1 hz2 rfl (by decide) _ _ _ rfl (World.ownsRow.alloc HOWN'.out _) ⟨wo.heap.size, 0, none⟩ 1 1 [.int .u32 x] rfl rfl (cell_one_new _ _ _) (ints_oneCell .u32 [x]) (by unfold maxLen; omega) (by omega) (by simp; omega) ?_)
          intro v4 w4 hown4 hgrow4 _
          have Q4 := OwnU.snoc hown4
          have B4 := below_grown hbel' HOWN'.out hws' hgrow4
          clear hown4 hgrow4 HOWN' hbel' hws'
          go_wp2
          go_roundw
          case rel => exact ⟨j + 1, v4, by omega, rfl, by go_num, by rw [HNew.out HN.out]; exact Q4, B4⟩
          case measure => simp [intOf]; omega
    · have HOWN : Hid (OwnU w.heap.size wr v (dedup zs)) := by have h := hown; rw [List.take_of_length_le (by rw [HL.out]; omega)] at h; exact h
      clear hown h
      go_wp2
      go_ret
      exact ⟨v, rfl, HOWN.out, hbel⟩

end Go.Proofs.Qxb6600329a.Tab
