import Derived.Test.Qxb6600329aRefuseA
namespace Go.Proofs.Qxb6600329a.Refuse
open Go.RowKit Go.ChangeShapes Go.WideShapes Go.ChangeAt

theorem strs_changed {w : World} {g n k : Nat} {xs : List ByteArray} {s : ByteArray} (h : w.rowIs g 9 n (upTo xs n)) (hl : xs.length = n) (hxs : ∀ s ∈ xs, s.size ≤ maxLen) (hs : s.size ≤ maxLen) :
    Strs (w.setCell ⟨g, k, none⟩ (.string s)) (some ⟨g, 0, none⟩) n (xs.set k s) := by
  refine strs_row (h.set k _) (by simpa using hl) (fun t ht => ?_) (fun i hi => ?_)
  · rcases List.mem_or_eq_of_mem_set ht with h | h
    · exact hxs t h
    · rw [h]; exact hs
  · by_cases e : i = k
    · subst e; simp [List.getD, hl, hi]
    · rw [if_neg e]
      have hki : ¬ k = i := fun x => e x.symm
      simp [upTo, hi, List.getD, hki]

theorem strs_longer {w : World} {g n : Nat} {xs : List ByteArray} {s : ByteArray} (h : w.rowIs g 9 (n + 1) (upTo xs n)) (hl : xs.length = n) (hxs : ∀ s ∈ xs, s.size ≤ maxLen) (hs : s.size ≤ maxLen) :
    Strs (w.setCell ⟨g, n, none⟩ (.string s)) (some ⟨g, 0, none⟩) (n + 1) (xs ++ [s]) := by
  refine strs_row (h.set n _) (by simpa using hl) (fun t ht => ?_) (fun i hi => ?_)
  · rcases List.mem_append.1 ht with h | h
    · exact hxs t h
    · rw [List.mem_singleton.1 h]; exact hs
  · by_cases e : i = n
    · subst e; subst hl; simp [List.getD]
    · rw [if_neg e]
      have hlt : i < xs.length := by omega
      have hin : i < n := by omega
      simp [upTo, hin, List.getD, List.getElem?_append_left hlt]

set_option maxHeartbeats 2000000 in
theorem main7_in (ad : Addr) (la ca k : Nat) (s : ByteArray) (xs : List ByteArray) (w : World) (ha : Strs w (some ad) la xs) (hm : la ≤ maxLen) (hs : s.size ≤ maxLen) (hla : la ≤ 65536) (hk : k < la) :
    Calls Try.prog 7 #[.slice (some ad) la ca, .int .i64 k, .string s] w fun e w' => e = .returned (.bool true) ∧ Below w.heap.size w w' := by
  have H25 := zb25 (some ad) la ca k s xs w ha hm hs
  have q37 : ∀ (w : World) (a : Option Addr) (n c n' c' : Nat), (binOp .neq 37 (.slice a n c) (.slice none n' c')).run Try.prog w = .ok (.bool (!a.isNone)) w := fun w a n c n' c' => run_neq_slice_nil_any w 37 9 a n c n' c' Try.underlying37
  have hs0 := hs
  unfold maxLen at hm hs
  obtain ⟨w2, hr2, hA2, hB2⟩ := run_copy_strs w (some ad) la ca xs ha
  have hmk := run_make_row' (P := Try.prog) 37 9 (.string ByteArray.empty) 16 Try.underlying37 info9 rfl .i64 .i64 la (by omega) (by omega)
  have hmk1 := run_make_row' (P := Try.prog) 37 9 (.string ByteArray.empty) 16 Try.underlying37 info9 rfl .i64 .i64 (la + 1) (by omega) (by omega)
  rw [show ((la + 1 : Nat) : Int) = (la : Int) + 1 from by omega] at hmk1
  have hcells : ∀ i, i < la → w2.cell? ⟨w.heap.size, 0 + i, none⟩ = some (.string (xs.getD i ByteArray.empty)) := by
    obtain ⟨_, _, h0 | ⟨b, o, e, hc⟩⟩ := hA2
    · omega
    · cases e; exact hc
  have hBw2 : w.heap.size < w2.heap.size := cell_lt (hcells 0 (by omega))
  have hxl : xs.length = la := ha.1
  have hxs : ∀ s ∈ xs, s.size ≤ maxLen := ha.2.1
  have HXL : Hid (xs.length = la) := hxl
  have HXS : Hid (∀ s ∈ xs, s.size ≤ maxLen) := hxs
  clear hxl hxs ha
  obtain ⟨x, hxn⟩ : ∃ s, s = xs.getD k ByteArray.empty := ⟨_, rfl⟩
  have hcx : w2.cell? ⟨w.heap.size, k, none⟩ = some (.string x) := by rw [hxn]; have := hcells k hk; rwa [Nat.zero_add] at this
  have HX : Hid (x = xs.getD k ByteArray.empty) := hxn
  have HC : Hid (∀ i, i < la → w2.cell? ⟨w.heap.size, 0 + i, none⟩ = some (.string (xs.getD i ByteArray.empty))) := hcells
  clear hxn hcells
  go_enter Try.func7, Try.ntmps7
  go_wp2_with fail
  refine H25.mono ?_
  rintro e w' ⟨⟨r, rfl⟩, rfl⟩
  clear H25
  cases r with
  | false =>
    clear hr2 q37 hmk hmk1
    go_wp2
    go_ret
    exact ⟨rfl, Below.refl _ _⟩
  | true =>
    go_wp2_with fail
    clear hr2 hmk q37
    refine (sb_calls _ _ _ xs _ hA2 hm).mono ?_
    rintro e w' ⟨n, rfl, hn1, hn2, rfl⟩
    clear hn2
    by_cases hna : 1048576 < n
    · go_wp2
      go_ret
      exact ⟨rfl, hB2⟩
    by_cases hnb : (1048576 : Int) - n < s.size
    · go_wp2
      go_ret
      exact ⟨rfl, hB2⟩
    by_cases heq : (x.toList == s.toList) = true
    · go_wp2
      go_ret
      exact ⟨rfl, hB2⟩
    have heq' : (x.toList == s.toList) = false := by simpa using heq
    clear heq
    go_wp2_with fail
    refine (cs_calls w.heap.size 0 la la xs w2 hla hBw2 HC.out).mono ?_
    rintro e w3 ⟨rfl, hrow3, hB3⟩
    have HC3 : Hid (∀ i, i < la → w3.cell? ⟨w.heap.size, 0 + i, none⟩ = some (.string (xs.getD i ByteArray.empty))) := fun i hi => (hB3.cell (by exact hBw2)).trans (HC.out i hi)
    have hBw3 : w.heap.size < w3.heap.size := Nat.lt_of_lt_of_le hBw2 hB3.size
    go_wp2_with fail
    refine (cs_calls w.heap.size 0 la la xs w3 hla hBw3 HC3.out).mono ?_
    rintro e w4 ⟨rfl, hrow4, hB4⟩
    clear hcx
    obtain ⟨v0, hv0⟩ : ∃ v0, w4.cell? ⟨w3.heap.size, k, none⟩ = some v0 := ⟨_, hrow4.cell hk⟩
    have hf0 : w4.frozen? ⟨w3.heap.size, k, none⟩ = false := hrow4.frozen k
    have hlt34 : w3.heap.size < w4.heap.size := hrow4.lt
    have HC4 : Hid (∀ i, i < la → (w4.setCell ⟨w3.heap.size, k, none⟩ (.string s)).cell? ⟨w.heap.size, 0 + i, none⟩ = some (.string (xs.getD i ByteArray.empty))) :=
      fun i hi => (((Below.refl w3.heap.size w4).setCell (p := ⟨w3.heap.size, k, none⟩) (Nat.le_refl _) (.string s)).cell (by exact hBw3)).trans ((hB4.cell (by exact hBw3)).trans (HC3.out i hi))
    have HS4 : Hid ((w4.setCell ⟨w3.heap.size, k, none⟩ (.string s)).heap.size = w4.heap.size) := by show _ = _; simp
    have HR5 : Hid (((w4.setCell ⟨w3.heap.size, k, none⟩ (.string s)).alloc (.cells (madeCells #[.string ByteArray.empty] (la + 1)) 9)).rowIs w4.heap.size 9 (la + 1) (upTo xs 0)) := by
      have := World.rowIs_made (w4.setCell ⟨w3.heap.size, k, none⟩ (.string s)) (.string ByteArray.empty) (la + 1) 9
      rw [HS4.out] at this
      exact this.congr (fun i _ => by simp [upTo])
    have hB45 : Below w3.heap.size w3 (w4.setCell ⟨w3.heap.size, k, none⟩ (.string s)) := hB4.setCell (Nat.le_refl _) _
    have HC5 : Hid (Strs (w4.setCell ⟨w3.heap.size, k, none⟩ (.string s)) (some ⟨w3.heap.size, 0, none⟩) la (xs.set k s)) := strs_changed hrow4 HXL.out HXS.out hs0
    clear hrow4 HC HC3
    go_wp2_with fail
    clear hmk1 hv0 hf0 v0
    go_loopw [12] (fun i wr => ∃ j : Nat, j ≤ la ∧ i = .int .i64 j ∧ wr.rowIs w4.heap.size 9 (la + 1) (upTo xs j) ∧ Below w4.heap.size (w4.setCell ⟨w3.heap.size, k, none⟩ (.string s)) wr) (fun i _ => la - (intOf i).toNat)
    case atStart => exact ⟨0, Nat.zero_le _, rfl, HR5.out, (Below.refl _ _).alloc (Nat.le_of_eq HS4.out.symm) _⟩
    case round =>
      obtain ⟨j, hj, rfl, hrow, hbel⟩ := hrel
      clear HR5
      by_cases hlt : j < la
      · obtain ⟨y, hyn⟩ : ∃ s, s = xs.getD j ByteArray.empty := ⟨_, rfl⟩
        have hcy : wr.cell? ⟨w.heap.size, j, none⟩ = some (.string y) := by rw [hyn]; have := (hbel.cell (p := ⟨w.heap.size, 0 + j, none⟩) (by exact Nat.lt_trans hBw3 hlt34)).trans (HC4.out j hlt); rwa [Nat.zero_add] at this
        obtain ⟨v0, hv0⟩ : ∃ v0, wr.cell? ⟨w4.heap.size, j, none⟩ = some v0 := ⟨_, hrow.cell (by omega)⟩
        have hf0 : wr.frozen? ⟨w4.heap.size, j, none⟩ = false := hrow.frozen j
        have HR : Hid ((wr.setCell ⟨w4.heap.size, j, none⟩ (.string y)).rowIs w4.heap.size 9 (la + 1) (upTo xs (j + 1))) := by rw [hyn]; exact row_step hrow
        clear hyn hrow
        go_wp2
        go_roundw
        case rel => exact ⟨j + 1, by omega, by go_num, HR.out, hbel.setCell (Nat.le_refl _) _⟩
        case measure => simp [intOf]; omega
      · obtain rfl : j = la := by omega
        obtain ⟨v0, hv0⟩ : ∃ v0, wr.cell? ⟨w4.heap.size, j, none⟩ = some v0 := ⟨_, hrow.cell (by omega)⟩
        have hf0 : wr.frozen? ⟨w4.heap.size, j, none⟩ = false := hrow.frozen j
        have hbelf : Below w4.heap.size (w4.setCell ⟨w3.heap.size, k, none⟩ (.string s)) (wr.setCell ⟨w4.heap.size, j, none⟩ (.string s)) := hbel.setCell (Nat.le_refl _) _
        have h3f := hB45.trans (hbelf.mono (Nat.le_of_lt hlt34))
        have h2f := hB3.trans (h3f.mono hB3.size)
        have hwf := hB2.trans (h2f.mono (Nat.le_of_lt hBw2))
        have HA := hA2.later h2f
        have HSm := (strs_row (ss := xs) hrow3 HXL.out HXS.out (fun i hi => by simp [upTo, hi])).later h3f
        have HCh := HC5.out.later (hbelf.mono (Nat.le_of_eq HS4.out))
        have HL := strs_longer hrow HXL.out HXS.out hs0
        have HN1 : Hid (xs ≠ xs.set k s) := set_ne (by rw [HXL.out]; exact hk) (by rw [← HX.out]; exact eq_str heq')
        have HN2 : Hid (xs ≠ xs ++ [s]) := snoc_ne xs s
        clear hbel hbelf h3f h2f hA2 hrow3 HC5 hrow HC4 hB45 hB2 hB3 hB4 heq' HX
        go_wp2_with fail
        refine (zz_yes HA HSm hm rfl).mono ?_
        rintro e w' ⟨rfl, k1, rfl⟩
        go_wp2_with fail
        refine (zz_no (HA.drewN _) (HCh.drewN _) hm HN1.out).mono ?_
        rintro e w' ⟨rfl, k2, rfl⟩
        go_wp2_with fail
        refine (zz_no (HCh.drewN _) (HA.drewN _) hm HN1.out.symm).mono ?_
        rintro e w' ⟨rfl, k3, rfl⟩
        go_wp2_with fail
        refine (zz_no (HA.drewN _) (HL.drewN _) hm HN2.out).mono ?_
        rintro e w' ⟨rfl, k4, rfl⟩
        go_wp2_with fail
        refine (zz_no (HL.drewN _) (HA.drewN _) (by unfold maxLen; omega) HN2.out.symm).mono ?_
        rintro e w' ⟨rfl, k5, rfl⟩
        go_wp2
        go_ret
        exact ⟨rfl, below_drewN hwf _⟩

end Go.Proofs.Qxb6600329a.Refuse
