import Derived.Test.Qxb6600329aEncB
namespace Go.Proofs.Qxb6600329a.Enc
open Go.RowKit Go.ChangeShapes Go.WideShapes Go.ChangeAt

set_option maxHeartbeats 400000 in
theorem zb19 (a b : Option Addr) (la ca lb cb : Nat) (xs ys : List ByteArray) (w : World) (ha : Strs w a la xs) (hb : Strs w b lb ys) (hm : la ≤ maxLen) (hm' : lb ≤ maxLen) :
    Calls Try.prog 19 #[.slice a la ca, .slice b lb cb] w fun e w' => isBool e ∧ w = w' := by
  unfold maxLen at hm hm'
  go_enter Try.func19, Try.ntmps19
  go_wp2
  · go_ret
    exact ⟨⟨false, rfl⟩, rfl⟩
  · go_loop [5, 6] (fun n i => ∃ k m : Nat, k ≤ la ∧ i = .int .i64 k ∧ n = .int .i64 m ∧ m ≤ 1048576) (fun _ i => la - (intOf i).toNat)
    case atStart => exact ⟨0, la, Nat.zero_le _, rfl, by go_num, by omega⟩
    case round =>
      obtain ⟨k, m, hk, rfl, rfl, hm1⟩ := hrel
      by_cases hlt : k < la
      · obtain ⟨bl, o, s, rfl, hcx, hsz⟩ := ha.at hlt
        clear ha hb
        go_wp2
        · go_ret
          exact ⟨⟨false, rfl⟩, rfl⟩
        · go_ret
          exact ⟨⟨false, rfl⟩, rfl⟩
        · go_round
          case rel => exact ⟨k + 1, m + s.size, by omega, by go_num, by go_num, by omega⟩
          case measure => simp [intOf]; omega
      · clear ha
        go_wp2
        · go_ret
          exact ⟨⟨false, rfl⟩, rfl⟩
        · go_ret
          exact ⟨⟨false, rfl⟩, rfl⟩
        · go_loop [5, 7] (fun n i => ∃ k m : Nat, k ≤ lb ∧ i = .int .i64 k ∧ n = .int .i64 m ∧ m ≤ 1048576) (fun _ i => lb - (intOf i).toNat)
          case atStart => exact ⟨0, m + lb, Nat.zero_le _, rfl, by go_num, by omega⟩
          case round =>
            obtain ⟨k, m, hk, rfl, rfl, hm1⟩ := hrel
            by_cases hlt : k < lb
            · obtain ⟨bl, o, s, rfl, hcx, hsz⟩ := hb.at hlt
              clear hb
              go_wp2
              · go_ret
                exact ⟨⟨false, rfl⟩, rfl⟩
              · go_ret
                exact ⟨⟨false, rfl⟩, rfl⟩
              · go_round
                case rel => exact ⟨k + 1, m + s.size, by omega, by go_num, by go_num, by omega⟩
                case measure => simp [intOf]; omega
            · clear hb
              go_wp2
              go_ret
              exact ⟨⟨true, rfl⟩, rfl⟩

theorem enc_len {ss : List ByteArray} {len : Nat} (hl : ss.length = len) (hlen : len ≤ 65536) (ht : total ss ≤ 1048576) : (Code.encode ss).length ≤ 2686976 := by
  have := encode_bound hl hlen ht len
  rwa [List.take_of_length_le (by omega)] at this

theorem enc_ne {xs ys : List ByteArray} (hx : ∀ s ∈ xs, s.size ≤ maxLen) (hy : ∀ s ∈ ys, s.size ≤ maxLen) (h : xs ≠ ys) : Code.encode xs ≠ Code.encode ys := by
  intro e
  apply h
  unfold maxLen at hx hy
  exact Code.encode_inj xs ys (fun s hs => by have := hx s hs; omega) (fun s hs => by have := hy s hs; omega) e

set_option maxHeartbeats 1000000 in
theorem main5 (a b : Option Addr) (la ca lb cb : Nat) (xs ys : List ByteArray) (w : World) (ha : Strs w a la xs) (hb : Strs w b lb ys) (hm : la ≤ maxLen) (hm' : lb ≤ maxLen) :
    Calls Try.prog 5 #[.slice a la ca, .slice b lb cb] w fun e w' => e = .returned (.bool true) ∧ Below w.heap.size w w' := by
  have H19 := zb19 a b la ca lb cb xs ys w ha hb hm hm'
  unfold maxLen at hm hm'
  have q37 : ∀ (w : World) (a : Option Addr) (n c n' c' : Nat), (binOp .neq 37 (.slice a n c) (.slice none n' c')).run Try.prog w = .ok (.bool (!a.isNone)) w := fun w a n c n' c' => run_neq_slice_nil_any w 37 9 a n c n' c' Try.underlying37
  by_cases hla : 65536 < la
  · clear q37
    go_enter Try.func5, Try.ntmps5
    go_wp2_with fail
    refine H19.mono ?_
    rintro e w' ⟨⟨r, rfl⟩, rfl⟩
    cases r <;> (go_wp2; go_ret; exact ⟨rfl, Below.refl _ _⟩)
  by_cases hlb : 65536 < lb
  · clear q37
    go_enter Try.func5, Try.ntmps5
    go_wp2_with fail
    refine H19.mono ?_
    rintro e w' ⟨⟨r, rfl⟩, rfl⟩
    cases r <;> (go_wp2; go_ret; exact ⟨rfl, Below.refl _ _⟩)
  obtain ⟨w2, hr2, hA2, hB2⟩ := run_copy_strs w a la ca xs ha
  obtain ⟨w3, hr3, hA3, hB3⟩ := run_copy_strs w2 b lb cb ys (hb.later hB2)
  obtain ⟨w4, hr4, hA4, hB4⟩ := run_copy_strs w b lb cb ys hb
  obtain ⟨i0, hi, hz0, hz1, hz2⟩ := info_parts info9
  go_enter Try.func5, Try.ntmps5
  go_wp2_with fail
  refine H19.mono ?_
  rintro e w' ⟨⟨r, rfl⟩, rfl⟩
  clear H19
  cases r with
  | false =>
    clear hr2 hr3 hr4 q37
    go_wp2
    go_ret
    exact ⟨rfl, Below.refl _ _⟩
  | true =>
    cases a with
    | none =>
      clear hr2 hr3 hA3 hA2 hB2 hB3
      cases b with
      | none =>
        go_wp2_with fail
        have HA := ha
        have HB := hb
        have HW := Below.refl w.heap.size w
        clear ha hb
        clear hr4 hA4 hB4
        refine (sb_calls _ _ _ xs _ HA hm).mono ?_
        rintro e w' ⟨n, rfl, hn1, hn2, rfl⟩
        clear q37
        by_cases hna : 1048576 < n
        · go_wp2
          go_ret
          exact ⟨rfl, HW⟩
        go_wp2_with fail
        refine (sb_calls _ _ _ ys _ HB hm').mono ?_
        rintro e w' ⟨n', rfl, hn1', hn2', rfl⟩
        by_cases hnb : (1048576 : Int) - n < n'
        · go_wp2
          go_ret
          exact ⟨rfl, HW⟩
        have hta : total xs ≤ 1048576 := by have := hn2 (by omega); omega
        have htb : total ys ≤ 1048576 := by have := hn2' (by omega); omega
        have hea := enc_len HA.1 (by omega) hta
        have hsa := HA.2.1
        have hsb := HB.2.1
        have HSA : Hid (∀ s ∈ xs, s.size ≤ maxLen) := hsa
        have HSB : Hid (∀ s ∈ ys, s.size ≤ maxLen) := hsb
        clear hn2 hn2' hsa hsb
        go_wp2_with fail
        by_cases hxy : xs = ys
        · have HXY : Hid (xs = ys) := hxy
          clear hxy
          refine (zz_yes HA HB hm HXY.out).mono ?_
          rintro e w' ⟨rfl, k1, rfl⟩
          go_wp2_with fail
          refine (ec_calls (HA.drewN k1) (by omega) hta).mono ?_
          rintro e w5 ⟨a5, c5, rfl, hb5, hw5⟩
          have HB5 := (HB.drewN k1).later hw5
          have HW5 := HW.trans ((below_drewN (Below.refl _ _) k1).trans (hw5.mono HW.size))
          go_wp2_with fail
          refine (ec_calls HB5 (by omega) htb).mono ?_
          rintro e w6 ⟨a6, c6, rfl, hb6, hw6⟩
          have hb5' := hb5.later hw6
          have HW6 := HW5.trans (hw6.mono HW5.size)
          clear hw5 hw6 hb5 HW HB5 HW5
          go_wp2_with fail
          refine (be_yes hb5' hb6 (by unfold maxLen; omega) (by rw [HXY.out])).mono ?_
          rintro e w' ⟨rfl, k2, rfl⟩
          go_wp2
          go_ret
          exact ⟨rfl, below_drewN HW6 _⟩
        · have HXY : Hid (xs ≠ ys) := hxy
          clear hxy
          refine (zz_no HA HB hm HXY.out).mono ?_
          rintro e w' ⟨rfl, k1, rfl⟩
          go_wp2_with fail
          refine (ec_calls (HA.drewN k1) (by omega) hta).mono ?_
          rintro e w5 ⟨a5, c5, rfl, hb5, hw5⟩
          have HB5 := (HB.drewN k1).later hw5
          have HW5 := HW.trans ((below_drewN (Below.refl _ _) k1).trans (hw5.mono HW.size))
          go_wp2_with fail
          refine (ec_calls HB5 (by omega) htb).mono ?_
          rintro e w6 ⟨a6, c6, rfl, hb6, hw6⟩
          have hb5' := hb5.later hw6
          have HW6 := HW5.trans (hw6.mono HW5.size)
          clear hw5 hw6 hb5 HW HB5 HW5
          go_wp2_with fail
          refine (be_no hb5' hb6 (by unfold maxLen; omega) (enc_ne HSA.out HSB.out HXY.out)).mono ?_
          rintro e w' ⟨rfl, k2, rfl⟩
          go_wp2
          go_ret
          exact ⟨rfl, below_drewN HW6 _⟩
      | some bd =>
        go_wp2_with (at_make; refine wpList_make_row _ rfl (.tmp 33) _ 37 rfl 9 i0 (.string ByteArray.empty) Try.underlying37 hi hz0 hz1 rfl .i64 .i64 lb rfl rfl (by rw [hz2]; omega) (by omega) ?_)
        have HA := ha.later hB4
        have HB := hA4
        have HW := hB4
        clear ha hb
        clear hr4 hA4 hB4
        refine (sb_calls _ _ _ xs _ HA hm).mono ?_
        rintro e w' ⟨n, rfl, hn1, hn2, rfl⟩
        clear q37
        by_cases hna : 1048576 < n
        · go_wp2
          go_ret
          exact ⟨rfl, HW⟩
        go_wp2_with fail
        refine (sb_calls _ _ _ ys _ HB hm').mono ?_
        rintro e w' ⟨n', rfl, hn1', hn2', rfl⟩
        by_cases hnb : (1048576 : Int) - n < n'
        · go_wp2
          go_ret
          exact ⟨rfl, HW⟩
        have hta : total xs ≤ 1048576 := by have := hn2 (by omega); omega
        have htb : total ys ≤ 1048576 := by have := hn2' (by omega); omega
        have hea := enc_len HA.1 (by omega) hta
        have hsa := HA.2.1
        have hsb := HB.2.1
        have HSA : Hid (∀ s ∈ xs, s.size ≤ maxLen) := hsa
        have HSB : Hid (∀ s ∈ ys, s.size ≤ maxLen) := hsb
        clear hn2 hn2' hsa hsb
        go_wp2_with fail
        by_cases hxy : xs = ys
        · have HXY : Hid (xs = ys) := hxy
          clear hxy
          refine (zz_yes HA HB hm HXY.out).mono ?_
          rintro e w' ⟨rfl, k1, rfl⟩
          go_wp2_with fail
          refine (ec_calls (HA.drewN k1) (by omega) hta).mono ?_
          rintro e w5 ⟨a5, c5, rfl, hb5, hw5⟩
          have HB5 := (HB.drewN k1).later hw5
          have HW5 := HW.trans ((below_drewN (Below.refl _ _) k1).trans (hw5.mono HW.size))
          go_wp2_with fail
          refine (ec_calls HB5 (by omega) htb).mono ?_
          rintro e w6 ⟨a6, c6, rfl, hb6, hw6⟩
          have hb5' := hb5.later hw6
          have HW6 := HW5.trans (hw6.mono HW5.size)
          clear hw5 hw6 hb5 HW HB5 HW5
          go_wp2_with fail
          refine (be_yes hb5' hb6 (by unfold maxLen; omega) (by rw [HXY.out])).mono ?_
          rintro e w' ⟨rfl, k2, rfl⟩
          go_wp2
          go_ret
          exact ⟨rfl, below_drewN HW6 _⟩
        · have HXY : Hid (xs ≠ ys) := hxy
          clear hxy
          refine (zz_no HA HB hm HXY.out).mono ?_
          rintro e w' ⟨rfl, k1, rfl⟩
          go_wp2_with fail
          refine (ec_calls (HA.drewN k1) (by omega) hta).mono ?_
          rintro e w5 ⟨a5, c5, rfl, hb5, hw5⟩
          have HB5 := (HB.drewN k1).later hw5
          have HW5 := HW.trans ((below_drewN (Below.refl _ _) k1).trans (hw5.mono HW.size))
          go_wp2_with fail
          refine (ec_calls HB5 (by omega) htb).mono ?_
          rintro e w6 ⟨a6, c6, rfl, hb6, hw6⟩
          have hb5' := hb5.later hw6
          have HW6 := HW5.trans (hw6.mono HW5.size)
          clear hw5 hw6 hb5 HW HB5 HW5
          go_wp2_with fail
          refine (be_no hb5' hb6 (by unfold maxLen; omega) (enc_ne HSA.out HSB.out HXY.out)).mono ?_
          rintro e w' ⟨rfl, k2, rfl⟩
          go_wp2
          go_ret
          exact ⟨rfl, below_drewN HW6 _⟩
    | some ad =>
      clear hr4 hA4 hB4
      cases b with
      | none =>
        go_wp2_with (at_make; refine wpList_make_row _ rfl (.tmp 24) _ 37 rfl 9 i0 (.string ByteArray.empty) Try.underlying37 hi hz0 hz1 rfl .i64 .i64 la rfl rfl (by rw [hz2]; omega) (by omega) ?_)
        have HA := hA2
        have HB := hb.later hB2
        have HW := hB2
        clear ha hb
        clear hr2 hA2 hB2 hr3 hA3 hB3
        refine (sb_calls _ _ _ xs _ HA hm).mono ?_
        rintro e w' ⟨n, rfl, hn1, hn2, rfl⟩
        clear q37
        by_cases hna : 1048576 < n
        · go_wp2
          go_ret
          exact ⟨rfl, HW⟩
        go_wp2_with fail
        refine (sb_calls _ _ _ ys _ HB hm').mono ?_
        rintro e w' ⟨n', rfl, hn1', hn2', rfl⟩
        by_cases hnb : (1048576 : Int) - n < n'
        · go_wp2
          go_ret
          exact ⟨rfl, HW⟩
        have hta : total xs ≤ 1048576 := by have := hn2 (by omega); omega
        have htb : total ys ≤ 1048576 := by have := hn2' (by omega); omega
        have hea := enc_len HA.1 (by omega) hta
        have hsa := HA.2.1
        have hsb := HB.2.1
        have HSA : Hid (∀ s ∈ xs, s.size ≤ maxLen) := hsa
        have HSB : Hid (∀ s ∈ ys, s.size ≤ maxLen) := hsb
        clear hn2 hn2' hsa hsb
        go_wp2_with fail
        by_cases hxy : xs = ys
        · have HXY : Hid (xs = ys) := hxy
          clear hxy
          refine (zz_yes HA HB hm HXY.out).mono ?_
          rintro e w' ⟨rfl, k1, rfl⟩
          go_wp2_with fail
          refine (ec_calls (HA.drewN k1) (by omega) hta).mono ?_
          rintro e w5 ⟨a5, c5, rfl, hb5, hw5⟩
          have HB5 := (HB.drewN k1).later hw5
          have HW5 := HW.trans ((below_drewN (Below.refl _ _) k1).trans (hw5.mono HW.size))
          go_wp2_with fail
          refine (ec_calls HB5 (by omega) htb).mono ?_
          rintro e w6 ⟨a6, c6, rfl, hb6, hw6⟩
          have hb5' := hb5.later hw6
          have HW6 := HW5.trans (hw6.mono HW5.size)
          clear hw5 hw6 hb5 HW HB5 HW5
          go_wp2_with fail
          refine (be_yes hb5' hb6 (by unfold maxLen; omega) (by rw [HXY.out])).mono ?_
          rintro e w' ⟨rfl, k2, rfl⟩
          go_wp2
          go_ret
          exact ⟨rfl, below_drewN HW6 _⟩
        · have HXY : Hid (xs ≠ ys) := hxy
          clear hxy
          refine (zz_no HA HB hm HXY.out).mono ?_
          rintro e w' ⟨rfl, k1, rfl⟩
          go_wp2_with fail
          refine (ec_calls (HA.drewN k1) (by omega) hta).mono ?_
          rintro e w5 ⟨a5, c5, rfl, hb5, hw5⟩
          have HB5 := (HB.drewN k1).later hw5
          have HW5 := HW.trans ((below_drewN (Below.refl _ _) k1).trans (hw5.mono HW.size))
          go_wp2_with fail
          refine (ec_calls HB5 (by omega) htb).mono ?_
          rintro e w6 ⟨a6, c6, rfl, hb6, hw6⟩
          have hb5' := hb5.later hw6
          have HW6 := HW5.trans (hw6.mono HW5.size)
          clear hw5 hw6 hb5 HW HB5 HW5
          go_wp2_with fail
          refine (be_no hb5' hb6 (by unfold maxLen; omega) (enc_ne HSA.out HSB.out HXY.out)).mono ?_
          rintro e w' ⟨rfl, k2, rfl⟩
          go_wp2
          go_ret
          exact ⟨rfl, below_drewN HW6 _⟩
      | some bd =>
        go_wp2_with (at_make; first | refine wpList_make_row _ rfl (.tmp 24) _ 37 rfl 9 i0 (.string ByteArray.empty) Try.underlying37 hi hz0 hz1 rfl .i64 .i64 la rfl rfl (by rw [hz2]; omega) (by omega) ?_ | refine wpList_make_row _ rfl (.tmp 33) _ 37 rfl 9 i0 (.string ByteArray.empty) Try.underlying37 hi hz0 hz1 rfl .i64 .i64 lb rfl rfl (by rw [hz2]; omega) (by omega) ?_)
        have HA := hA2.later hB3
        have HB := hA3
        have HW := hB2.trans (hB3.mono hB2.size)
        clear ha hb
        clear hr2 hA2 hB2 hr3 hA3 hB3
        refine (sb_calls _ _ _ xs _ HA hm).mono ?_
        rintro e w' ⟨n, rfl, hn1, hn2, rfl⟩
        clear q37
        by_cases hna : 1048576 < n
        · go_wp2
          go_ret
          exact ⟨rfl, HW⟩
        go_wp2_with fail
        refine (sb_calls _ _ _ ys _ HB hm').mono ?_
        rintro e w' ⟨n', rfl, hn1', hn2', rfl⟩
        by_cases hnb : (1048576 : Int) - n < n'
        · go_wp2
          go_ret
          exact ⟨rfl, HW⟩
        have hta : total xs ≤ 1048576 := by have := hn2 (by omega); omega
        have htb : total ys ≤ 1048576 := by have := hn2' (by omega); omega
        have hea := enc_len HA.1 (by omega) hta
        have hsa := HA.2.1
        have hsb := HB.2.1
        have HSA : Hid (∀ s ∈ xs, s.size ≤ maxLen) := hsa
        have HSB : Hid (∀ s ∈ ys, s.size ≤ maxLen) := hsb
        clear hn2 hn2' hsa hsb
        go_wp2_with fail
        by_cases hxy : xs = ys
        · have HXY : Hid (xs = ys) := hxy
          clear hxy
          refine (zz_yes HA HB hm HXY.out).mono ?_
          rintro e w' ⟨rfl, k1, rfl⟩
          go_wp2_with fail
          refine (ec_calls (HA.drewN k1) (by omega) hta).mono ?_
          rintro e w5 ⟨a5, c5, rfl, hb5, hw5⟩
          have HB5 := (HB.drewN k1).later hw5
          have HW5 := HW.trans ((below_drewN (Below.refl _ _) k1).trans (hw5.mono HW.size))
          go_wp2_with fail
          refine (ec_calls HB5 (by omega) htb).mono ?_
          rintro e w6 ⟨a6, c6, rfl, hb6, hw6⟩
          have hb5' := hb5.later hw6
          have HW6 := HW5.trans (hw6.mono HW5.size)
          clear hw5 hw6 hb5 HW HB5 HW5
          go_wp2_with fail
          refine (be_yes hb5' hb6 (by unfold maxLen; omega) (by rw [HXY.out])).mono ?_
          rintro e w' ⟨rfl, k2, rfl⟩
          go_wp2
          go_ret
          exact ⟨rfl, below_drewN HW6 _⟩
        · have HXY : Hid (xs ≠ ys) := hxy
          clear hxy
          refine (zz_no HA HB hm HXY.out).mono ?_
          rintro e w' ⟨rfl, k1, rfl⟩
          go_wp2_with fail
          refine (ec_calls (HA.drewN k1) (by omega) hta).mono ?_
          rintro e w5 ⟨a5, c5, rfl, hb5, hw5⟩
          have HB5 := (HB.drewN k1).later hw5
          have HW5 := HW.trans ((below_drewN (Below.refl _ _) k1).trans (hw5.mono HW.size))
          go_wp2_with fail
          refine (ec_calls HB5 (by omega) htb).mono ?_
          rintro e w6 ⟨a6, c6, rfl, hb6, hw6⟩
          have hb5' := hb5.later hw6
          have HW6 := HW5.trans (hw6.mono HW5.size)
          clear hw5 hw6 hb5 HW HB5 HW5
          go_wp2_with fail
          refine (be_no hb5' hb6 (by unfold maxLen; omega) (enc_ne HSA.out HSB.out HXY.out)).mono ?_
          rintro e w' ⟨rfl, k2, rfl⟩
          go_wp2
          go_ret
          exact ⟨rfl, below_drewN HW6 _⟩

end Go.Proofs.Qxb6600329a.Enc
