import Derived.Test.Qxb6600329aBase
namespace Go.Proofs.Qxb6600329a.Symm
open Go.RowKit Go.ChangeShapes Go.WideShapes Go.ChangeAt

set_option maxHeartbeats 400000 in
theorem zb24 (a b : Option Addr) (la ca lb cb : Nat) (xs ys : List ByteArray) (w : World) (ha : Strs w a la xs) (hb : Strs w b lb ys) (hm : la ≤ maxLen) (hm' : lb ≤ maxLen) :
    Calls Try.prog 24 #[.slice a la ca, .slice b lb cb] w fun e w' => isBool e ∧ w = w' := by
  unfold maxLen at hm hm'
  go_enter Try.func24, Try.ntmps24
  go_wp2
  · go_ret
    exact ⟨⟨false, rfl⟩, rfl⟩
  · go_loop [5, 6] (fun n i => ∃ k m : Nat, k ≤ la ∧ i = .int .i64 k ∧ n = .int .i64 m ∧ m ≤ 1048576) (fun _ i => la - (intOf i).toNat)
    case atStart => exact ⟨0, la, Nat.zero_le _, rfl, by go_num, by omega⟩
    case round =>
      obtain ⟨k, m, hk, rfl, rfl, hm1⟩ := hrel
      by_cases hlt : k < la
      · obtain ⟨bl, o, s, rfl, hcx, hsz⟩ := ha.at hlt
        clear ha hb
        go_wp2
        · go_ret
          exact ⟨⟨false, rfl⟩, rfl⟩
        · go_ret
          exact ⟨⟨false, rfl⟩, rfl⟩
        · go_round
          case rel => exact ⟨k + 1, m + s.size, by omega, by go_num, by go_num, by omega⟩
          case measure => simp [intOf]; omega
      · clear ha
        go_wp2
        · go_ret
          exact ⟨⟨false, rfl⟩, rfl⟩
        · go_ret
          exact ⟨⟨false, rfl⟩, rfl⟩
        · go_loop [5, 7] (fun n i => ∃ k m : Nat, k ≤ lb ∧ i = .int .i64 k ∧ n = .int .i64 m ∧ m ≤ 1048576) (fun _ i => lb - (intOf i).toNat)
          case atStart => exact ⟨0, m + lb, Nat.zero_le _, rfl, by go_num, by omega⟩
          case round =>
            obtain ⟨k, m, hk, rfl, rfl, hm1⟩ := hrel
            by_cases hlt : k < lb
            · obtain ⟨bl, o, s, rfl, hcx, hsz⟩ := hb.at hlt
              clear hb
              go_wp2
              · go_ret
                exact ⟨⟨false, rfl⟩, rfl⟩
              · go_ret
                exact ⟨⟨false, rfl⟩, rfl⟩
              · go_round
                case rel => exact ⟨k + 1, m + s.size, by omega, by go_num, by go_num, by omega⟩
                case measure => simp [intOf]; omega
            · clear hb
              go_wp2
              go_ret
              exact ⟨⟨true, rfl⟩, rfl⟩

set_option maxHeartbeats 1000000 in
theorem main6 (a b : Option Addr) (la ca lb cb : Nat) (xs ys : List ByteArray) (w : World) (ha : Strs w a la xs) (hb : Strs w b lb ys) (hm : la ≤ maxLen) (hm' : lb ≤ maxLen) :
    Calls Try.prog 6 #[.slice a la ca, .slice b lb cb] w fun e w' => e = .returned (.bool true) ∧ Below w.heap.size w w' := by
  have H24 := zb24 a b la ca lb cb xs ys w ha hb hm hm'
  unfold maxLen at hm hm'
  have q37 : ∀ (w : World) (a : Option Addr) (n c n' c' : Nat), (binOp .neq 37 (.slice a n c) (.slice none n' c')).run Try.prog w = .ok (.bool (!a.isNone)) w := fun w a n c n' c' => run_neq_slice_nil_any w 37 9 a n c n' c' Try.underlying37
  by_cases hla : 65536 < la
  · clear q37
    go_enter Try.func6, Try.ntmps6
    go_wp2_with fail
    refine H24.mono ?_
    rintro e w' ⟨⟨r, rfl⟩, rfl⟩
    cases r <;> (go_wp2; go_ret; exact ⟨rfl, Below.refl _ _⟩)
  by_cases hlb : 65536 < lb
  · clear q37
    go_enter Try.func6, Try.ntmps6
    go_wp2_with fail
    refine H24.mono ?_
    rintro e w' ⟨⟨r, rfl⟩, rfl⟩
    cases r <;> (go_wp2; go_ret; exact ⟨rfl, Below.refl _ _⟩)
  obtain ⟨w2, hr2, hA2, hB2⟩ := run_copy_strs w a la ca xs ha
  obtain ⟨w3, hr3, hA3, hB3⟩ := run_copy_strs w2 b lb cb ys (hb.later hB2)
  obtain ⟨w4, hr4, hA4, hB4⟩ := run_copy_strs w b lb cb ys hb
  obtain ⟨i0, hi, hz0, hz1, hz2⟩ := info_parts info9
  go_enter Try.func6, Try.ntmps6
  go_wp2_with fail
  refine H24.mono ?_
  rintro e w' ⟨⟨r, rfl⟩, rfl⟩
  clear H24
  cases r with
  | false =>
    clear hr2 hr3 hr4 q37
    go_wp2
    go_ret
    exact ⟨rfl, Below.refl _ _⟩
  | true =>
    cases a with
    | none =>
      clear hr2 hr3 hA3 hA2 hB2 hB3
      cases b with
      | none =>
        go_wp2_with fail
        have HA := ha
        have HB := hb
        have HW := Below.refl w.heap.size w
        clear ha hb
        clear hr4 hA4 hB4
        refine (sb_calls _ _ _ xs _ HA hm).mono ?_
        rintro e w' ⟨n, rfl, hn1, hn2, rfl⟩
        clear hn2 q37
        by_cases hna : 1048576 < n
        · go_wp2
          go_ret
          exact ⟨rfl, HW⟩
        go_wp2_with fail
        refine (sb_calls _ _ _ ys _ HB hm').mono ?_
        rintro e w' ⟨n', rfl, hn1', hn2', rfl⟩
        clear hn2'
        by_cases hnb : (1048576 : Int) - n < n'
        · go_wp2
          go_ret
          exact ⟨rfl, HW⟩
        go_wp2_with fail
        by_cases hxy : xs = ys
        · have HXY : Hid (xs = ys) := hxy
          clear hxy
          refine (zz_yes HA HB hm HXY.out).mono ?_
          rintro e w' ⟨rfl, k1, rfl⟩
          go_wp2_with fail
          refine (zz_yes (HB.drewN _) (HA.drewN _) hm' HXY.out.symm).mono ?_
          rintro e w' ⟨rfl, k2, rfl⟩
          go_wp2_with fail
          refine (zz_yes (HA.drewN _) (HA.drewN _) hm rfl).mono ?_
          rintro e w' ⟨rfl, k3, rfl⟩
          go_wp2_with fail
          refine (zz_yes (HB.drewN _) (HB.drewN _) hm' rfl).mono ?_
          rintro e w' ⟨rfl, k4, rfl⟩
          go_wp2
          go_ret
          exact ⟨rfl, below_drewN HW _⟩
        · have HXY : Hid (xs ≠ ys) := hxy
          clear hxy
          refine (zz_no HA HB hm HXY.out).mono ?_
          rintro e w' ⟨rfl, k1, rfl⟩
          go_wp2_with fail
          refine (zz_no (HB.drewN _) (HA.drewN _) hm' (Ne.symm HXY.out)).mono ?_
          rintro e w' ⟨rfl, k2, rfl⟩
          go_wp2_with fail
          refine (zz_yes (HA.drewN _) (HA.drewN _) hm rfl).mono ?_
          rintro e w' ⟨rfl, k3, rfl⟩
          go_wp2_with fail
          refine (zz_yes (HB.drewN _) (HB.drewN _) hm' rfl).mono ?_
          rintro e w' ⟨rfl, k4, rfl⟩
          go_wp2
          go_ret
          exact ⟨rfl, below_drewN HW _⟩
      | some bd =>
        go_wp2_with (at_make; refine wpList_make_row _ rfl (.tmp 35) _ 37 rfl 9 i0 (.string ByteArray.empty) Try.underlying37 hi hz0 hz1 rfl .i64 .i64 lb rfl rfl (by rw [hz2]; omega) (by omega) ?_)
        have HA := ha.later hB4
        have HB := hA4
        have HW := hB4
        clear ha hb
        clear hr4 hA4 hB4
        refine (sb_calls _ _ _ xs _ HA hm).mono ?_
        rintro e w' ⟨n, rfl, hn1, hn2, rfl⟩
        clear hn2 q37
        by_cases hna : 1048576 < n
        · go_wp2
          go_ret
          exact ⟨rfl, HW⟩
        go_wp2_with fail
        refine (sb_calls _ _ _ ys _ HB hm').mono ?_
        rintro e w' ⟨n', rfl, hn1', hn2', rfl⟩
        clear hn2'
        by_cases hnb : (1048576 : Int) - n < n'
        · go_wp2
          go_ret
          exact ⟨rfl, HW⟩
        go_wp2_with fail
        by_cases hxy : xs = ys
        · have HXY : Hid (xs = ys) := hxy
          clear hxy
          refine (zz_yes HA HB hm HXY.out).mono ?_
          rintro e w' ⟨rfl, k1, rfl⟩
          go_wp2_with fail
          refine (zz_yes (HB.drewN _) (HA.drewN _) hm' HXY.out.symm).mono ?_
          rintro e w' ⟨rfl, k2, rfl⟩
          go_wp2_with fail
          refine (zz_yes (HA.drewN _) (HA.drewN _) hm rfl).mono ?_
          rintro e w' ⟨rfl, k3, rfl⟩
          go_wp2_with fail
          refine (zz_yes (HB.drewN _) (HB.drewN _) hm' rfl).mono ?_
          rintro e w' ⟨rfl, k4, rfl⟩
          go_wp2
          go_ret
          exact ⟨rfl, below_drewN HW _⟩
        · have HXY : Hid (xs ≠ ys) := hxy
          clear hxy
          refine (zz_no HA HB hm HXY.out).mono ?_
          rintro e w' ⟨rfl, k1, rfl⟩
          go_wp2_with fail
          refine (zz_no (HB.drewN _) (HA.drewN _) hm' (Ne.symm HXY.out)).mono ?_
          rintro e w' ⟨rfl, k2, rfl⟩
          go_wp2_with fail
          refine (zz_yes (HA.drewN _) (HA.drewN _) hm rfl).mono ?_
          rintro e w' ⟨rfl, k3, rfl⟩
          go_wp2_with fail
          refine (zz_yes (HB.drewN _) (HB.drewN _) hm' rfl).mono ?_
          rintro e w' ⟨rfl, k4, rfl⟩
          go_wp2
          go_ret
          exact ⟨rfl, below_drewN HW _⟩
    | some ad =>
      clear hr4 hA4 hB4
      cases b with
      | none =>
        go_wp2_with (at_make; refine wpList_make_row _ rfl (.tmp 26) _ 37 rfl 9 i0 (.string ByteArray.empty) Try.underlying37 hi hz0 hz1 rfl .i64 .i64 la rfl rfl (by rw [hz2]; omega) (by omega) ?_)
        have HA := hA2
        have HB := hb.later hB2
        have HW := hB2
        clear ha hb
        clear hr2 hA2 hB2 hr3 hA3 hB3
        refine (sb_calls _ _ _ xs _ HA hm).mono ?_
        rintro e w' ⟨n, rfl, hn1, hn2, rfl⟩
        clear hn2 q37
        by_cases hna : 1048576 < n
        · go_wp2
          go_ret
          exact ⟨rfl, HW⟩
        go_wp2_with fail
        refine (sb_calls _ _ _ ys _ HB hm').mono ?_
        rintro e w' ⟨n', rfl, hn1', hn2', rfl⟩
        clear hn2'
        by_cases hnb : (1048576 : Int) - n < n'
        · go_wp2
          go_ret
          exact ⟨rfl, HW⟩
        go_wp2_with fail
        by_cases hxy : xs = ys
        · have HXY : Hid (xs = ys) := hxy
          clear hxy
          refine (zz_yes HA HB hm HXY.out).mono ?_
          rintro e w' ⟨rfl, k1, rfl⟩
          go_wp2_with fail
          refine (zz_yes (HB.drewN _) (HA.drewN _) hm' HXY.out.symm).mono ?_
          rintro e w' ⟨rfl, k2, rfl⟩
          go_wp2_with fail
          refine (zz_yes (HA.drewN _) (HA.drewN _) hm rfl).mono ?_
          rintro e w' ⟨rfl, k3, rfl⟩
          go_wp2_with fail
          refine (zz_yes (HB.drewN _) (HB.drewN _) hm' rfl).mono ?_
          rintro e w' ⟨rfl, k4, rfl⟩
          go_wp2
          go_ret
          exact ⟨rfl, below_drewN HW _⟩
        · have HXY : Hid (xs ≠ ys) := hxy
          clear hxy
          refine (zz_no HA HB hm HXY.out).mono ?_
          rintro e w' ⟨rfl, k1, rfl⟩
          go_wp2_with fail
          refine (zz_no (HB.drewN _) (HA.drewN _) hm' (Ne.symm HXY.out)).mono ?_
          rintro e w' ⟨rfl, k2, rfl⟩
          go_wp2_with fail
          refine (zz_yes (HA.drewN _) (HA.drewN _) hm rfl).mono ?_
          rintro e w' ⟨rfl, k3, rfl⟩
          go_wp2_with fail
          refine (zz_yes (HB.drewN _) (HB.drewN _) hm' rfl).mono ?_
          rintro e w' ⟨rfl, k4, rfl⟩
          go_wp2
          go_ret
          exact ⟨rfl, below_drewN HW _⟩
      | some bd =>
        go_wp2_with (at_make; first | refine wpList_make_row _ rfl (.tmp 26) _ 37 rfl 9 i0 (.string ByteArray.empty) Try.underlying37 hi hz0 hz1 rfl .i64 .i64 la rfl rfl (by rw [hz2]; omega) (by omega) ?_ | refine wpList_make_row _ rfl (.tmp 35) _ 37 rfl 9 i0 (.string ByteArray.empty) Try.underlying37 hi hz0 hz1 rfl .i64 .i64 lb rfl rfl (by rw [hz2]; omega) (by omega) ?_)
        have HA := hA2.later hB3
        have HB := hA3
        have HW := hB2.trans (hB3.mono hB2.size)
        clear ha hb
        clear hr2 hA2 hB2 hr3 hA3 hB3
        refine (sb_calls _ _ _ xs _ HA hm).mono ?_
        rintro e w' ⟨n, rfl, hn1, hn2, rfl⟩
        clear hn2 q37
        by_cases hna : 1048576 < n
        · go_wp2
          go_ret
          exact ⟨rfl, HW⟩
        go_wp2_with fail
        refine (sb_calls _ _ _ ys _ HB hm').mono ?_
        rintro e w' ⟨n', rfl, hn1', hn2', rfl⟩
        clear hn2'
        by_cases hnb : (1048576 : Int) - n < n'
        · go_wp2
          go_ret
          exact ⟨rfl, HW⟩
        go_wp2_with fail
        by_cases hxy : xs = ys
        · have HXY : Hid (xs = ys) := hxy
          clear hxy
          refine (zz_yes HA HB hm HXY.out).mono ?_
          rintro e w' ⟨rfl, k1, rfl⟩
          go_wp2_with fail
          refine (zz_yes (HB.drewN _) (HA.drewN _) hm' HXY.out.symm).mono ?_
          rintro e w' ⟨rfl, k2, rfl⟩
          go_wp2_with fail
          refine (zz_yes (HA.drewN _) (HA.drewN _) hm rfl).mono ?_
          rintro e w' ⟨rfl, k3, rfl⟩
          go_wp2_with fail
          refine (zz_yes (HB.drewN _) (HB.drewN _) hm' rfl).mono ?_
          rintro e w' ⟨rfl, k4, rfl⟩
          go_wp2
          go_ret
          exact ⟨rfl, below_drewN HW _⟩
        · have HXY : Hid (xs ≠ ys) := hxy
          clear hxy
          refine (zz_no HA HB hm HXY.out).mono ?_
          rintro e w' ⟨rfl, k1, rfl⟩
          go_wp2_with fail
          refine (zz_no (HB.drewN _) (HA.drewN _) hm' (Ne.symm HXY.out)).mono ?_
          rintro e w' ⟨rfl, k2, rfl⟩
          go_wp2_with fail
          refine (zz_yes (HA.drewN _) (HA.drewN _) hm rfl).mono ?_
          rintro e w' ⟨rfl, k3, rfl⟩
          go_wp2_with fail
          refine (zz_yes (HB.drewN _) (HB.drewN _) hm' rfl).mono ?_
          rintro e w' ⟨rfl, k4, rfl⟩
          go_wp2
          go_ret
          exact ⟨rfl, below_drewN HW _⟩

set_option maxRecDepth 100000 in
theorem lifted (os : Os) (started : os.Started) (H : Type) (enc : TypeId × Value → H) :
    ReturnsInHanded {} Try.checked os 6 .any (Rows.fnSameColumnsSymmetricReflexiveSpec.pre6 enc Try.prog Try.f6 Rows.fnSameColumnsSymmetricReflexiveRow.domain false) (Rows.fnSameColumnsSymmetricReflexiveSpec.post enc Try.prog Try.f6 false true false false) := by
  refine returnsInHanded_of_change (C := Try.checked) own started (by kernel_rfl) Try.func6
    (ChangeSpec.witness6 (enc := enc) (C := Try.checked) false ⟨#[], #[.slice none 0 0, .slice none 0 0], []⟩ 8 (by kernel_rfl) (by kernel_rfl) (by kernel_rfl) (by kernel_rfl)) ?_
  intro W base args ds gs before hval0 hW hcnd _
  have hval : ∀ (j : Nat) t v, Try.f6.params[j]? = some t → args[j]? = some v → Value.okWide Try.prog W .any base t v := hval0
  have hW' := hW
  obtain ⟨p, q, hA0, hV, rfl, hfz, hnd⟩ := hW
  have hA : DataW.TrodAll enc Try.prog W 0 (fun _ => true) true Try.f6.params.toList args.toList ds p := hA0
  rw [Try.params6] at hA hval
  obtain ⟨v0, vs0, d0, ds0, p0, q0, hargs, rfl, rfl, h0, r0⟩ := trodAll_cons hA
  obtain ⟨v1, vs1, d1, ds1, p1, q1, rfl, rfl, rfl, h1, r1⟩ := trodAll_cons r0
  obtain ⟨rfl, rfl, rfl⟩ := trodAll_nil r1
  obtain rfl : args = #[v0, v1] := by cases args; simp_all
  obtain ⟨rfl, rfl⟩ := trodVars_none hV
  obtain ⟨a0, len0, cap0, rfl⟩ := okWide_slice Try.underlying37 (hval 0 37 v0 rfl rfl)
  obtain ⟨a1, len1, cap1, rfl⟩ := okWide_slice Try.underlying37 (hval 1 37 v1 rfl rfl)
  have k0 := h0
  have k1 := h1
  have lt0 : ∀ x ∈ p0, x.block < W.heap.size := by obtain ⟨m, hm⟩ := k0; exact DataW.trod_lt m _ _ _ hm
  have lt1 : ∀ x ∈ p1, x.block < W.heap.size := by obtain ⟨m, hm⟩ := k1; exact DataW.trod_lt m _ _ _ hm
  obtain ⟨xs, w0, m0⟩ := view_strs h0
  obtain ⟨ys, w1, m1⟩ := view_strs h1
  clear hA0 hval0
  refine (main6 a0 a1 len0 cap0 len1 cap1 xs ys W w0 w1 m0 m1).mono fun e W' ⟨he, bel⟩ => ?_
  subst he
  exact ⟨_, rfl, _, _, _, [], _, [], hW', trodAll_mk1 (shut_bool Try.underlying4 _), (trodAll_cons_mk (Below.trod laidOut (by kernel_rfl) (of_decide_eq_true (by kernel_rfl)) k0 bel lt0) (trodAll_cons_mk (Below.trod laidOut (by kernel_rfl) (of_decide_eq_true (by kernel_rfl)) k1 bel lt1) trodAll_mk0)), rfl, bel.frame _, fun h => by cases h⟩

theorem over : Rows.fnSameColumnsSymmetricReflexiveRow.holds Try.pinned (OpenSpec.ofChange Rows.fnSameColumnsSymmetricReflexiveSpec) :=
  OpenClaim.holds_of_wide 6 Try.f6 rfl rfl rfl rfl rfl rfl rfl ⟨rfl, rfl, rfl, rfl, rfl⟩ rfl rfl rfl rfl rfl (by kernel_rfl) Try.func6 (by kernel_rfl)
    (of_decide_eq_true (by kernel_rfl)) (by unfold Func.isWrapper; first | (rw [if_pos (by decide +kernel)]; kernel_rfl) | (rw [if_neg (by decide +kernel)]; exact ⟨rfl, rfl⟩))
    (fun os started H enc _ => lifted os started H enc)

/-- THE STATEMENT. -/
theorem proved : Rows.FnSameColumnsSymmetricReflexiveSaid := over
#print axioms proved
end Go.Proofs.Qxb6600329a.Symm
