import Derived.Test.Qxb6600388aThree
namespace Go.Proofs.Qxb6600388a.Three
open Go.RowKit Go.ChangeShapes Go.WideShapes Go.ChangeAt
set_option linter.unusedVariables false

set_option maxHeartbeats 2000000 in
theorem main6_in (major wd : Nat) (a b : Option Addr) (la ca lb cb : Nat) (xs ys : List Int) (w : World) (ha : Bts w a la xs) (hb : Bts w b lb ys) (hna : a = none → la = 0 ∧ ca = 0) (hnb : b = none → lb = 0 ∧ cb = 0)
    (hlen : la + lb ≤ 1048576) (hmj : major ≤ 7) (hf : Code.Fits wd la) :
    Calls Try.prog 6 #[.int .u8 major, .int .u8 wd, .slice a la ca, .slice b lb cb] w fun e w' => e = .returned (.bool true) ∧ Below w.heap.size w w' := by
  have H18 := zb18 major wd a b la ca lb cb w (by unfold maxLen; omega) (by unfold maxLen; omega)
  have q23 : ∀ (w : World) (a : Option Addr) (n c n' c' : Nat), (binOp .neq 23 (.slice a n c) (.slice none n' c')).run Try.prog w = .ok (.bool (!a.isNone)) w := fun w a n c n' c' => run_neq_slice_nil_any w 23 5 a n c n' c' Try.underlying23
  have hw4 := hf.le
  have HF : Hid (Code.Fits wd la) := hf
  have HNA : Hid (a = none → la = 0 ∧ ca = 0) := hna
  have HNB : Hid (b = none → lb = 0 ∧ cb = 0) := hnb
  have HLEN := Code.length_encHead major wd la
  obtain ⟨A, hA⟩ : ∃ A, A = Code.argLen wd := ⟨_, rfl⟩
  have hA8 : A ≤ 8 := by rw [hA]; exact argLen_le hw4
  have HEH := eh_calls major wd la
  have HHO := fun tail => Code.headOf_enc (major := major) hf tail
  have HHS := fun tail c => Code.headOf_short (major := major) hf tail c
  rw [← hA] at HEH HHO HLEN HHS
  have HLEN' : Hid _ := HLEN
  have HEH' : Hid _ := HEH
  have HHO' : Hid _ := HHO
  have HHS' : Hid _ := HHS
  clear hA hf hna hnb HLEN HEH HHO HHS
  go_enter Try.func6, Try.ntmps6
  go_wp2_with fail
  refine H18.mono ?_
  rintro e w' ⟨⟨r, rfl⟩, rfl⟩
  clear H18
  cases r with
  | false =>
    clear q23
    go_wp2; go_ret; exact ⟨rfl, Below.refl _ _⟩
  | true =>
    have hI : (lb : Int) ≤ 1048576 - la := by omega
    go_wp2_with fail
    refine (fw_yes wd la _ HF.out).mono ?_
    rintro e w' ⟨rfl, rfl⟩
    go_wp2_with fail
    refine (cl_calls ha HNA.out (by omega)).mono ?_
    rintro e w1 ⟨a1, cap1, rfl, ha1, _, _, hc1, hc2, hbel1⟩
    have hb1 := hb.later hbel1
    clear ha hb HNA
    go_wp2_with fail
    refine (cl_calls hb1 HNB.out (by omega)).mono ?_
    rintro e w2 ⟨a2, cap2, rfl, hb2, _, _, hc3, hc4, hbel2⟩
    have ha2 := ha1.later hbel2
    have hw2 := hbel1.trans (hbel2.mono hbel1.size)
    clear ha1 hb1 HNB hbel1 hbel2
    go_wp2_with fail
    refine (HEH'.out _ hmj HF.out).mono ?_
    rintro e w3 ⟨rfl, hh3, hbel3⟩
    have ha3 := ha2.later hbel3
    have hb3 := hb2.later hbel3
    have hw3 := hw2.trans (hbel3.mono hw2.size)
    clear ha2 hb2 hbel3 hw2
    go_wp2_with fail
    refine (cc_calls hh3 ha3 (by omega) (by omega)).mono ?_
    rintro e w4 ⟨rfl, hi4, hbel4⟩
    have ha4 := ha3.later hbel4
    have hb4 := hb3.later hbel4
    have hw4' := hw3.trans (hbel4.mono hw3.size)
    clear ha3 hb3 hbel4 hw3 hh3
    go_wp2_with fail
    refine (cc_calls hi4 hb4 (by omega) (by omega)).mono ?_
    rintro e w5 ⟨rfl, hf5, hbel5⟩
    have ha5 := ha4.later hbel5
    have hb5 := hb4.later hbel5
    have hi5 := hi4.later hbel5
    have hw5 := hw4'.trans (hbel5.mono hw4'.size)
    clear ha4 hb4 hi4 hbel5 hw4'
    have HZ := zc_ok (cap := 1 + A + la + lb) hf5 (by omega) (Nat.le_refl _) (by omega) (by rw [List.append_assoc]; exact HHO'.out (xs ++ ys)) (by omega) (by omega) (info_le HF.out)
    rw [show 1 + A + la + lb - (1 + A) - la = lb by omega, show List.drop (1 + A) (Code.encHead major wd la ++ xs ++ ys) = xs ++ ys by rw [List.append_assoc]; exact drop_head HLEN'.out, show List.take la (xs ++ ys) = xs by rw [List.take_left' ha5.1], show List.drop (1 + A + la) (Code.encHead major wd la ++ xs ++ ys) = ys by rw [List.drop_left' (by rw [List.length_append, HLEN'.out, ha5.1])]] at HZ
    go_wp2_with fail
    refine HZ.mono ?_
    rintro e w6 ⟨o1, o2, rfl, hs6, hr6, hbel6⟩
    have ha6 := ha5.later hbel6
    have hb6 := hb5.later hbel6
    have hi6 := hi5.later hbel6
    have hw6 := hw5.trans (hbel6.mono hw5.size)
    clear ha5 hb5 hi5 hbel6 hw5 HZ hf5
    go_wp2_with fail
    refine (sm_yes hs6 ha6 (by unfold maxLen; omega) rfl).mono ?_
    rintro e w7 ⟨rfl, k1, rfl⟩
    go_wp2_with fail
    refine (sm_yes (hr6.drewN k1) (hb6.drewN k1) (by unfold maxLen; omega) rfl).mono ?_
    rintro e w8 ⟨rfl, k2, rfl⟩
    have HXL : Hid (xs.length = la) := ha6.1
    have HI6 : Hid (Bts w6 (some ⟨w3.heap.size, 0, none⟩) (1 + A + la) (Code.encHead major wd la ++ xs)) := hi6
    clear hs6 hr6 ha6 hb6 hi6 HEH'
    go_wp2
    go_loopw [15] (fun i wr => ∃ c : Nat, c ≤ 1 + A + la ∧ i = .int .i64 c ∧ Below w6.heap.size w6 wr) (fun i _ => 1 + A + la - (intOf i).toNat)
    case atStart => exact ⟨0, Nat.zero_le _, rfl, below_drewN (Below.refl _ _) _⟩
    case round =>
      obtain ⟨c, hc, rfl, hbel⟩ := hrel
      by_cases hlt : c < 1 + A + la
      · have hit : Bts wr (some ⟨w3.heap.size, 0, none⟩) c ((Code.encHead major wd la ++ xs).take c) := bts_take (HI6.out.later hbel) (by omega)
        by_cases hsh : c < 1 + A
        · have HZ := zc_no (cap := 1 + A + la) hit (by omega) (by omega) (by omega) (HHS'.out xs c hsh) (major : Int) (.inl rfl)
          clear hit
          go_wp2_with fail
          refine HZ.mono ?_
          rintro e wn ⟨rfl, hbeln⟩
          have hbn := hbel.trans (hbeln.mono hbel.size)
          clear HZ hbeln hbel
          go_wp2
          go_roundw
          case rel => exact ⟨c + 1, by omega, by go_num, hbn⟩
          case measure => simp [intOf]; omega
        · have e1 : (Code.encHead major wd la ++ xs).take c = Code.encHead major wd la ++ xs.take (c - (1 + A)) := by
            rw [List.take_append, HLEN'.out, List.take_of_length_le (by rw [HLEN'.out]; omega)]
          rw [e1] at hit
          have HZ := zc_trunc (cap := 1 + A + la) hit (by omega) (by omega) (by omega) (HHO'.out _) (by omega) (by omega) (by omega) (info_le HF.out)
          clear hit e1
          go_wp2_with fail
          refine HZ.mono ?_
          rintro e wn ⟨a', l', c', rfl, hbeln⟩
          have hbn := hbel.trans (hbeln.mono hbel.size)
          clear HZ hbeln hbel
          go_wp2
          go_roundw
          case rel => exact ⟨c + 1, by omega, by go_num, hbn⟩
          case measure => simp [intOf]; omega
      · clear HHS' HHO' q23
        go_wp2
        go_ret
        exact ⟨rfl, hw6.trans (hbel.mono hw6.size)⟩

end Go.Proofs.Qxb6600388a.Three
