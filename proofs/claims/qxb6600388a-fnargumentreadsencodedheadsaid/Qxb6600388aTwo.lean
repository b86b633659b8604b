import Derived.Test.Qxb6600388aCont
namespace Go.Proofs.Qxb6600388a.Two
open Go.RowKit Go.ChangeShapes Go.WideShapes Go.ChangeAt
set_option linter.unusedVariables false

set_option maxHeartbeats 400000 in
theorem zb15 (major want wd v : Nat) (a : Option Addr) (len cap : Nat) (w : World) (hm : len ≤ maxLen) :
    Calls Try.prog 15 #[.int .u8 major, .int .u8 want, .int .u8 wd, .int .u64 v, .slice a len cap] w fun e w' => isBool e ∧ w = w' := by
  unfold maxLen at hm
  go_enter Try.func15, Try.ntmps15
  go_wp2
  · go_ret
    exact ⟨⟨false, rfl⟩, rfl⟩
  · go_ret
    exact ⟨⟨true, rfl⟩, rfl⟩

set_option maxHeartbeats 1000000 in
theorem main5_out (major want wd v : Nat) (a : Option Addr) (len cap : Nat) (w : World) (hm : len ≤ maxLen) (hb : major ≤ 255) (hw : wd ≤ 255) (hv : v < 18446744073709551616)
    (ho : 1048576 < len ∨ 7 < major ∨ 4 < wd ∨ ¬ Code.Fits wd v) :
    Calls Try.prog 5 #[.int .u8 major, .int .u8 want, .int .u8 wd, .int .u64 v, .slice a len cap] w fun e w' => e = .returned (.bool true) ∧ Below w.heap.size w w' := by
  have H15 := zb15 major want wd v a len cap w hm
  unfold maxLen at hm
  by_cases h1 : 1048576 < len
  · clear ho
    go_enter Try.func5, Try.ntmps5
    go_wp2_with fail
    refine H15.mono ?_
    rintro e w' ⟨⟨r, rfl⟩, rfl⟩
    cases r <;> (go_wp2; go_ret; exact ⟨rfl, Below.refl _ _⟩)
  by_cases h2 : 7 < major
  · clear ho
    go_enter Try.func5, Try.ntmps5
    go_wp2_with fail
    refine H15.mono ?_
    rintro e w' ⟨⟨r, rfl⟩, rfl⟩
    cases r <;> (go_wp2; go_ret; exact ⟨rfl, Below.refl _ _⟩)
  by_cases h3 : 4 < wd
  · clear ho
    go_enter Try.func5, Try.ntmps5
    go_wp2_with fail
    refine H15.mono ?_
    rintro e w' ⟨⟨r, rfl⟩, rfl⟩
    cases r <;> (go_wp2; go_ret; exact ⟨rfl, Below.refl _ _⟩)
  have HF : Hid (¬ Code.Fits wd v) := by
    rcases ho with h | h | h | h
    · omega
    · omega
    · omega
    · exact h
  clear ho
  go_enter Try.func5, Try.ntmps5
  go_wp2_with fail
  refine H15.mono ?_
  rintro e w' ⟨⟨r, rfl⟩, rfl⟩
  clear H15
  cases r with
  | false => go_wp2; go_ret; exact ⟨rfl, Below.refl _ _⟩
  | true =>
    go_wp2_with fail
    refine (fw_no wd v _ (by omega) hv HF.out).mono ?_
    rintro e w' ⟨rfl, rfl⟩
    go_wp2
    go_ret
    exact ⟨rfl, Below.refl _ _⟩

set_option maxHeartbeats 1000000 in
theorem main5_in (major want wd v : Nat) (a : Option Addr) (len cap : Nat) (zs : List Int) (w : World) (h : Bts w a len zs) (hnil : a = none → len = 0 ∧ cap = 0) (hlen : len ≤ 1048576) (hb : major ≤ 7) (hwant : want ≤ 255) (hf : Code.Fits wd v) :
    Calls Try.prog 5 #[.int .u8 major, .int .u8 want, .int .u8 wd, .int .u64 v, .slice a len cap] w fun e w' => e = .returned (.bool true) ∧ Below w.heap.size w w' := by
  have H15 := zb15 major want wd v a len cap w (by unfold maxLen; omega)
  have hw4 := hf.le
  have hv : v < 18446744073709551616 := hf.lt
  have HF : Hid (Code.Fits wd v) := hf
  have HN : Hid (a = none → len = 0 ∧ cap = 0) := hnil
  have HLEN := Code.length_encHead major wd v
  obtain ⟨A, hA⟩ : ∃ A, A = Code.argLen wd := ⟨_, rfl⟩
  have hA8 : A ≤ 8 := by rw [hA]; exact argLen_le hw4
  have HEH := eh_calls major wd v
  have HHO := fun tail => Code.headOf_enc (major := major) hf tail
  rw [← hA] at HEH HHO HLEN
  have HLEN' : Hid _ := HLEN
  clear hA hf hnil HLEN
  go_enter Try.func5, Try.ntmps5
  go_wp2_with fail
  refine H15.mono ?_
  rintro e w' ⟨⟨r, rfl⟩, rfl⟩
  clear H15
  cases r with
  | false =>
    clear HEH HHO
    go_wp2; go_ret; exact ⟨rfl, Below.refl _ _⟩
  | true =>
    have HEH' : Hid _ := HEH
    have HHO' : Hid _ := HHO
    clear HEH HHO
    go_wp2_with fail
    refine (fw_yes wd v _ HF.out).mono ?_
    rintro e w' ⟨rfl, rfl⟩
    go_wp2_with fail
    refine (cl_calls h HN.out hlen).mono ?_
    rintro e w1 ⟨a1, cap1, rfl, hb1, _, _, hc1, hc2, hbel1⟩
    clear h HN
    go_wp2_with fail
    refine (HEH'.out _ hb HF.out).mono ?_
    rintro e w2 ⟨rfl, hb2, hbel2⟩
    have hb1a := hb1.later hbel2
    have hw2 := hbel1.trans (hbel2.mono hbel1.size)
    clear hb1 hbel1 hbel2
    go_wp2_with fail
    refine (cc_calls hb2 hb1a (by omega) (by omega)).mono ?_
    rintro e w3 ⟨rfl, hb3, hbel3⟩
    have hw3 := hw2.trans (hbel3.mono hw2.size)
    have hb1b := hb1a.later hbel3
    clear hw2 hbel3 hb2 hb1a
    go_wp2_with fail
    by_cases hwm : want = major
    · subst hwm
      refine (za_ok hb3 (by omega) (Nat.le_refl _) (by omega) (HHO'.out zs) (by omega) (by omega) (info_le HF.out)).mono ?_
      rintro e w4 ⟨rfl, hb4, hbel4⟩
      rw [drop_head HLEN'.out, show 1 + A + len - (1 + A) = len by omega] at hb4
      have hb1c := hb1b.later hbel4
      have hw4' := hw3.trans (hbel4.mono hw3.size)
      clear hb3 hbel4 hw3 HHO' HEH' hb1b
      go_wp2_with fail
      refine (sm_yes hb4 hb1c (by unfold maxLen; omega) rfl).mono ?_
      rintro e w5 ⟨rfl, k, rfl⟩
      go_wp2
      go_ret
      exact ⟨rfl, below_drewN hw4' _⟩
    · have hne : ((want : Int) == (major : Int)) = false := by rw [beq_eq_false_iff_ne]; omega
      refine (za_no hb3 (by omega) (Nat.le_refl _) (by omega) (HHO'.out zs) (want : Int) (.inr (by omega))).mono ?_
      rintro e w4 ⟨rfl, hbel4⟩
      have hb3' := hb3.later hbel4
      have hw4' := hw3.trans (hbel4.mono hw3.size)
      clear hb3 hbel4 hw3 HHO' HEH' hb1b
      go_wp2_with fail
      refine (sm_yes hb3' hb3' (by unfold maxLen; omega) rfl).mono ?_
      rintro e w5 ⟨rfl, k, rfl⟩
      go_wp2
      go_ret
      exact ⟨rfl, below_drewN hw4' _⟩

end Go.Proofs.Qxb6600388a.Two
