import Derived.Test.Qxb6600388aReadB
namespace Go.Proofs.Qxb6600388a.One
open Go.RowKit Go.ChangeShapes Go.WideShapes Go.ChangeAt
set_option linter.unusedVariables false

set_option maxHeartbeats 400000 in
theorem zb8 (major wd v : Nat) (a : Option Addr) (len cap : Nat) (w : World) (hm : len ≤ maxLen) :
    Calls Try.prog 8 #[.int .u8 major, .int .u8 wd, .int .u64 v, .slice a len cap] w fun e w' => isBool e ∧ w = w' := by
  unfold maxLen at hm
  go_enter Try.func8, Try.ntmps8
  go_wp2
  · go_ret
    exact ⟨⟨false, rfl⟩, rfl⟩
  · go_ret
    exact ⟨⟨true, rfl⟩, rfl⟩

set_option maxHeartbeats 1000000 in
theorem main3_out (major wd v : Nat) (a : Option Addr) (len cap : Nat) (w : World) (hm : len ≤ maxLen) (hb : major ≤ 255) (hw : wd ≤ 255) (hv : v < 18446744073709551616)
    (ho : 1048576 < len ∨ 7 < major ∨ 4 < wd ∨ ¬ Code.Fits wd v) :
    Calls Try.prog 3 #[.int .u8 major, .int .u8 wd, .int .u64 v, .slice a len cap] w fun e w' => e = .returned (.bool true) ∧ Below w.heap.size w w' := by
  have H8 := zb8 major wd v a len cap w hm
  unfold maxLen at hm
  by_cases h1 : 1048576 < len
  · clear ho
    go_enter Try.func3, Try.ntmps3
    go_wp2_with fail
    refine H8.mono ?_
    rintro e w' ⟨⟨r, rfl⟩, rfl⟩
    cases r <;> (go_wp2; go_ret; exact ⟨rfl, Below.refl _ _⟩)
  by_cases h2 : 7 < major
  · clear ho
    go_enter Try.func3, Try.ntmps3
    go_wp2_with fail
    refine H8.mono ?_
    rintro e w' ⟨⟨r, rfl⟩, rfl⟩
    cases r <;> (go_wp2; go_ret; exact ⟨rfl, Below.refl _ _⟩)
  by_cases h3 : 4 < wd
  · clear ho
    go_enter Try.func3, Try.ntmps3
    go_wp2_with fail
    refine H8.mono ?_
    rintro e w' ⟨⟨r, rfl⟩, rfl⟩
    cases r <;> (go_wp2; go_ret; exact ⟨rfl, Below.refl _ _⟩)
  have HF : Hid (¬ Code.Fits wd v) := by
    rcases ho with h | h | h | h
    · omega
    · omega
    · omega
    · exact h
  clear ho
  go_enter Try.func3, Try.ntmps3
  go_wp2_with fail
  refine H8.mono ?_
  rintro e w' ⟨⟨r, rfl⟩, rfl⟩
  clear H8
  cases r with
  | false => go_wp2; go_ret; exact ⟨rfl, Below.refl _ _⟩
  | true =>
    go_wp2_with fail
    refine (fw_no wd v _ (by omega) hv HF.out).mono ?_
    rintro e w' ⟨rfl, rfl⟩
    go_wp2
    go_ret
    exact ⟨rfl, Below.refl _ _⟩

set_option maxHeartbeats 1000000 in
theorem main3_in (major wd v : Nat) (a : Option Addr) (len cap : Nat) (zs : List Int) (w : World) (h : Bts w a len zs) (hnil : a = none → len = 0 ∧ cap = 0) (hlen : len ≤ 1048576) (hb : major ≤ 7) (hf : Code.Fits wd v) :
    Calls Try.prog 3 #[.int .u8 major, .int .u8 wd, .int .u64 v, .slice a len cap] w fun e w' => e = .returned (.bool true) ∧ Below w.heap.size w w' := by
  have H8 := zb8 major wd v a len cap w (by unfold maxLen; omega)
  have hw4 := hf.le
  have hv : v < 18446744073709551616 := hf.lt
  have HF : Hid (Code.Fits wd v) := hf
  have HN : Hid (a = none → len = 0 ∧ cap = 0) := hnil
  obtain ⟨A, hA⟩ : ∃ A, A = Code.argLen wd := ⟨_, rfl⟩
  have hA8 : A ≤ 8 := by
    rw [hA]; unfold Code.argLen
    have : wd = 0 ∨ wd = 1 ∨ wd = 2 ∨ wd = 3 ∨ wd = 4 := by omega
    rcases this with rfl | rfl | rfl | rfl | rfl <;> simp
  have HEH := eh_calls major wd v
  have HHO := fun tail => Code.headOf_enc (major := major) hf tail
  rw [← hA] at HEH HHO
  clear hA hf hnil
  go_enter Try.func3, Try.ntmps3
  go_wp2_with fail
  refine H8.mono ?_
  rintro e w' ⟨⟨r, rfl⟩, rfl⟩
  clear H8
  cases r with
  | false =>
    clear HEH HHO
    go_wp2; go_ret; exact ⟨rfl, Below.refl _ _⟩
  | true =>
    have HEH' : Hid _ := HEH
    have HHO' : Hid _ := HHO
    clear HEH HHO
    go_wp2_with fail
    refine (fw_yes wd v _ HF.out).mono ?_
    rintro e w' ⟨rfl, rfl⟩
    go_wp2_with fail
    refine (cl_calls h HN.out hlen).mono ?_
    rintro e w1 ⟨a1, cap1, rfl, hb1, _, _, hc1, hc2, hbel1⟩
    clear h HN
    go_wp2_with fail
    refine (HEH'.out _ hb HF.out).mono ?_
    rintro e w2 ⟨rfl, hb2, hbel2⟩
    have hb1' := hb1.later hbel2
    have hw2 := hbel1.trans (hbel2.mono hbel1.size)
    clear hb1 hbel1 hbel2
    go_wp2_with fail
    refine (cc_calls hb2 hb1' (by omega) (by omega)).mono ?_
    rintro e w3 ⟨rfl, hb3, hbel3⟩
    have hw3 := hw2.trans (hbel3.mono hw2.size)
    clear hw2 hbel3 hb2 hb1'
    go_wp2_with fail
    refine (zh_calls hb3 (by omega) (Nat.le_refl _) (HHO'.out zs)).mono ?_
    rintro e w4 ⟨rfl, k, rfl⟩
    clear hb3 HHO' HEH'
    by_cases h0 : wd = 0
    · subst h0
      have hv24 : v < 24 := by have := HF.out; unfold Code.Fits at this; omega
      have hi : ((Code.infoOf 0 v : Nat) : Int) = (v : Int) := by simp [Code.infoOf]
      rw [hi]
      go_wp2
      go_ret
      exact ⟨rfl, below_drewN hw3 _⟩
    · have hi : ((Code.infoOf wd v : Nat) : Int) = 23 + (wd : Int) := by simp [Code.infoOf, h0]
      have hw0 : ((wd : Int) == 0) = false := by rw [beq_eq_false_iff_ne]; omega
      rw [hi]
      go_wp2
      go_ret
      exact ⟨rfl, below_drewN hw3 _⟩

end Go.Proofs.Qxb6600388a.One
