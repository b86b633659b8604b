import Derived.Test.Qxb6600388aCont2
namespace Go.Proofs.Qxb6600388a.Three
open Go.RowKit Go.ChangeShapes Go.WideShapes Go.ChangeAt
set_option linter.unusedVariables false

set_option maxHeartbeats 400000 in
theorem zb18 (major wd : Nat) (a b : Option Addr) (la ca lb cb : Nat) (w : World) (hm : la ≤ maxLen) (hm' : lb ≤ maxLen) :
    Calls Try.prog 18 #[.int .u8 major, .int .u8 wd, .slice a la ca, .slice b lb cb] w fun e w' => isBool e ∧ w = w' := by
  unfold maxLen at hm hm'
  go_enter Try.func18, Try.ntmps18
  go_wp2
  · go_ret
    exact ⟨⟨false, rfl⟩, rfl⟩
  · go_ret
    exact ⟨⟨false, rfl⟩, rfl⟩
  · go_ret
    exact ⟨⟨false, rfl⟩, rfl⟩
  · go_ret
    exact ⟨⟨true, rfl⟩, rfl⟩

set_option maxHeartbeats 1000000 in
theorem main6_out (major wd : Nat) (a b : Option Addr) (la ca lb cb : Nat) (w : World) (hm : la ≤ maxLen) (hm' : lb ≤ maxLen) (hb : major ≤ 255) (hw : wd ≤ 255)
    (ho : 1048576 < la ∨ 1048576 < lb + la ∨ 7 < major ∨ 4 < wd ∨ ¬ Code.Fits wd la) :
    Calls Try.prog 6 #[.int .u8 major, .int .u8 wd, .slice a la ca, .slice b lb cb] w fun e w' => e = .returned (.bool true) ∧ Below w.heap.size w w' := by
  have H18 := zb18 major wd a b la ca lb cb w hm hm'
  unfold maxLen at hm hm'
  by_cases h1 : 1048576 < la
  · clear ho
    go_enter Try.func6, Try.ntmps6
    go_wp2_with fail
    refine H18.mono ?_
    rintro e w' ⟨⟨r, rfl⟩, rfl⟩
    cases r <;> (go_wp2; go_ret; exact ⟨rfl, Below.refl _ _⟩)
  by_cases h1b : (1048576 : Int) - la < lb
  · clear ho
    go_enter Try.func6, Try.ntmps6
    go_wp2_with fail
    refine H18.mono ?_
    rintro e w' ⟨⟨r, rfl⟩, rfl⟩
    cases r <;> (go_wp2; go_ret; exact ⟨rfl, Below.refl _ _⟩)
  by_cases h2 : 7 < major
  · clear ho
    go_enter Try.func6, Try.ntmps6
    go_wp2_with fail
    refine H18.mono ?_
    rintro e w' ⟨⟨r, rfl⟩, rfl⟩
    cases r <;> (go_wp2; go_ret; exact ⟨rfl, Below.refl _ _⟩)
  by_cases h3 : 4 < wd
  · clear ho
    go_enter Try.func6, Try.ntmps6
    go_wp2_with fail
    refine H18.mono ?_
    rintro e w' ⟨⟨r, rfl⟩, rfl⟩
    cases r <;> (go_wp2; go_ret; exact ⟨rfl, Below.refl _ _⟩)
  have HF : Hid (¬ Code.Fits wd la) := by
    rcases ho with h | h | h | h | h
    · omega
    · omega
    · omega
    · omega
    · exact h
  clear ho
  go_enter Try.func6, Try.ntmps6
  go_wp2_with fail
  refine H18.mono ?_
  rintro e w' ⟨⟨r, rfl⟩, rfl⟩
  clear H18
  cases r with
  | false => go_wp2; go_ret; exact ⟨rfl, Below.refl _ _⟩
  | true =>
    go_wp2_with fail
    refine (fw_no wd la _ (by omega) (by omega) HF.out).mono ?_
    rintro e w' ⟨rfl, rfl⟩
    go_wp2
    go_ret
    exact ⟨rfl, Below.refl _ _⟩

end Go.Proofs.Qxb6600388a.Three
