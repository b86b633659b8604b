import Derived.Test.Qxb6600388aRead
namespace Go.Proofs.Qxb6600388a
open Go.RowKit
set_option linter.unusedVariables false

/-- cborHead. -/
theorem ch_calls {a : Option Addr} {len cap : Nat} {zs : List Int} {w : World} (h : Bts w a len zs) (hlen : len ≤ 1099511627776) (hcap : len ≤ cap) {m i : Int} {arg n : Nat} (hh : Code.headOf zs = (m, i, arg, n)) :
    Calls Try.prog 25 #[.slice a len cap] w fun e w' => e = .returned (.tuple #[.int .u8 m, .int .u8 i, .int .u64 arg, .int .i64 n]) ∧ ∃ k, w' = w.drewN k := by
  obtain ⟨hl, hr, hc⟩ := h
  cases zs with
  | nil =>
    obtain rfl : len = 0 := by simpa using hl.symm
    simp only [Code.headOf, Prod.mk.injEq] at hh
    obtain ⟨rfl, rfl, rfl, rfl⟩ := hh
    refine (ch_nil a cap w).mono ?_
    rintro e w' ⟨rfl, rfl⟩
    exact ⟨rfl, 0, rfl⟩
  | cons x rest =>
    have hl' : rest.length + 1 = len := by simpa using hl
    obtain ⟨b, o, rfl, hcs⟩ : ∃ b o, a = some ⟨b, o, none⟩ ∧ ∀ i, i < len → w.cell? ⟨b, o + i, none⟩ = some (.int .u8 ((x :: rest).getD i 0)) := by
      rcases hc with h0 | h0
      · omega
      · exact h0
    have hx := hr x (by simp)
    obtain ⟨xn, rfl⟩ := Int.eq_ofNat_of_zero_le hx.1
    have hc0 : w.cell? ⟨b, o, none⟩ = some (.int .u8 xn) := by simpa using hcs 0 (by omega)
    have hand := bits_and31 xn (by omega)
    have e1 : ((xn : Int)) % 32 = ((xn % 32 : Nat) : Int) := by omega
    have e2 : (((xn : Int)) % 32).toNat = xn % 32 := by omega
    simp only [Code.headOf] at hh
    by_cases h24 : (xn : Int) % 32 < 24
    · rw [if_pos h24] at hh
      simp only [Prod.mk.injEq] at hh
      obtain ⟨rfl, rfl, rfl, rfl⟩ := hh
      rw [e2, e1]
      exact ch_small b o len cap xn (xn % 32) w (by omega) (by omega) hc0 (by omega) hand (by omega)
    · rw [if_neg h24] at hh
      by_cases h27 : 27 < (xn : Int) % 32
      · rw [if_pos h27] at hh
        simp only [Prod.mk.injEq] at hh
        obtain ⟨rfl, rfl, rfl, rfl⟩ := hh
        rw [e1]
        exact ch_large b o len cap xn (xn % 32) w (by omega) (by omega) hc0 (by omega) hand (by omega) (by omega)
      · rw [if_neg h27, e2] at hh
        have hyK : (xn % 32 = 24 ∧ 2 ^ (xn % 32 - 24) = 1) ∨ (xn % 32 = 25 ∧ 2 ^ (xn % 32 - 24) = 2) ∨ (xn % 32 = 26 ∧ 2 ^ (xn % 32 - 24) = 4) ∨ (xn % 32 = 27 ∧ 2 ^ (xn % 32 - 24) = 8) := by
          have : xn % 32 = 24 ∨ xn % 32 = 25 ∨ xn % 32 = 26 ∨ xn % 32 = 27 := by omega
          rcases this with e | e | e | e <;> rw [e] <;> simp
        generalize 2 ^ (xn % 32 - 24) = K at hh hyK
        by_cases hs : rest.length < K
        · rw [if_pos hs] at hh
          simp only [Prod.mk.injEq] at hh
          obtain ⟨rfl, rfl, rfl, rfl⟩ := hh
          exact ch_short b o len cap xn (xn % 32) K w (by omega) (by omega) hc0 (by omega) hand hyK (by omega)
        · rw [if_neg hs] at hh
          simp only [Prod.mk.injEq] at hh
          obtain ⟨rfl, rfl, rfl, rfl⟩ := hh
          rw [e1]
          have := ch_wide b o len cap xn (xn % 32) K ((xn : Int) :: rest) w hl hr hlen hcap hcs hc0 (by omega) hand hyK (by omega)
          simpa [valTo] using this

/-- ZZcborHead. -/
theorem zh_calls {a : Option Addr} {len cap : Nat} {zs : List Int} {w : World} (h : Bts w a len zs) (hlen : len ≤ 1099511627776) (hcap : len ≤ cap) {m i : Int} {arg n : Nat} (hh : Code.headOf zs = (m, i, arg, n)) :
    Calls Try.prog 13 #[.slice a len cap] w fun e w' => e = .returned (.tuple #[.int .u8 m, .int .u8 i, .int .u64 arg, .int .i64 n]) ∧ ∃ k, w' = w.drewN k := by
  have H := ch_calls (cap := cap) h hlen hcap hh
  clear h hh
  go_enter Try.func13, Try.ntmps13
  go_wp2_with fail
  refine H.mono ?_
  rintro e w' ⟨rfl, k, rfl⟩
  clear H
  go_wp2
  refine bodyPost_ret (results_tmp4 rfl _ _ _) rfl ?_
  exact ⟨rfl, _, rfl⟩

theorem ret_true {b : Bool} (h : b = true) : Ending.returned (.bool b) = .returned (.bool true) := by rw [h]
theorem ret_false {b : Bool} (h : b = false) : Ending.returned (.bool b) = .returned (.bool false) := by rw [h]

set_option maxHeartbeats 400000 in
/-- ldgB1FitsWidth: yes. -/
theorem fw_yes (wd v : Nat) (w : World) (h : Code.Fits wd v) : Calls Try.prog 9 #[.int .u8 wd, .int .u64 v] w fun e w' => e = .returned (.bool true) ∧ w = w' := by
  rcases h with ⟨rfl, h⟩ | ⟨rfl, h⟩ | ⟨rfl, h⟩ | ⟨rfl, h⟩ | ⟨rfl, h⟩ <;>
  · go_enter Try.func9, Try.ntmps9
    go_wp2
    go_ret
    exact ⟨ret_true (by first | rfl | (simp; done) | (simp; omega)), rfl⟩

set_option maxHeartbeats 400000 in
/-- ldgB1FitsWidth: no. -/
theorem fw_no (wd v : Nat) (w : World) (hw : wd ≤ 4) (hv : v < 18446744073709551616) (h : ¬ Code.Fits wd v) : Calls Try.prog 9 #[.int .u8 wd, .int .u64 v] w fun e w' => e = .returned (.bool false) ∧ w = w' := by
  unfold Code.Fits at h
  have h5 : wd = 0 ∨ wd = 1 ∨ wd = 2 ∨ wd = 3 := by omega
  rcases h5 with rfl | rfl | rfl | rfl
  · have h' : 24 ≤ v := by omega
    clear h
    go_enter Try.func9, Try.ntmps9
    go_wp2
    go_ret
    exact ⟨ret_false (by simp; omega), rfl⟩
  · have h' : 255 < v := by omega
    clear h
    go_enter Try.func9, Try.ntmps9
    go_wp2
    go_ret
    exact ⟨ret_false (by simp; omega), rfl⟩
  · have h' : 65535 < v := by omega
    clear h
    go_enter Try.func9, Try.ntmps9
    go_wp2
    go_ret
    exact ⟨ret_false (by simp; omega), rfl⟩
  · have h' : 4294967295 < v := by omega
    clear h
    go_enter Try.func9, Try.ntmps9
    go_wp2
    go_ret
    exact ⟨ret_false (by simp; omega), rfl⟩

end Go.Proofs.Qxb6600388a
