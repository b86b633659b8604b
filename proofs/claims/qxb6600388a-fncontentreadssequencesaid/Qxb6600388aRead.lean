import Derived.Test.Qxb6600388aHead
namespace Go.Proofs.Qxb6600388a
open Go.RowKit
set_option linter.unusedVariables false

theorem results_tmp4 {fn : Func} {t u v x : Tmp} (h : fn.results = #[.tmp t, .tmp u, .tmp v, .tmp x]) (tmps : Array Value) (P : Program) (w : World) :
    (results fn tmps).run P w = .ok (.tuple #[tmps.getD t undef, tmps.getD u undef, tmps.getD v undef, tmps.getD x undef]) w := by
  simp [results, h]

theorem bits_and31 (a : Nat) (ha : a ≤ 255) : bits .and .u8 (a : Int) 31 = ((a % 32 : Nat) : Int) := by
  have := u8_and_nat a 31 (by omega) (by omega)
  rw [Code.and_31] at this
  exact this

theorem bits_or8 (a x : Nat) (ha : a < 72057594037927936) (hx : x ≤ 255) : bits .or .u64 ((a : Int) * 256) (x : Int) = ((a * 256 + x : Nat) : Int) := by
  have := u64_or_nat (a * 256) x (by omega) (by omega)
  rw [Code.or_shift a x (by omega)] at this
  rw [← this]
  congr 1

set_option maxHeartbeats 400000 in
theorem ch_nil (a : Option Addr) (cap : Nat) (w : World) :
    Calls Try.prog 25 #[.slice a 0 cap] w fun e w' => e = .returned (.tuple #[.int .u8 0, .int .u8 0, .int .u64 0, .int .i64 0]) ∧ w = w' := by
  go_enter Try.func25, Try.ntmps25
  go_wp2
  refine bodyPost_ret (results_tmp4 rfl _ _ _) rfl ?_
  exact ⟨rfl, rfl⟩

set_option maxHeartbeats 400000 in
theorem ch_small (b o len cap x y : Nat) (w : World) (hl : 0 < len) (hlen : len ≤ 9223372036854775807) (hc : w.cell? ⟨b, o, none⟩ = some (.int .u8 x)) (hx : x ≤ 255) (hand : bits .and .u8 (x : Int) 31 = (y : Int)) (hy : y < 24) :
    Calls Try.prog 25 #[.slice (some ⟨b, o, none⟩) len cap] w fun e w' => e = .returned (.tuple #[.int .u8 ((x : Int) / 32), .int .u8 y, .int .u64 y, .int .i64 1]) ∧ ∃ n, w' = w.drewN n := by
  have hlI : (0 : Int) < (len : Int) := by omega
  have hl0 : ((len : Int) == 0) = false := by rw [beq_eq_false_iff_ne]; omega
  go_enter Try.func25, Try.ntmps25
  go_wp2
  go_quiet (fail)
  go_wp2
  refine bodyPost_ret (results_tmp4 rfl _ _ _) rfl ?_
  exact ⟨rfl, _, rfl⟩

set_option maxHeartbeats 400000 in
theorem ch_large (b o len cap x y : Nat) (w : World) (hl : 0 < len) (hlen : len ≤ 9223372036854775807) (hc : w.cell? ⟨b, o, none⟩ = some (.int .u8 x)) (hx : x ≤ 255) (hand : bits .and .u8 (x : Int) 31 = (y : Int)) (hy : 27 < y) (hy2 : y ≤ 31) :
    Calls Try.prog 25 #[.slice (some ⟨b, o, none⟩) len cap] w fun e w' => e = .returned (.tuple #[.int .u8 ((x : Int) / 32), .int .u8 y, .int .u64 0, .int .i64 1]) ∧ ∃ n, w' = w.drewN n := by
  have hlI : (0 : Int) < (len : Int) := by omega
  have hl0 : ((len : Int) == 0) = false := by rw [beq_eq_false_iff_ne]; omega
  go_enter Try.func25, Try.ntmps25
  go_wp2
  go_quiet (fail)
  go_wp2
  refine bodyPost_ret (results_tmp4 rfl _ _ _) rfl ?_
  exact ⟨rfl, _, rfl⟩

set_option maxHeartbeats 1000000 in
theorem ch_short (b o len cap x y K : Nat) (w : World) (hl : 0 < len) (hlen : len ≤ 9223372036854775807) (hc : w.cell? ⟨b, o, none⟩ = some (.int .u8 x)) (hx : x ≤ 255) (hand : bits .and .u8 (x : Int) 31 = (y : Int)) (hyK : (y = 24 ∧ K = 1) ∨ (y = 25 ∧ K = 2) ∨ (y = 26 ∧ K = 4) ∨ (y = 27 ∧ K = 8)) (hs : len < 1 + K) :
    Calls Try.prog 25 #[.slice (some ⟨b, o, none⟩) len cap] w fun e w' => e = .returned (.tuple #[.int .u8 0, .int .u8 0, .int .u64 0, .int .i64 0]) ∧ ∃ n, w' = w.drewN n := by
  have hlI : (0 : Int) < (len : Int) := by omega
  have hl0 : ((len : Int) == 0) = false := by rw [beq_eq_false_iff_ne]; omega
  rcases hyK with ⟨rfl, rfl⟩ | ⟨rfl, rfl⟩ | ⟨rfl, rfl⟩ | ⟨rfl, rfl⟩ <;>
  · go_enter Try.func25, Try.ntmps25
    go_wp2
    go_quiet (fail)
    go_wp2
    refine bodyPost_ret (results_tmp4 rfl _ _ _) rfl ?_
    exact ⟨rfl, _, rfl⟩

/-- The number in the first j bytes behind the first. -/
def valTo (zs : List Int) (j : Nat) : Nat := Code.val ((zs.drop 1).take j)

theorem next_byte {w : World} {b o len : Nat} {zs : List Int} (hzl : zs.length = len) (hr : ∀ z ∈ zs, 0 ≤ z ∧ z ≤ 255) (hcs : ∀ i, i < len → w.cell? ⟨b, o + i, none⟩ = some (.int .u8 (zs.getD i 0))) {j : Nat} (hj : 1 + j < len) :
    ∃ xj : Nat, xj ≤ 255 ∧ (xj : Int) = (zs.drop 1).getD j 0 ∧ w.cell? ⟨b, o + 1 + j, none⟩ = some (.int .u8 xj) ∧ Hid (valTo zs (j + 1) = valTo zs j * 256 + xj) := by
  have hm : zs.getD (1 + j) 0 ∈ zs := by
    have hk' : 1 + j < zs.length := by omega
    simp [List.getD, hk']
  have hb := hr _ hm
  obtain ⟨xj, hxj⟩ := Int.eq_ofNat_of_zero_le hb.1
  have e : (zs.drop 1).getD j 0 = (xj : Int) := by
    rw [← hxj, Nat.add_comm 1 j]
    simp [List.getD]
  refine ⟨xj, by omega, e.symm, ?_, ?_⟩
  · have := hcs (1 + j) hj
    rw [hxj, show o + (1 + j) = o + 1 + j by omega] at this
    exact this
  · show valTo zs (j + 1) = _
    unfold valTo
    rw [Code.val_take _ _ (by rw [List.length_drop]; omega), e]
    rfl

set_option maxHeartbeats 1000000 in
theorem ch_wide (b o len cap x y K : Nat) (zs : List Int) (w : World) (hzl : zs.length = len) (hr : ∀ z ∈ zs, 0 ≤ z ∧ z ≤ 255) (hlen : len ≤ 1099511627776) (hcap : len ≤ cap) (hcs : ∀ i, i < len → w.cell? ⟨b, o + i, none⟩ = some (.int .u8 (zs.getD i 0)))
    (hc : w.cell? ⟨b, o, none⟩ = some (.int .u8 x)) (hx : x ≤ 255) (hand : bits .and .u8 (x : Int) 31 = (y : Int)) (hyK : (y = 24 ∧ K = 1) ∨ (y = 25 ∧ K = 2) ∨ (y = 26 ∧ K = 4) ∨ (y = 27 ∧ K = 8)) (hs : 1 + K ≤ len) :
    Calls Try.prog 25 #[.slice (some ⟨b, o, none⟩) len cap] w fun e w' => e = .returned (.tuple #[.int .u8 ((x : Int) / 32), .int .u8 y, .int .u64 (valTo zs K), .int .i64 ((1 + K : Nat) : Int)]) ∧ ∃ n, w' = w.drewN n := by
  have hlI : (0 : Int) < (len : Int) := by omega
  have hl0 : ((len : Int) == 0) = false := by rw [beq_eq_false_iff_ne]; omega
  have hcap1 : ¬ cap = 1 := by omega
  have HZL : Hid (zs.length = len) := hzl
  have HR : Hid (∀ z ∈ zs, 0 ≤ z ∧ z ≤ 255) := hr
  have HCS : Hid (∀ i, i < len → w.cell? ⟨b, o + i, none⟩ = some (.int .u8 (zs.getD i 0))) := hcs
  clear hzl hr hcs
  rcases hyK with ⟨rfl, rfl⟩ | ⟨rfl, rfl⟩ | ⟨rfl, rfl⟩ | ⟨rfl, rfl⟩
  · go_enter Try.func25, Try.ntmps25
    go_wp2
    go_quiet (fail)
    go_wp2
    clear hc hand
    go_loop [4, 41] (fun a i => ∃ j A : Nat, j ≤ 1 ∧ i = .int .i64 j ∧ a = .int .u64 A ∧ Hid (A = valTo zs j)) (fun _ i => 1 - (intOf i).toNat)
    case atStart => exact ⟨0, 0, Nat.zero_le _, rfl, rfl, rfl⟩
    case round =>
      obtain ⟨j, A, hj, rfl, rfl, HA⟩ := hrel
      by_cases hlt : j < 1
      · obtain ⟨xj, hxj1, hxj2, hcx, HS⟩ := next_byte HZL.out HR.out HCS.out (j := j) (by omega)
        have hA : A < 72057594037927936 := by
          have h1 := Code.val_lt (zs.drop 1) (fun z hz => HR.out z (List.mem_of_mem_drop hz)) j
          rw [← show A = Code.val ((zs.drop 1).take j) from HA.out] at h1
          have h2 : 256 ^ j ≤ 256 ^ 7 := Nat.pow_le_pow_right (by omega) (by omega)
          omega
        have hor := bits_or8 A xj hA hxj1
        have hNB : A * 256 + xj < 18446744073709551616 := by omega
        obtain ⟨A', hA'⟩ : ∃ A' : Nat, A' = A * 256 + xj := ⟨_, rfl⟩
        rw [← hA'] at hor hNB
        have HA2 : Hid (A' = valTo zs (j + 1)) := by
          show _ = _
          rw [hA', HS.out, ← HA.out]
        clear hA' HA HS hxj2
        go_wp2
        go_round
        case rel => exact ⟨j + 1, A', by omega, by go_num, rfl, HA2.out⟩
        case measure => simp [intOf]; omega
      · obtain rfl : j = 1 := by omega
        go_wp2
        refine bodyPost_ret (results_tmp4 rfl _ _ _) rfl ?_
        exact ⟨by rw [← HA.out]; rfl, _, rfl⟩
  · go_enter Try.func25, Try.ntmps25
    go_wp2
    go_quiet (fail)
    go_wp2
    clear hc hand
    go_loop [4, 41] (fun a i => ∃ j A : Nat, j ≤ 2 ∧ i = .int .i64 j ∧ a = .int .u64 A ∧ Hid (A = valTo zs j)) (fun _ i => 2 - (intOf i).toNat)
    case atStart => exact ⟨0, 0, Nat.zero_le _, rfl, rfl, rfl⟩
    case round =>
      obtain ⟨j, A, hj, rfl, rfl, HA⟩ := hrel
      by_cases hlt : j < 2
      · obtain ⟨xj, hxj1, hxj2, hcx, HS⟩ := next_byte HZL.out HR.out HCS.out (j := j) (by omega)
        have hA : A < 72057594037927936 := by
          have h1 := Code.val_lt (zs.drop 1) (fun z hz => HR.out z (List.mem_of_mem_drop hz)) j
          rw [← show A = Code.val ((zs.drop 1).take j) from HA.out] at h1
          have h2 : 256 ^ j ≤ 256 ^ 7 := Nat.pow_le_pow_right (by omega) (by omega)
          omega
        have hor := bits_or8 A xj hA hxj1
        have hNB : A * 256 + xj < 18446744073709551616 := by omega
        obtain ⟨A', hA'⟩ : ∃ A' : Nat, A' = A * 256 + xj := ⟨_, rfl⟩
        rw [← hA'] at hor hNB
        have HA2 : Hid (A' = valTo zs (j + 1)) := by
          show _ = _
          rw [hA', HS.out, ← HA.out]
        clear hA' HA HS hxj2
        go_wp2
        go_round
        case rel => exact ⟨j + 1, A', by omega, by go_num, rfl, HA2.out⟩
        case measure => simp [intOf]; omega
      · obtain rfl : j = 2 := by omega
        go_wp2
        refine bodyPost_ret (results_tmp4 rfl _ _ _) rfl ?_
        exact ⟨by rw [← HA.out]; rfl, _, rfl⟩
  · go_enter Try.func25, Try.ntmps25
    go_wp2
    go_quiet (fail)
    go_wp2
    clear hc hand
    go_loop [4, 41] (fun a i => ∃ j A : Nat, j ≤ 4 ∧ i = .int .i64 j ∧ a = .int .u64 A ∧ Hid (A = valTo zs j)) (fun _ i => 4 - (intOf i).toNat)
    case atStart => exact ⟨0, 0, Nat.zero_le _, rfl, rfl, rfl⟩
    case round =>
      obtain ⟨j, A, hj, rfl, rfl, HA⟩ := hrel
      by_cases hlt : j < 4
      · obtain ⟨xj, hxj1, hxj2, hcx, HS⟩ := next_byte HZL.out HR.out HCS.out (j := j) (by omega)
        have hA : A < 72057594037927936 := by
          have h1 := Code.val_lt (zs.drop 1) (fun z hz => HR.out z (List.mem_of_mem_drop hz)) j
          rw [← show A = Code.val ((zs.drop 1).take j) from HA.out] at h1
          have h2 : 256 ^ j ≤ 256 ^ 7 := Nat.pow_le_pow_right (by omega) (by omega)
          omega
        have hor := bits_or8 A xj hA hxj1
        have hNB : A * 256 + xj < 18446744073709551616 := by omega
        obtain ⟨A', hA'⟩ : ∃ A' : Nat, A' = A * 256 + xj := ⟨_, rfl⟩
        rw [← hA'] at hor hNB
        have HA2 : Hid (A' = valTo zs (j + 1)) := by
          show _ = _
          rw [hA', HS.out, ← HA.out]
        clear hA' HA HS hxj2
        go_wp2
        go_round
        case rel => exact ⟨j + 1, A', by omega, by go_num, rfl, HA2.out⟩
        case measure => simp [intOf]; omega
      · obtain rfl : j = 4 := by omega
        go_wp2
        refine bodyPost_ret (results_tmp4 rfl _ _ _) rfl ?_
        exact ⟨by rw [← HA.out]; rfl, _, rfl⟩
  · go_enter Try.func25, Try.ntmps25
    go_wp2
    go_quiet (fail)
    go_wp2
    clear hc hand
    go_loop [4, 41] (fun a i => ∃ j A : Nat, j ≤ 8 ∧ i = .int .i64 j ∧ a = .int .u64 A ∧ Hid (A = valTo zs j)) (fun _ i => 8 - (intOf i).toNat)
    case atStart => exact ⟨0, 0, Nat.zero_le _, rfl, rfl, rfl⟩
    case round =>
      obtain ⟨j, A, hj, rfl, rfl, HA⟩ := hrel
      by_cases hlt : j < 8
      · obtain ⟨xj, hxj1, hxj2, hcx, HS⟩ := next_byte HZL.out HR.out HCS.out (j := j) (by omega)
        have hA : A < 72057594037927936 := by
          have h1 := Code.val_lt (zs.drop 1) (fun z hz => HR.out z (List.mem_of_mem_drop hz)) j
          rw [← show A = Code.val ((zs.drop 1).take j) from HA.out] at h1
          have h2 : 256 ^ j ≤ 256 ^ 7 := Nat.pow_le_pow_right (by omega) (by omega)
          omega
        have hor := bits_or8 A xj hA hxj1
        have hNB : A * 256 + xj < 18446744073709551616 := by omega
        obtain ⟨A', hA'⟩ : ∃ A' : Nat, A' = A * 256 + xj := ⟨_, rfl⟩
        rw [← hA'] at hor hNB
        have HA2 : Hid (A' = valTo zs (j + 1)) := by
          show _ = _
          rw [hA', HS.out, ← HA.out]
        clear hA' HA HS hxj2
        go_wp2
        go_round
        case rel => exact ⟨j + 1, A', by omega, by go_num, rfl, HA2.out⟩
        case measure => simp [intOf]; omega
      · obtain rfl : j = 8 := by omega
        go_wp2
        refine bodyPost_ret (results_tmp4 rfl _ _ _) rfl ?_
        exact ⟨by rw [← HA.out]; rfl, _, rfl⟩

end Go.Proofs.Qxb6600388a
