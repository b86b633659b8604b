import Derived.Test.Qxb6600388aArg
namespace Go.Proofs.Qxb6600388a
open Go.RowKit
set_option linter.unusedVariables false

theorem bts_take {w : World} {b o len n : Nat} {zs : List Int} (h : Bts w (some ⟨b, o, none⟩) len zs) (hn : n ≤ len) : Bts w (some ⟨b, o, none⟩) n (zs.take n) := by
  obtain ⟨hl, hr, hc⟩ := h
  refine ⟨by rw [List.length_take, hl]; omega, fun z hz => hr z (List.mem_of_mem_take hz), ?_⟩
  by_cases h0 : n = 0
  · exact .inl h0
  right
  rcases hc with hc | ⟨b', o', e, hc⟩
  · omega
  cases e
  refine ⟨b, o, rfl, fun i hi => ?_⟩
  rw [hc i (by omega)]
  simp [List.getD, hi]

theorem results3 {fn : Func} {t u v : Tmp} (h : fn.results = #[.tmp t, .tmp u, .tmp v]) (tmps : Array Value) (P : Program) (w : World) :
    (results fn tmps).run P w = .ok (.tuple #[tmps.getD t undef, tmps.getD u undef, tmps.getD v undef]) w := by
  simp [results, h]

set_option maxHeartbeats 1000000 in
/-- ZZArgument: the head is found and is of the type that was asked for. -/
theorem za_ok {b o len cap : Nat} {zs : List Int} {w : World} (h : Bts w (some ⟨b, o, none⟩) len zs) (hlen : len ≤ 1099511627776) (hcap : len ≤ cap) (hcap2 : cap ≤ 9223372036854775807) {m i : Int} {arg n : Nat} (hh : Code.headOf zs = (m, i, arg, n))
    (hn0 : 0 < n) (hnl : n ≤ len) (hi : i ≤ 27) :
    Calls Try.prog 16 #[.slice (some ⟨b, o, none⟩) len cap, .bool false, .int .u8 m] w fun e w' => e = .returned (.tuple #[.slice (cutAt b o cap n) (len - n) (cap - n), .bool false, .int .u64 arg]) ∧ Bts w' (cutAt b o cap n) (len - n) (zs.drop n) ∧ Below w.heap.size w w' := by
  have HB : Hid (Bts w (some ⟨b, o, none⟩) len zs) := h
  have H := ar_ok (RdAt.new w (.slice (some ⟨b, o, none⟩) len cap) false) (h.later ((Below.refl _ _).alloc (Nat.le_refl _) _)) hlen hcap hcap2 hh hn0 hnl hi
  clear hh h
  go_enter Try.func16, Try.ntmps16
  go_wp2_with fail
  refine H.mono ?_
  rintro e w1 ⟨rfl, ⟨c0, c1, f0, f1⟩, hbel, _⟩
  have hw1 : Below w.heap.size w w1 := ((Below.refl _ _).alloc (Nat.le_refl _) _).trans hbel
  have HB1 : Hid (Bts w1 (cutAt b o cap n) (len - n) (zs.drop n)) := bts_cut (HB.out.later hw1) hnl hcap
  clear H hbel HB
  go_wp2
  go_quiet (fail)
  go_wp2
  go_ret3
  exact ⟨rfl, HB1.out.drewN _, below_drewN hw1 _⟩

set_option maxHeartbeats 1000000 in
/-- ZZArgument: no whole head, or one of another major type. -/
theorem za_no {a : Option Addr} {len cap : Nat} {zs : List Int} {w : World} (h : Bts w a len zs) (hlen : len ≤ 1099511627776) (hcap : len ≤ cap) (hcap2 : cap ≤ 9223372036854775807) {m i : Int} {arg n : Nat} (hh : Code.headOf zs = (m, i, arg, n))
    (want : Int) (hno : n = 0 ∨ m ≠ want) :
    Calls Try.prog 16 #[.slice a len cap, .bool false, .int .u8 want] w fun e w' => e = .returned (.tuple #[.slice a len cap, .bool true, .int .u64 0]) ∧ Below w.heap.size w w' := by
  have H := ar_no (RdAt.new w (.slice a len cap) false) (h.later ((Below.refl _ _).alloc (Nat.le_refl _) _)) hlen hcap hcap2 hh want hno
  clear hh h hno
  go_enter Try.func16, Try.ntmps16
  go_wp2_with fail
  refine H.mono ?_
  rintro e w1 ⟨rfl, ⟨c0, c1, f0, f1⟩, hbel, _⟩
  have hw1 : Below w.heap.size w w1 := ((Below.refl _ _).alloc (Nat.le_refl _) _).trans hbel
  clear H hbel
  go_wp2
  go_quiet (fail)
  go_wp2
  go_ret3
  exact ⟨rfl, below_drewN hw1 _⟩

theorem info_le {wd v : Nat} (h : Code.Fits wd v) : (Code.infoOf wd v : Int) ≤ 27 := by
  unfold Code.infoOf
  have := h.le
  unfold Code.Fits at h
  split <;> omega

theorem drop_head {xs ys : List Int} {n : Nat} (h : xs.length = n) : (xs ++ ys).drop n = ys := by
  rw [← h, List.drop_left]

theorem argLen_le {wd : Nat} (h : wd ≤ 4) : Code.argLen wd ≤ 8 := by
  unfold Code.argLen
  have : wd = 0 ∨ wd = 1 ∨ wd = 2 ∨ wd = 3 ∨ wd = 4 := by omega
  rcases this with rfl | rfl | rfl | rfl | rfl <;> simp

end Go.Proofs.Qxb6600388a
