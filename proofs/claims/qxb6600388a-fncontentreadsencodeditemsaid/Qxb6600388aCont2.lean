import Derived.Test.Qxb6600388aCont
namespace Go.Proofs.Qxb6600388a
open Go.RowKit
set_option linter.unusedVariables false

theorem RdAt.below {w : World} {cb : Nat} {v : Value} {f : Bool} (h : RdAt w cb v f) : cb < w.heap.size := cell_lt h.c0

set_option maxHeartbeats 1000000 in
/-- content: an item is found, of the type that was asked for, whole. -/
theorem ct_ok {cb b o len cap : Nat} {zs : List Int} {w : World} (hr : RdAt w cb (.slice (some ⟨b, o, none⟩) len cap) false) (h : Bts w (some ⟨b, o, none⟩) len zs) (hlen : len ≤ 1099511627776) (hcap : len ≤ cap) (hcap2 : cap ≤ 9223372036854775807) {m i : Int} {arg n : Nat} (hh : Code.headOf zs = (m, i, arg, n))
    (hn0 : 0 < n) (hnl : n + arg ≤ len) (hi : i ≤ 27) :
    Calls Try.prog 27 #[.pointer (some ⟨cb, 0, none⟩), .int .u8 m] w fun e w' => e = .returned (.slice (some ⟨b, cutO o cap n, none⟩) arg arg) ∧ RdAt w' cb (.slice (cutAt b (cutO o cap n) (cap - n) arg) (len - n - arg) (cap - n - arg)) false ∧ Below cb w w' ∧ w'.heap.size = w.heap.size := by
  have H := ar_ok hr h hlen hcap hcap2 hh hn0 (by omega) hi
  clear hh h hr
  simp only [cutAt] at H
  obtain ⟨o', ho'⟩ : ∃ o', o' = cutO o cap n := ⟨_, rfl⟩
  rw [← ho'] at H ⊢
  obtain ⟨l', hl'⟩ : ∃ l', l' = len - n := ⟨_, rfl⟩
  obtain ⟨c', hc'⟩ : ∃ c', c' = cap - n := ⟨_, rfl⟩
  rw [← hl', ← hc'] at H ⊢
  have hl1 : arg ≤ l' := by omega
  have hl2 : l' ≤ c' := by omega
  have hl3 : c' ≤ 9223372036854775807 := by omega
  clear ho' hl' hc'
  by_cases hcn : c' = arg
  · subst hcn
    have HC : Hid (cutAt b o' c' c' = some ⟨b, o', none⟩) := by simp [cutAt, cutO, Hid]
    rw [HC.out]
    go_enter Try.func27, Try.ntmps27
    go_wp2_with fail
    refine H.mono ?_
    rintro e w1 ⟨rfl, hr1, hbel, hsz⟩
    have HRd : Hid (RdAt w1 cb (.slice (some ⟨b, o', none⟩) l' c') false) := hr1
    have HSZ : Hid (w1.heap.size = w.heap.size) := hsz
    obtain ⟨c0, c1, f0, f1⟩ := hr1
    clear H hsz
    go_wp2
    go_ret
    exact ⟨rfl, by first | exact HRd.out.set0 | (rw [show l' - c' = 0 by omega, show c' - c' = 0 by omega]; exact HRd.out.set0), hbel.setCell (p := ⟨cb, 0, none⟩) (Nat.le_refl cb) _, by simp [HSZ.out]⟩
  · have HC : Hid (cutAt b o' c' arg = some ⟨b, o' + arg, none⟩) := by simp [cutAt, cutO, Hid, hcn]
    rw [HC.out]
    go_enter Try.func27, Try.ntmps27
    go_wp2_with fail
    refine H.mono ?_
    rintro e w1 ⟨rfl, hr1, hbel, hsz⟩
    have HRd : Hid (RdAt w1 cb (.slice (some ⟨b, o', none⟩) l' c') false) := hr1
    have HSZ : Hid (w1.heap.size = w.heap.size) := hsz
    obtain ⟨c0, c1, f0, f1⟩ := hr1
    clear H hsz
    go_wp2
    go_ret
    exact ⟨rfl, HRd.out.set0, hbel.setCell (p := ⟨cb, 0, none⟩) (Nat.le_refl cb) _, by simp [HSZ.out]⟩

set_option maxHeartbeats 1000000 in
/-- content: the item runs past the end. -/
theorem ct_trunc {cb b o len cap : Nat} {zs : List Int} {w : World} (hr : RdAt w cb (.slice (some ⟨b, o, none⟩) len cap) false) (h : Bts w (some ⟨b, o, none⟩) len zs) (hlen : len ≤ 1099511627776) (hcap : len ≤ cap) (hcap2 : cap ≤ 9223372036854775807) {m i : Int} {arg n : Nat} (hh : Code.headOf zs = (m, i, arg, n))
    (hn0 : 0 < n) (hnl : n ≤ len) (htr : len < n + arg) (hi : i ≤ 27) :
    Calls Try.prog 27 #[.pointer (some ⟨cb, 0, none⟩), .int .u8 m] w fun e w' => e = .returned (.slice none 0 0) ∧ RdAt w' cb (.slice (cutAt b o cap n) (len - n) (cap - n)) true ∧ Below cb w w' ∧ w'.heap.size = w.heap.size := by
  have H := ar_ok hr h hlen hcap hcap2 hh hn0 hnl hi
  clear hh h hr
  obtain ⟨l', hl'⟩ : ∃ l', l' = len - n := ⟨_, rfl⟩
  obtain ⟨c', hc'⟩ : ∃ c', c' = cap - n := ⟨_, rfl⟩
  rw [← hl', ← hc'] at H ⊢
  have hl1 : l' < arg := by omega
  have hl2 : l' ≤ 1099511627776 := by omega
  clear hl' hc'
  go_enter Try.func27, Try.ntmps27
  go_wp2_with fail
  refine H.mono ?_
  rintro e w1 ⟨rfl, hr1, hbel, hsz⟩
  have HRd : Hid (RdAt w1 cb (.slice (cutAt b o cap n) l' c') false) := hr1
  have HSZ : Hid (w1.heap.size = w.heap.size) := hsz
  obtain ⟨c0, c1, f0, f1⟩ := hr1
  clear H hsz
  go_wp2
  go_ret
  exact ⟨rfl, HRd.out.set1, hbel.setCell (p := ⟨cb, 1, none⟩) (Nat.le_refl cb) _, by simp [HSZ.out]⟩

set_option maxHeartbeats 1000000 in
/-- content: the reader has failed, or its head is not what was asked for: 'argument' fails. -/
theorem ct_no {cb len cap : Nat} {a : Option Addr} {w : World} (want : Int)
    (H : Calls Try.prog 26 #[.pointer (some ⟨cb, 0, none⟩), .int .u8 want] w fun e w' => e = .returned (.int .u64 0) ∧ RdAt w' cb (.slice a len cap) true ∧ Below cb w w' ∧ w'.heap.size = w.heap.size) :
    Calls Try.prog 27 #[.pointer (some ⟨cb, 0, none⟩), .int .u8 want] w fun e w' => e = .returned (.slice none 0 0) ∧ RdAt w' cb (.slice a len cap) true ∧ Below cb w w' ∧ w'.heap.size = w.heap.size := by
  go_enter Try.func27, Try.ntmps27
  go_wp2_with fail
  refine H.mono ?_
  rintro e w1 ⟨rfl, hr1, hbel, hsz⟩
  have HRd : Hid (RdAt w1 cb (.slice a len cap) true) := hr1
  have HSZ : Hid (w1.heap.size = w.heap.size) := hsz
  obtain ⟨c0, c1, f0, f1⟩ := hr1
  clear H hsz
  go_wp2
  go_ret
  exact ⟨rfl, HRd.out.set1, hbel.setCell (p := ⟨cb, 1, none⟩) (Nat.le_refl cb) _, by simp [HSZ.out]⟩

set_option maxHeartbeats 1000000 in
/-- ZZContent out of content. -/
theorem zc_of {a : Option Addr} {len cap : Nat} {f : Bool} {w : World} (want : Int) (s : Option Addr) (sl sc : Nat) (a' : Option Addr) (l' c' : Nat) (f' : Bool)
    (H : Calls Try.prog 27 #[.pointer (some ⟨w.heap.size, 0, none⟩), .int .u8 want] (w.alloc (.cells #[.slice a len cap, .bool f] 46)) fun e w' => e = .returned (.slice s sl sc) ∧ RdAt w' w.heap.size (.slice a' l' c') f' ∧ Below w.heap.size (w.alloc (.cells #[.slice a len cap, .bool f] 46)) w' ∧ w'.heap.size = (w.alloc (.cells #[.slice a len cap, .bool f] 46)).heap.size) :
    Calls Try.prog 19 #[.slice a len cap, .bool f, .int .u8 want] w fun e w' => e = .returned (.tuple #[.slice s sl sc, .slice a' l' c', .bool f']) ∧ Below w.heap.size w w' := by
  go_enter Try.func19, Try.ntmps19
  go_wp2_with fail
  refine H.mono ?_
  rintro e w1 ⟨rfl, ⟨c0, c1, f0, f1⟩, hbel, _⟩
  have hw1 : Below w.heap.size w w1 := ((Below.refl _ _).alloc (Nat.le_refl _) _).trans hbel
  clear H hbel
  go_wp2
  go_quiet (fail)
  go_wp2
  go_ret3
  exact ⟨rfl, below_drewN hw1 _⟩

/-- ZZContent: an item is found, of the type that was asked for, whole. -/
theorem zc_ok {b o len cap : Nat} {zs : List Int} {w : World} (h : Bts w (some ⟨b, o, none⟩) len zs) (hlen : len ≤ 1099511627776) (hcap : len ≤ cap) (hcap2 : cap ≤ 9223372036854775807) {m i : Int} {arg n : Nat} (hh : Code.headOf zs = (m, i, arg, n))
    (hn0 : 0 < n) (hnl : n + arg ≤ len) (hi : i ≤ 27) :
    Calls Try.prog 19 #[.slice (some ⟨b, o, none⟩) len cap, .bool false, .int .u8 m] w fun e w' => ∃ o1 o2, e = .returned (.tuple #[.slice (some ⟨b, o1, none⟩) arg arg, .slice (some ⟨b, o2, none⟩) (len - n - arg) (cap - n - arg), .bool false]) ∧
      Bts w' (some ⟨b, o1, none⟩) arg ((zs.drop n).take arg) ∧ Bts w' (some ⟨b, o2, none⟩) (len - n - arg) (zs.drop (n + arg)) ∧ Below w.heap.size w w' := by
  have H := ct_ok (RdAt.new w (.slice (some ⟨b, o, none⟩) len cap) false) (h.later ((Below.refl _ _).alloc (Nat.le_refl _) _)) hlen hcap hcap2 hh hn0 hnl hi
  refine (zc_of m _ _ _ _ _ _ _ H).mono ?_
  rintro e w' ⟨rfl, hbel⟩
  have h' := h.later hbel
  have hc1 : Bts w' (some ⟨b, cutO o cap n, none⟩) (len - n) (zs.drop n) := bts_cut h' (by omega) hcap
  refine ⟨cutO o cap n, cutO (cutO o cap n) (cap - n) arg, rfl, bts_take hc1 (by omega), ?_, hbel⟩
  have hc2 := bts_cut (cap := cap - n) (n := arg) hc1 (by omega) (by omega)
  rw [List.drop_drop] at hc2
  exact hc2

/-- ZZContent: the item runs past the end. -/
theorem zc_trunc {b o len cap : Nat} {zs : List Int} {w : World} (h : Bts w (some ⟨b, o, none⟩) len zs) (hlen : len ≤ 1099511627776) (hcap : len ≤ cap) (hcap2 : cap ≤ 9223372036854775807) {m i : Int} {arg n : Nat} (hh : Code.headOf zs = (m, i, arg, n))
    (hn0 : 0 < n) (hnl : n ≤ len) (htr : len < n + arg) (hi : i ≤ 27) :
    Calls Try.prog 19 #[.slice (some ⟨b, o, none⟩) len cap, .bool false, .int .u8 m] w fun e w' => ∃ a' l' c', e = .returned (.tuple #[.slice none 0 0, .slice a' l' c', .bool true]) ∧ Below w.heap.size w w' := by
  have H := ct_trunc (RdAt.new w (.slice (some ⟨b, o, none⟩) len cap) false) (h.later ((Below.refl _ _).alloc (Nat.le_refl _) _)) hlen hcap hcap2 hh hn0 hnl htr hi
  refine (zc_of m _ _ _ _ _ _ _ H).mono ?_
  rintro e w' ⟨rfl, hbel⟩
  exact ⟨_, _, _, rfl, hbel⟩

/-- ZZContent: no whole head, or one of another major type. -/
theorem zc_no {a : Option Addr} {len cap : Nat} {zs : List Int} {w : World} (h : Bts w a len zs) (hlen : len ≤ 1099511627776) (hcap : len ≤ cap) (hcap2 : cap ≤ 9223372036854775807) {m i : Int} {arg n : Nat} (hh : Code.headOf zs = (m, i, arg, n))
    (want : Int) (hno : n = 0 ∨ m ≠ want) :
    Calls Try.prog 19 #[.slice a len cap, .bool false, .int .u8 want] w fun e w' => e = .returned (.tuple #[.slice none 0 0, .slice a len cap, .bool true]) ∧ Below w.heap.size w w' :=
  zc_of want _ _ _ _ _ _ _ (ct_no want (ar_no (RdAt.new w (.slice a len cap) false) (h.later ((Below.refl _ _).alloc (Nat.le_refl _) _)) hlen hcap hcap2 hh want hno))

/-- ZZContent: the reader has failed before. -/
theorem zc_failed {a : Option Addr} {len cap : Nat} {zs : List Int} {w : World} (h : Bts w a len zs) (hlen : len ≤ 1099511627776) (hcap : len ≤ cap) (hcap2 : cap ≤ 9223372036854775807) (want : Int) :
    Calls Try.prog 19 #[.slice a len cap, .bool true, .int .u8 want] w fun e w' => e = .returned (.tuple #[.slice none 0 0, .slice a len cap, .bool true]) ∧ Below w.heap.size w w' :=
  zc_of want _ _ _ _ _ _ _ (ct_no want (ar_failed (RdAt.new w (.slice a len cap) true) (h.later ((Below.refl _ _).alloc (Nat.le_refl _) _)) hlen hcap hcap2 want))

end Go.Proofs.Qxb6600388a
