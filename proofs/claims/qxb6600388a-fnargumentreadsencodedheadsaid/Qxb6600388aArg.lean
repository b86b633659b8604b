import Derived.Test.Qxb6600388aReadB
namespace Go.Proofs.Qxb6600388a
open Go.RowKit
set_option linter.unusedVariables false

/-- A reader in block cb: what is left, and whether it has failed. -/
structure RdAt (w : World) (cb : Nat) (v : Value) (f : Bool) : Prop where
  c0 : w.cell? ⟨cb, 0, none⟩ = some v
  c1 : w.cell? ⟨cb, 1, none⟩ = some (.bool f)
  f0 : w.frozen? ⟨cb, 0, none⟩ = false
  f1 : w.frozen? ⟨cb, 1, none⟩ = false

theorem RdAt.new (w : World) (v : Value) (f : Bool) : RdAt (w.alloc (.cells #[v, .bool f] 46)) w.heap.size v f :=
  ⟨by rw [World.cell?_alloc_at _ _ _ _ rfl]; rfl, by rw [World.cell?_alloc_at _ _ _ _ rfl]; rfl, World.frozen?_alloc_at _ _ _ _ rfl, World.frozen?_alloc_at _ _ _ _ rfl⟩

theorem RdAt.set0 {w : World} {cb : Nat} {v v' : Value} {f : Bool} (h : RdAt w cb v f) : RdAt (w.setCell ⟨cb, 0, none⟩ v') cb v' f := by
  refine ⟨World.cell?_setCell_same _ _ _ h.c0, ?_, ?_, ?_⟩
  · rw [World.cell?_setCell_other _ _ _ _ (by simp)]; exact h.c1
  · rw [World.frozen?_setCell]; exact h.f0
  · rw [World.frozen?_setCell]; exact h.f1

theorem RdAt.set1 {w : World} {cb : Nat} {v : Value} {f f' : Bool} (h : RdAt w cb v f) : RdAt (w.setCell ⟨cb, 1, none⟩ (.bool f')) cb v f' := by
  refine ⟨?_, World.cell?_setCell_same _ _ _ h.c1, ?_, ?_⟩
  · rw [World.cell?_setCell_other _ _ _ _ (by simp)]; exact h.c0
  · rw [World.frozen?_setCell]; exact h.f0
  · rw [World.frozen?_setCell]; exact h.f1

theorem RdAt.drewN {w : World} {cb : Nat} {v : Value} {f : Bool} (h : RdAt w cb v f) (k : Nat) : RdAt (w.drewN k) cb v f := ⟨h.c0, h.c1, h.f0, h.f1⟩

/-- Where 'b[n:]' begins. -/
def cutO (o cap n : Nat) : Nat := if cap = n then o else o + n
def cutAt (b o cap n : Nat) : Option Addr := some ⟨b, cutO o cap n, none⟩

theorem bts_cut {w : World} {b o len cap n : Nat} {zs : List Int} (h : Bts w (some ⟨b, o, none⟩) len zs) (hn : n ≤ len) (hcap : len ≤ cap) : Bts w (cutAt b o cap n) (len - n) (zs.drop n) := by
  obtain ⟨hl, hr, hc⟩ := h
  refine ⟨by rw [List.length_drop, hl], fun z hz => hr z (List.mem_of_mem_drop hz), ?_⟩
  by_cases h0 : len - n = 0
  · exact .inl h0
  right
  have hne : ¬ cap = n := by omega
  rcases hc with hc | ⟨b', o', e, hc⟩
  · omega
  cases e
  refine ⟨b, o + n, by rw [cutAt, cutO, if_neg hne], fun i hi => ?_⟩
  have := hc (n + i) (by omega)
  rw [show o + (n + i) = o + n + i by omega] at this
  rw [this]
  simp [List.getD]

set_option maxHeartbeats 1000000 in
/-- argument: the head is found and is of the type that was asked for. -/
theorem ar_ok {cb b o len cap : Nat} {zs : List Int} {w : World} (hr : RdAt w cb (.slice (some ⟨b, o, none⟩) len cap) false) (h : Bts w (some ⟨b, o, none⟩) len zs) (hlen : len ≤ 1099511627776) (hcap : len ≤ cap) (hcap2 : cap ≤ 9223372036854775807) {m i : Int} {arg n : Nat} (hh : Code.headOf zs = (m, i, arg, n))
    (hn0 : 0 < n) (hnl : n ≤ len) (hi : i ≤ 27) :
    Calls Try.prog 26 #[.pointer (some ⟨cb, 0, none⟩), .int .u8 m] w fun e w' => e = .returned (.int .u64 arg) ∧ RdAt w' cb (.slice (cutAt b o cap n) (len - n) (cap - n)) false ∧ Below cb w w' ∧ w'.heap.size = w.heap.size := by
  have H := ch_calls (cap := cap) h hlen hcap hh
  have hn1 : ((n : Int) == 0) = false := by rw [beq_eq_false_iff_ne]; omega
  have HRd : Hid (RdAt w cb (.slice (some ⟨b, o, none⟩) len cap) false) := hr
  obtain ⟨c0, c1, f0, f1⟩ := hr
  clear h hh
  by_cases hcn : cap = n
  · subst hcn
    have HC : Hid (cutAt b o cap cap = some ⟨b, o, none⟩) := by simp [cutAt, cutO, Hid]
    rw [HC.out]
    go_enter Try.func26, Try.ntmps26
    go_wp2_with fail
    refine H.mono ?_
    rintro e w1 ⟨rfl, k, rfl⟩
    clear H
    go_wp2
    go_ret
    exact ⟨rfl, by first | exact (HRd.out.drewN k).set0 | (rw [show len - cap = 0 by omega, show cap - cap = 0 by omega]; exact (HRd.out.drewN k).set0), (below_drewN (Below.refl cb w) k).setCell (p := ⟨cb, 0, none⟩) (Nat.le_refl cb) _, by simp⟩
  · have HC : Hid (cutAt b o cap n = some ⟨b, o + n, none⟩) := by simp [cutAt, cutO, Hid, hcn]
    rw [HC.out]
    go_enter Try.func26, Try.ntmps26
    go_wp2_with fail
    refine H.mono ?_
    rintro e w1 ⟨rfl, k, rfl⟩
    clear H
    go_wp2
    go_ret
    exact ⟨rfl, (HRd.out.drewN k).set0, (below_drewN (Below.refl cb w) k).setCell (p := ⟨cb, 0, none⟩) (Nat.le_refl cb) _, by simp⟩

set_option maxHeartbeats 1000000 in
/-- argument: the reader has failed before. -/
theorem ar_failed {cb len cap : Nat} {a : Option Addr} {zs : List Int} {w : World} (hr : RdAt w cb (.slice a len cap) true) (h : Bts w a len zs) (hlen : len ≤ 1099511627776) (hcap : len ≤ cap) (hcap2 : cap ≤ 9223372036854775807) (want : Int) :
    Calls Try.prog 26 #[.pointer (some ⟨cb, 0, none⟩), .int .u8 want] w fun e w' => e = .returned (.int .u64 0) ∧ RdAt w' cb (.slice a len cap) true ∧ Below cb w w' ∧ w'.heap.size = w.heap.size := by
  obtain ⟨m, i, arg, n, hq⟩ : ∃ m i arg n, Code.headOf zs = (m, i, arg, n) := ⟨_, _, _, _, rfl⟩
  have H := ch_calls (cap := cap) h hlen hcap hq
  have HRd : Hid (RdAt w cb (.slice a len cap) true) := hr
  obtain ⟨c0, c1, f0, f1⟩ := hr
  clear h hq
  go_enter Try.func26, Try.ntmps26
  go_wp2_with fail
  refine H.mono ?_
  rintro e w1 ⟨rfl, k, rfl⟩
  clear H
  go_wp2
  go_ret
  exact ⟨rfl, (HRd.out.drewN k).set1, (below_drewN (Below.refl cb w) k).setCell (p := ⟨cb, 1, none⟩) (Nat.le_refl cb) _, by simp⟩

set_option maxHeartbeats 1000000 in
/-- argument: no whole head, or one of another major type. -/
theorem ar_no {cb len cap : Nat} {a : Option Addr} {zs : List Int} {w : World} (hr : RdAt w cb (.slice a len cap) false) (h : Bts w a len zs) (hlen : len ≤ 1099511627776) (hcap : len ≤ cap) (hcap2 : cap ≤ 9223372036854775807) {m i : Int} {arg n : Nat} (hh : Code.headOf zs = (m, i, arg, n))
    (want : Int) (hno : n = 0 ∨ m ≠ want) :
    Calls Try.prog 26 #[.pointer (some ⟨cb, 0, none⟩), .int .u8 want] w fun e w' => e = .returned (.int .u64 0) ∧ RdAt w' cb (.slice a len cap) true ∧ Below cb w w' ∧ w'.heap.size = w.heap.size := by
  have H := ch_calls (cap := cap) h hlen hcap hh
  have HRd : Hid (RdAt w cb (.slice a len cap) false) := hr
  obtain ⟨c0, c1, f0, f1⟩ := hr
  clear h hh
  by_cases hn : n = 0
  · subst hn
    clear hno
    go_enter Try.func26, Try.ntmps26
    go_wp2_with fail
    refine H.mono ?_
    rintro e w1 ⟨rfl, k, rfl⟩
    clear H
    go_wp2
    go_ret
    exact ⟨rfl, (HRd.out.drewN k).set1, (below_drewN (Below.refl cb w) k).setCell (p := ⟨cb, 1, none⟩) (Nat.le_refl cb) _, by simp⟩
  · have hm : (m != want) = true := by
      rw [bne_iff_ne]
      rcases hno with h | h
      · exact absurd h hn
      · exact h
    have hn1 : ((n : Int) == 0) = false := by rw [beq_eq_false_iff_ne]; omega
    clear hno
    go_enter Try.func26, Try.ntmps26
    go_wp2_with fail
    refine H.mono ?_
    rintro e w1 ⟨rfl, k, rfl⟩
    clear H
    go_wp2
    go_ret
    exact ⟨rfl, (HRd.out.drewN k).set1, (below_drewN (Below.refl cb w) k).setCell (p := ⟨cb, 1, none⟩) (Nat.le_refl cb) _, by simp⟩

end Go.Proofs.Qxb6600388a
