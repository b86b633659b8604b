import Derived.Test.Qxb6600329aTabH
import Derived.Test.Qxb6600329aTabD
namespace Go.Proofs.Qxb6600329a.Tab
open Go.RowKit Go.ChangeShapes Go.WideShapes Go.ChangeAt

theorem ca_calls' {a : Option Addr} {len cap : Nat} {rs : List R} {w : World} (h : Recs w a len rs) (hlen : len ≤ 4096) :
    Calls Try.prog 15 #[.slice a len cap] w fun e w' => ∃ a' cap', e = .returned (.slice a' (cands rs).length cap') ∧ Uts w' a' (cands rs).length (cands rs) ∧ Below w.heap.size w w' := by
  refine (ca_calls h hlen).mono ?_
  rintro e w' ⟨v', rfl, hown, hbel⟩
  obtain ⟨a', cap', rfl, hu⟩ := hown.view
  exact ⟨a', cap', rfl, hu, hbel⟩

theorem fo_calls' {a : Option Addr} {len cap : Nat} {zs : List Int} {w : World} (h : Uts w a len zs) (hlen : len ≤ 100000) :
    Calls Try.prog 14 #[.slice a len cap] w fun e w' => ∃ a' cap', e = .returned (.slice a' (dedup zs).length cap') ∧ Uts w' a' (dedup zs).length (dedup zs) ∧ Below w.heap.size w w' := by
  refine (fo_calls h hlen).mono ?_
  rintro e w' ⟨v', rfl, hown, hbel⟩
  obtain ⟨a', cap', rfl, hu⟩ := hown.view
  exact ⟨a', cap', rfl, hu, hbel⟩

/-- ZZTablesOf. -/
theorem zt_calls {g len B : Nat} {items : List (R × Option Addr)} {w : World} (hown : w.ownsRow B 51 10 (.slice (some ⟨g, 0, none⟩) len len) len (items.flatMap rc)) (hk : ∀ it ∈ items, Kept w it.1 it.2)
    (hwf : ∀ it ∈ items, WfR it.1) (hlen : len ≤ 4096) (rs : List R) (hrs : items.map (·.1) = rs) :
    Calls Try.prog 12 #[.slice (some ⟨g, 0, none⟩) len len] w fun e w' => ∃ a' cap', e = .returned (.slice a' (dedup (cands rs)).length cap') ∧ Uts w' a' (dedup (cands rs)).length (dedup (cands rs)) ∧ Below w.heap.size w w' := by
  have H := to_calls hown hk hwf hlen
  rw [hrs] at H
  clear hown hk hwf hrs
  go_enter Try.func12, Try.ntmps12
  go_wp2_with fail
  refine H.mono ?_
  rintro e w' ⟨v', rfl, hown, hbel⟩
  have HO : Hid (OwnU w.heap.size w' v' (dedup (cands rs))) := hown
  clear hown H
  go_wp2
  go_ret
  obtain ⟨a', cap', rfl, hu⟩ := OwnU.view HO.out
  exact ⟨a', cap', rfl, hu, hbel⟩

theorem Recs.wf {w : World} {a : Option Addr} {len : Nat} {rs : List R} (h : Recs w a len rs) : ∀ r ∈ rs, WfR r := by
  intro r hr
  obtain ⟨i, hi⟩ := List.getElem?_of_mem hr
  obtain ⟨hl, h0 | ⟨b, o, rfl, hc⟩⟩ := h
  · have := (List.getElem?_eq_some_iff.1 hi).1
    omega
  · obtain ⟨_, _, _, _, _, w0, w3, _⟩ := hc i r hi
    exact ⟨w0, w3⟩

set_option maxHeartbeats 1000000 in
theorem main3 (a : Option Addr) (len cap : Nat) (rs : List R) (w : World) (h : Recs w a len rs) (hm : len ≤ maxLen) :
    Calls Try.prog 3 #[.slice a len cap] w fun e w' => e = .returned (.bool true) ∧ Below w.heap.size w w' := by
  have H10 := zb10 a len cap rs w h hm
  have hwf := h.wf
  have HWF : Hid (∀ r ∈ rs, WfR r) := hwf
  clear hwf
  unfold maxLen at hm
  by_cases hlen : 4096 < len
  · clear h
    go_enter Try.func3, Try.ntmps3
    go_wp2_with fail
    refine H10.mono ?_
    rintro e w' ⟨⟨r, rfl⟩, rfl⟩
    cases r <;> (go_wp2; go_ret; exact ⟨rfl, Below.refl _ _⟩)
  have hlen' : len ≤ 4096 := by omega
  have hcl : (cands rs).length ≤ 8192 := by
    have := length_cands rs
    have := h.1
    omega
  have hdl : (dedup (cands rs)).length ≤ 8192 := Nat.le_trans (length_dedup _) hcl
  go_enter Try.func3, Try.ntmps3
  go_wp2_with fail
  refine H10.mono ?_
  rintro e w' ⟨⟨r, rfl⟩, rfl⟩
  clear H10
  cases r with
  | false =>
    go_wp2
    go_ret
    exact ⟨rfl, Below.refl _ _⟩
  | true =>
    go_wp2_with fail
    refine (rb_calls a len cap rs w h hlen').mono ?_
    rintro e w' ⟨n, rfl, hn, rfl⟩
    by_cases hbig : 1048576 < n
    · clear h
      go_wp2
      go_ret
      exact ⟨rfl, Below.refl _ _⟩
    go_wp2_with fail
    refine (tr_calls h hlen').mono ?_
    rintro e w1 ⟨items, rfl, hitems, hown, hkept, hbel1⟩
    have HIT : Hid (items.map (·.1) = rs) := hitems
    have HOWN : Hid _ := hown
    have HKEPT : Hid (∀ it ∈ items, Kept w1 it.1 it.2) := fun it hit => (hkept it hit).1
    have HW : Hid (∀ it ∈ items, WfR it.1) := fun it hit => HWF.out _ (by rw [← hitems]; exact List.mem_map_of_mem hit)
    clear hitems hown hkept
    go_wp2_with fail
    refine (zt_calls HOWN.out HKEPT.out HW.out hlen' rs HIT.out).mono ?_
    rintro e w2 ⟨a2, cap2, rfl, hu2, hbel2⟩
    have hw2 := hbel1.trans (hbel2.mono hbel1.size)
    have h2 := h.later hw2
    clear HOWN HKEPT HW HIT hbel1 hbel2 h
    go_wp2_with fail
    refine (ca_calls' h2 hlen').mono ?_
    rintro e w3 ⟨a3, cap3, rfl, hu3, hbel3⟩
    have hu2' := hu2.later hbel3
    have hw3 := hw2.trans (hbel3.mono hw2.size)
    clear hu2 hbel3 h2 hw2
    go_wp2_with fail
    refine (fo_calls' hu3 (by omega)).mono ?_
    rintro e w4 ⟨a4, cap4, rfl, hu4, hbel4⟩
    have hu2'' := hu2'.later hbel4
    have hw4 := hw3.trans (hbel4.mono hw3.size)
    clear hu2' hbel4 hw3 hu3
    go_wp2_with fail
    refine (eu_yes hu2'' hu4 (by unfold maxLen; omega) rfl).mono ?_
    rintro e w5 ⟨rfl, k, rfl⟩
    go_wp2
    go_ret
    exact ⟨rfl, below_drewN hw4 _⟩

end Go.Proofs.Qxb6600329a.Tab
