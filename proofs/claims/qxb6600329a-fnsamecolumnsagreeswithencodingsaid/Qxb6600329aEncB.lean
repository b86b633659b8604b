import Derived.Test.Qxb6600329aEnc
namespace Go.Proofs.Qxb6600329a.Enc
open Go.RowKit Go.ChangeShapes Go.WideShapes Go.ChangeAt

/-- What bytesEqual is told of a []byte. -/
def Bts (w : World) (a : Option Addr) (len : Nat) (zs : List Int) : Prop :=
  zs.length = len ∧ (len = 0 ∨ ∃ b o, a = some ⟨b, o, none⟩ ∧ ∀ i, i < len → w.cell? ⟨b, o + i, none⟩ = some (.int .u8 (zs.getD i 0)))

theorem OwnB.view {B : Nat} {w : World} {v : Value} {zs : List Int} (h : OwnB B w v zs) : ∃ a cap, v = .slice a zs.length cap ∧ Bts w a zs.length zs := by
  have h' := h
  rcases h.2 with ⟨rfl, h0⟩ | ⟨g, cap, cur, rfl, _, hg, _, _, _, htake⟩
  · rw [h0]
    exact ⟨none, 0, rfl, h0, .inl rfl⟩
  · refine ⟨_, cap, rfl, rfl, .inr ⟨g, 0, rfl, fun i hi => ?_⟩⟩
    have := World.ownsRow.cells h' (g := g) rfl i (.int .u8 (zs.getD i 0)) (by simp [List.getD, hi])
    rwa [Addr.add_lit] at this

theorem Bts.later {w w2 : World} {a : Option Addr} {len : Nat} {zs : List Int} (h : Bts w a len zs) (hb : Below w.heap.size w w2) : Bts w2 a len zs := by
  obtain ⟨hl, h0 | ⟨b, o, rfl, hc⟩⟩ := h
  · exact ⟨hl, .inl h0⟩
  · exact ⟨hl, .inr ⟨b, o, rfl, fun i hi => (hb.cell (cell_lt (hc i hi))).trans (hc i hi)⟩⟩

set_option maxHeartbeats 400000 in
theorem ec_zero (a : Option Addr) (cap : Nat) (w : World) : Calls Try.prog 23 #[.slice a 0 cap] w fun e w' => e = .returned (.slice none 0 0) ∧ w = w' := by
  go_enter Try.func23, Try.ntmps23
  go_wp2
  refine wp_loop_rounds 1 ?_
  rw [rounds_succ]
  go_wp2
  go_ret
  exact ⟨rfl, rfl⟩

/-- encodeCols. -/
theorem ec_calls {a : Option Addr} {len cap : Nat} {ss : List ByteArray} {w : World} (h : Strs w a len ss) (hlen : len ≤ 65536) (ht : total ss ≤ 1048576) :
    Calls Try.prog 23 #[.slice a len cap] w fun e w' => ∃ a' cap', e = .returned (.slice a' (Code.encode ss).length cap') ∧ Bts w' a' (Code.encode ss).length (Code.encode ss) ∧ Below w.heap.size w w' := by
  obtain ⟨hl, hs, h0 | ⟨b, o, rfl, hc⟩⟩ := h
  · subst h0
    obtain rfl := List.eq_nil_of_length_eq_zero hl
    refine (ec_zero a cap w).mono ?_
    rintro e w' ⟨rfl, rfl⟩
    exact ⟨none, 0, rfl, ⟨rfl, .inl rfl⟩, Below.refl _ _⟩
  · by_cases h0 : len = 0
    · subst h0
      obtain rfl := List.eq_nil_of_length_eq_zero hl
      refine (ec_zero _ cap w).mono ?_
      rintro e w' ⟨rfl, rfl⟩
      exact ⟨none, 0, rfl, ⟨rfl, .inl rfl⟩, Below.refl _ _⟩
    · refine (ec_pos b o len cap ss w hlen ht hl (cell_lt (hc 0 (by omega))) hc).mono ?_
      rintro e w' ⟨v', rfl, hown, hbel⟩
      obtain ⟨a', cap', rfl, hb⟩ := hown.view
      exact ⟨a', cap', rfl, hb, hbel⟩

theorem take_more {xs ys : List Int} {k : Nat} (hx : k < xs.length) (hy : k < ys.length) (h : xs.take k = ys.take k) (e : xs.getD k 0 = ys.getD k 0) : xs.take (k + 1) = ys.take (k + 1) := by
  rw [List.take_succ_eq_append_getElem hx, List.take_succ_eq_append_getElem hy, h]
  simp only [List.getD, List.getElem?_eq_getElem hx, List.getElem?_eq_getElem hy, Option.getD_some] at e
  rw [e]

set_option maxHeartbeats 400000 in
theorem be_len (a b : Option Addr) (la ca lb cb : Nat) (w : World) (h : ((la : Int) != (lb : Int)) = true) :
    Calls Try.prog 22 #[.slice a la ca, .slice b lb cb] w fun e w' => e = .returned (.bool false) ∧ w = w' := by
  go_enter Try.func22, Try.ntmps22
  go_wp2
  go_ret
  exact ⟨rfl, rfl⟩

set_option maxHeartbeats 400000 in
theorem be_zero (a b : Option Addr) (ca cb : Nat) (w : World) :
    Calls Try.prog 22 #[.slice a 0 ca, .slice b 0 cb] w fun e w' => e = .returned (.bool true) ∧ w = w' := by
  go_enter Try.func22, Try.ntmps22
  go_wp2
  refine wp_loop_rounds 1 ?_
  rw [rounds_succ]
  go_wp2
  go_ret
  exact ⟨rfl, rfl⟩

set_option maxHeartbeats 400000 in
theorem be_pos (ab ao bb bo len ca cb : Nat) (xs ys : List Int) (w : World) (hm : len ≤ maxLen) (hx : xs.length = len) (hy : ys.length = len)
    (hcx : ∀ i, i < len → w.cell? ⟨ab, ao + i, none⟩ = some (.int .u8 (xs.getD i 0)))
    (hcy : ∀ i, i < len → w.cell? ⟨bb, bo + i, none⟩ = some (.int .u8 (ys.getD i 0))) :
    Calls Try.prog 22 #[.slice (some ⟨ab, ao, none⟩) len ca, .slice (some ⟨bb, bo, none⟩) len cb] w fun e w' => ∃ r, e = .returned (.bool r) ∧ (r = true ↔ xs = ys) ∧ ∃ n, w' = w.drewN n := by
  unfold maxLen at hm
  have HX0 : Hid (xs.length = len) := hx
  have HY0 : Hid (ys.length = len) := hy
  clear hx hy
  go_enter Try.func22, Try.ntmps22
  go_wp2
  go_loopw [5] (fun i wr => ∃ k : Nat, k ≤ len ∧ i = .int .i64 k ∧ (∃ n, wr = w.drewN n) ∧ Hid (xs.take k = ys.take k)) (fun i _ => len - (intOf i).toNat)
  case atStart => exact ⟨0, Nat.zero_le _, rfl, ⟨0, rfl⟩, by simp [Hid]⟩
  case round =>
    obtain ⟨k, hk, rfl, ⟨n, rfl⟩, HT⟩ := hrel
    by_cases hlt : k < len
    · obtain ⟨x, hxn⟩ : ∃ s, s = xs.getD k 0 := ⟨_, rfl⟩
      obtain ⟨y, hyn⟩ : ∃ s, s = ys.getD k 0 := ⟨_, rfl⟩
      have hcx' : w.cell? ⟨ab, ao + k, none⟩ = some (.int .u8 x) := by rw [hxn]; exact hcx k hlt
      have hcy' : w.cell? ⟨bb, bo + k, none⟩ = some (.int .u8 y) := by rw [hyn]; exact hcy k hlt
      have hltI : (k : Int) < (len : Int) := by omega
      have HX : Hid (x = xs.getD k 0) := hxn
      have HY : Hid (y = ys.getD k 0) := hyn
      clear hxn hyn hcx hcy
      by_cases hxy : x = y
      · subst hxy
        go_wp2
        go_quiet (fail)
        go_wp2
        go_roundw
        case rel => exact ⟨k + 1, by omega, by go_num, ⟨_, rfl⟩, take_more (by have := HX0.out; omega) (by have := HY0.out; omega) HT.out (by rw [← HX.out, ← HY.out])⟩
        case measure => simp [intOf]; omega
      · have hne : (x != y) = true := by simpa using hxy
        have HNE : Hid (x ≠ y) := hxy
        clear hxy
        go_wp2
        go_quiet (fail)
        go_wp2
        go_ret
        refine ⟨false, rfl, ⟨fun h => (by cases h), fun h => ?_⟩, _, World.drewN_drewN _ _ _⟩
        exact absurd (by rw [HX.out, HY.out, h]) HNE.out
    · clear hcx hcy
      go_wp2
      go_ret
      refine ⟨true, rfl, ⟨fun _ => ?_, fun _ => rfl⟩, _, rfl⟩
      have h1 := HT.out
      have h2 := HX0.out
      have h3 := HY0.out
      rwa [List.take_of_length_le (by omega), List.take_of_length_le (by omega)] at h1

/-- bytesEqual. -/
theorem be_calls {a b : Option Addr} {la ca lb cb : Nat} {xs ys : List Int} {w : World} (ha : Bts w a la xs) (hb : Bts w b lb ys) (hm : la ≤ maxLen) :
    Calls Try.prog 22 #[.slice a la ca, .slice b lb cb] w fun e w' => ∃ r, e = .returned (.bool r) ∧ (r = true ↔ xs = ys) ∧ ∃ n, w' = w.drewN n := by
  obtain ⟨hl, hc⟩ := ha
  obtain ⟨hl', hc'⟩ := hb
  by_cases hne : la = lb
  · subst hne
    rcases hc with h0 | ⟨b, o, rfl, hc⟩
    · subst h0
      refine (be_zero _ _ _ _ _).mono ?_
      rintro e w' ⟨rfl, rfl⟩
      exact ⟨true, rfl, ⟨fun _ => by rw [List.eq_nil_of_length_eq_zero hl, List.eq_nil_of_length_eq_zero hl'], fun _ => rfl⟩, 0, rfl⟩
    · rcases hc' with h0 | ⟨b', o', rfl, hc'⟩
      · subst h0
        refine (be_zero _ _ _ _ _).mono ?_
        rintro e w' ⟨rfl, rfl⟩
        exact ⟨true, rfl, ⟨fun _ => by rw [List.eq_nil_of_length_eq_zero hl, List.eq_nil_of_length_eq_zero hl'], fun _ => rfl⟩, 0, rfl⟩
      · exact be_pos b o b' o' la ca cb xs ys w hm hl hl' hc hc'
  · refine (be_len _ _ _ _ _ _ _ (by simp; omega)).mono ?_
    rintro e w' ⟨rfl, rfl⟩
    exact ⟨false, rfl, ⟨fun h => (by cases h), fun h => absurd (by rw [← hl, ← hl', h]) hne⟩, 0, rfl⟩

theorem be_yes {a b : Option Addr} {la ca lb cb : Nat} {xs ys : List Int} {w : World} (ha : Bts w a la xs) (hb : Bts w b lb ys) (hm : la ≤ maxLen) (h : xs = ys) :
    Calls Try.prog 22 #[.slice a la ca, .slice b lb cb] w fun e w' => e = .returned (.bool true) ∧ ∃ n, w' = w.drewN n := by
  refine (be_calls ha hb hm).mono ?_
  rintro e w' ⟨r, rfl, hr, hn⟩
  obtain rfl := hr.2 h
  exact ⟨rfl, hn⟩

theorem be_no {a b : Option Addr} {la ca lb cb : Nat} {xs ys : List Int} {w : World} (ha : Bts w a la xs) (hb : Bts w b lb ys) (hm : la ≤ maxLen) (h : xs ≠ ys) :
    Calls Try.prog 22 #[.slice a la ca, .slice b lb cb] w fun e w' => e = .returned (.bool false) ∧ ∃ n, w' = w.drewN n := by
  refine (be_calls ha hb hm).mono ?_
  rintro e w' ⟨r, rfl, hr, hn⟩
  cases r with
  | false => exact ⟨rfl, hn⟩
  | true => exact absurd (hr.1 rfl) h

end Go.Proofs.Qxb6600329a.Enc
