import Derived.Test.Qxb6600329aBase
namespace Go.Proofs.Qxb6600329a.Refuse
open Go.RowKit Go.ChangeShapes Go.WideShapes Go.ChangeAt

set_option maxHeartbeats 400000 in
theorem zb25 (a : Option Addr) (la ca : Nat) (i : Int) (s : ByteArray) (xs : List ByteArray) (w : World) (ha : Strs w a la xs) (hm : la ≤ maxLen) (hs : s.size ≤ maxLen) :
    Calls Try.prog 25 #[.slice a la ca, .int .i64 i, .string s] w fun e w' => isBool e ∧ w = w' := by
  unfold maxLen at hm hs
  go_enter Try.func25, Try.ntmps25
  go_wp2
  · go_ret
    exact ⟨⟨false, rfl⟩, rfl⟩
  · go_loop [7, 8] (fun n i => ∃ k m : Nat, k ≤ la ∧ i = .int .i64 k ∧ n = .int .i64 m ∧ m ≤ 1048576) (fun _ i => la - (intOf i).toNat)
    case atStart => exact ⟨0, la, Nat.zero_le _, rfl, by go_num, by omega⟩
    case round =>
      obtain ⟨k, m, hk, rfl, rfl, hm1⟩ := hrel
      by_cases hlt : k < la
      · obtain ⟨bl, o, s', rfl, hcx, hsz⟩ := ha.at hlt
        clear ha
        go_wp2
        · go_ret
          exact ⟨⟨false, rfl⟩, rfl⟩
        · go_ret
          exact ⟨⟨false, rfl⟩, rfl⟩
        · go_round
          case rel => exact ⟨k + 1, m + s'.size, by omega, by go_num, by go_num, by omega⟩
          case measure => simp [intOf]; omega
      · clear ha
        go_wp2
        · go_ret
          exact ⟨⟨false, rfl⟩, rfl⟩
        · go_ret
          exact ⟨⟨false, rfl⟩, rfl⟩
        · go_ret
          exact ⟨⟨true, rfl⟩, rfl⟩

def upTo (xs : List ByteArray) (k : Nat) (j : Nat) : Value := if j < k then .string (xs.getD j ByteArray.empty) else .string ByteArray.empty

theorem row_step {w : World} {g n k : Nat} {xs : List ByteArray} (h : w.rowIs g 9 n (upTo xs k)) : (w.setCell ⟨g, k, none⟩ (.string (xs.getD k ByteArray.empty))).rowIs g 9 n (upTo xs (k + 1)) := by
  refine (h.set k _).congr fun j _ => ?_
  unfold upTo
  by_cases e : j = k
  · subst e; simp
  · rw [if_neg e]
    by_cases h1 : j < k
    · rw [if_pos h1, if_pos (by omega)]
    · rw [if_neg h1, if_neg (by omega)]

theorem strs_row {w : World} {g n : Nat} {f : Nat → Value} {ss : List ByteArray} (h : w.rowIs g 9 n f) (hl : ss.length = n) (hs : ∀ s ∈ ss, s.size ≤ maxLen) (hf : ∀ i, i < n → f i = .string (ss.getD i ByteArray.empty)) :
    Strs w (some ⟨g, 0, none⟩) n ss :=
  ⟨hl, hs, .inr ⟨g, 0, rfl, fun i hi => by rw [Nat.zero_add, h.cell hi, hf i hi]⟩⟩

set_option maxHeartbeats 400000 in
/-- copyStrings, at a slice that is not empty. -/
theorem cs_calls (b o len cap : Nat) (xs : List ByteArray) (w : World) (hm : len ≤ 65536) (hbw : b < w.heap.size)
    (hc : ∀ i, i < len → w.cell? ⟨b, o + i, none⟩ = some (.string (xs.getD i ByteArray.empty))) :
    Calls Try.prog 26 #[.slice (some ⟨b, o, none⟩) len cap] w fun e w' => e = .returned (.slice (some ⟨w.heap.size, 0, none⟩) len len) ∧ w'.rowIs w.heap.size 9 len (upTo xs len) ∧ Below w.heap.size w w' := by
  have hmk := run_make_row' (P := Try.prog) 37 9 (.string ByteArray.empty) 16 Try.underlying37 info9 rfl .i64 .i64 len (by omega) (by omega)
  have q37 : ∀ (w : World) (a : Option Addr) (n c n' c' : Nat), (binOp .eql 37 (.slice a n c) (.slice none n' c')).run Try.prog w = .ok (.bool a.isNone) w := fun w a n c n' c' => Lib.run_eql_slice_nil w 37 9 a n c n' c' Try.underlying37
  have hrow0 : Hid ((w.alloc (.cells (madeCells #[.string ByteArray.empty] len) 9)).rowIs w.heap.size 9 len (upTo xs 0)) := (World.rowIs_made w (.string ByteArray.empty) len 9).congr (fun i _ => by simp [upTo])
  go_enter Try.func26, Try.ntmps26
  go_wp2
  clear hmk q37
  go_loopw [4] (fun i wr => ∃ k : Nat, k ≤ len ∧ i = .int .i64 k ∧ wr.rowIs w.heap.size 9 len (upTo xs k) ∧ Below w.heap.size w wr) (fun i _ => len - (intOf i).toNat)
  case atStart => exact ⟨0, Nat.zero_le _, rfl, hrow0.out, (Below.refl _ _).alloc (Nat.le_refl _) _⟩
  case round =>
    obtain ⟨k, hk, rfl, hrow, hbel⟩ := hrel
    clear hrow0
    by_cases hlt : k < len
    · obtain ⟨x, hxn⟩ : ∃ s, s = xs.getD k ByteArray.empty := ⟨_, rfl⟩
      have hcx : wr.cell? ⟨b, o + k, none⟩ = some (.string x) := by rw [hxn]; exact (hbel.cell (by exact hbw)).trans (hc k hlt)
      obtain ⟨v0, hv0⟩ : ∃ v0, wr.cell? ⟨w.heap.size, k, none⟩ = some v0 := ⟨_, hrow.cell hlt⟩
      have hf0 : wr.frozen? ⟨w.heap.size, k, none⟩ = false := hrow.frozen k
      have HR : Hid ((wr.setCell ⟨w.heap.size, k, none⟩ (.string x)).rowIs w.heap.size 9 len (upTo xs (k + 1))) := by rw [hxn]; exact row_step hrow
      clear hxn hrow hc
      go_wp2
      go_roundw
      case rel => exact ⟨k + 1, by omega, by go_num, HR.out, hbel.setCell (Nat.le_refl _) _⟩
      case measure => simp [intOf]; omega
    · clear hc
      obtain rfl : k = len := by omega
      go_wp2
      go_ret
      exact ⟨rfl, hrow, hbel⟩

theorem set_ne {xs : List ByteArray} {k : Nat} {s : ByteArray} (hk : k < xs.length) (h : xs.getD k ByteArray.empty ≠ s) : xs ≠ xs.set k s := by
  intro e
  apply h
  have : (xs.set k s)[k]? = some s := by simp [hk]
  rw [← e] at this
  simp [List.getD, this]

theorem snoc_ne (xs : List ByteArray) (s : ByteArray) : xs ≠ xs ++ [s] := by
  intro e
  have := congrArg List.length e
  simp at this

theorem eq_str {x s : ByteArray} (h : (x.toList == s.toList) = false) : x ≠ s := by
  intro e; subst e; simp at h

set_option maxHeartbeats 1000000 in
theorem main7_out (a : Option Addr) (la ca : Nat) (i : Int) (s : ByteArray) (xs : List ByteArray) (w : World) (ha : Strs w a la xs) (hm : la ≤ maxLen) (hs : s.size ≤ maxLen) (ho : 65536 < la ∨ i < 0 ∨ (la : Int) ≤ i) :
    Calls Try.prog 7 #[.slice a la ca, .int .i64 i, .string s] w fun e w' => e = .returned (.bool true) ∧ Below w.heap.size w w' := by
  have H25 := zb25 a la ca i s xs w ha hm hs
  have q37 : ∀ (w : World) (a : Option Addr) (n c n' c' : Nat), (binOp .neq 37 (.slice a n c) (.slice none n' c')).run Try.prog w = .ok (.bool (!a.isNone)) w := fun w a n c n' c' => run_neq_slice_nil_any w 37 9 a n c n' c' Try.underlying37
  unfold maxLen at hm hs
  obtain ⟨w2, hr2, hA2, hB2⟩ := run_copy_strs w a la ca xs ha
  by_cases hla : 65536 < la
  · clear q37 hr2 ho
    go_enter Try.func7, Try.ntmps7
    go_wp2_with fail
    refine H25.mono ?_
    rintro e w' ⟨⟨r, rfl⟩, rfl⟩
    cases r <;> (go_wp2; go_ret; exact ⟨rfl, Below.refl _ _⟩)
  have ho' : i < 0 ∨ (la : Int) ≤ i := ho.resolve_left hla
  have hmk := run_make_row' (P := Try.prog) 37 9 (.string ByteArray.empty) 16 Try.underlying37 info9 rfl .i64 .i64 la (by omega) (by omega)
  go_enter Try.func7, Try.ntmps7
  go_wp2_with fail
  refine H25.mono ?_
  rintro e w' ⟨⟨r, rfl⟩, rfl⟩
  clear H25 ho
  cases r with
  | false =>
    clear hr2 q37 hmk
    go_wp2
    go_ret
    exact ⟨rfl, Below.refl _ _⟩
  | true =>
    cases a with
    | none =>
      go_wp2_with fail
      clear hr2 hmk q37
      refine (sb_calls _ _ _ xs _ ha hm).mono ?_
      rintro e w' ⟨n, rfl, hn1, hn2, rfl⟩
      clear hn2
      by_cases hna : 1048576 < n
      · go_wp2
        go_ret
        exact ⟨rfl, Below.refl _ _⟩
      by_cases hnb : (1048576 : Int) - n < s.size
      · go_wp2
        go_ret
        exact ⟨rfl, Below.refl _ _⟩
      rcases ho' with hi | hi
      · go_wp2
        go_ret
        exact ⟨rfl, Below.refl _ _⟩
      · have hi0 : ¬ i < 0 := by omega
        go_wp2
        go_ret
        exact ⟨rfl, Below.refl _ _⟩
    | some ad =>
      go_wp2_with fail
      clear hr2 hmk q37
      refine (sb_calls _ _ _ xs _ hA2 hm).mono ?_
      rintro e w' ⟨n, rfl, hn1, hn2, rfl⟩
      clear hn2
      by_cases hna : 1048576 < n
      · go_wp2
        go_ret
        exact ⟨rfl, hB2⟩
      by_cases hnb : (1048576 : Int) - n < s.size
      · go_wp2
        go_ret
        exact ⟨rfl, hB2⟩
      rcases ho' with hi | hi
      · go_wp2
        go_ret
        exact ⟨rfl, hB2⟩
      · have hi0 : ¬ i < 0 := by omega
        go_wp2
        go_ret
        exact ⟨rfl, hB2⟩

end Go.Proofs.Qxb6600329a.Refuse
