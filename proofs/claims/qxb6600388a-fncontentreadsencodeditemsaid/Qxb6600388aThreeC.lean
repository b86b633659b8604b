import Derived.Test.Qxb6600388aThreeB
namespace Go.Proofs.Qxb6600388a.Three
open Go.RowKit Go.ChangeShapes Go.WideShapes Go.ChangeAt
set_option linter.unusedVariables false

theorem main6 (major wd : Int) (a b : Option Addr) (la ca lb cb : Nat) (xs ys : List Int) (w : World) (ha : Bts w a la xs) (hb : Bts w b lb ys) (hna : a = none → la = 0 ∧ ca = 0) (hnb : b = none → lb = 0 ∧ cb = 0) (hm : la ≤ maxLen) (hm' : lb ≤ maxLen)
    (hb0 : 0 ≤ major) (hbb : major ≤ 255) (hw0 : 0 ≤ wd) (hw : wd ≤ 255) :
    Calls Try.prog 6 #[.int .u8 major, .int .u8 wd, .slice a la ca, .slice b lb cb] w fun e w' => e = .returned (.bool true) ∧ Below w.heap.size w w' := by
  obtain ⟨major, rfl⟩ := Int.eq_ofNat_of_zero_le hb0
  obtain ⟨wd, rfl⟩ := Int.eq_ofNat_of_zero_le hw0
  by_cases ho : 1048576 < la ∨ 1048576 < lb + la ∨ 7 < major ∨ 4 < wd ∨ ¬ Code.Fits wd la
  · exact main6_out major wd a b la ca lb cb w hm hm' (by omega) (by omega) ho
  · have hf : Code.Fits wd la := Classical.byContradiction fun hn => ho (.inr (.inr (.inr (.inr hn))))
    exact main6_in major wd a b la ca lb cb xs ys w ha hb hna hnb (by omega) (by omega) hf

set_option maxRecDepth 100000 in
theorem lifted (os : Os) (started : os.Started) (H : Type) (enc : TypeId × Value → H) :
    ReturnsInHanded {} Try.checked os 6 .any (Rows.fnContentReadsEncodedItemSpec.pre6 enc Try.prog Try.f6 Rows.fnContentReadsEncodedItemRow.domain false) (Rows.fnContentReadsEncodedItemSpec.post enc Try.prog Try.f6 false true false false) := by
  refine returnsInHanded_of_change (C := Try.checked) own started (by kernel_rfl) Try.func6
    (ChangeSpec.witness6 (enc := enc) (C := Try.checked) false ⟨#[], #[.int .u8 0, .int .u8 0, .slice none 0 0, .slice none 0 0], []⟩ 8 (by kernel_rfl) (by kernel_rfl) (by kernel_rfl) (by kernel_rfl)) ?_
  intro W base args ds gs before hval0 hW hcnd _
  have hval : ∀ (j : Nat) t v, Try.f6.params[j]? = some t → args[j]? = some v → Value.okWide Try.prog W .any base t v := hval0
  have hW' := hW
  obtain ⟨p, q, hA0, hV, rfl, hfz, hnd⟩ := hW
  have hA : DataW.TrodAll enc Try.prog W 0 (fun _ => true) true Try.f6.params.toList args.toList ds p := hA0
  rw [Try.params6] at hA hval
  obtain ⟨v0, vs0, d0, ds0, p0, q0, hargs, rfl, rfl, h0, r0⟩ := trodAll_cons hA
  obtain ⟨v1, vs1, d1, ds1, p1, q1, rfl, rfl, rfl, h1, r1⟩ := trodAll_cons r0
  obtain ⟨v2, vs2, d2, ds2, p2, q2, rfl, rfl, rfl, h2, r2⟩ := trodAll_cons r1
  obtain ⟨v3, vs3, d3, ds3, p3, q3, rfl, rfl, rfl, h3, r3⟩ := trodAll_cons r2
  obtain ⟨rfl, rfl, rfl⟩ := trodAll_nil r3
  obtain rfl : args = #[v0, v1, v2, v3] := by cases args; simp_all
  obtain ⟨rfl, rfl⟩ := trodVars_none hV
  obtain ⟨a0, rfl, rfl, rfl, w0⟩ := open_int Try.underlying5 (hval 0 5 v0 rfl rfl) h0
  obtain ⟨a1, rfl, rfl, rfl, w1⟩ := open_int Try.underlying5 (hval 1 5 v1 rfl rfl) h1
  obtain ⟨a2, len2, cap2, rfl⟩ := okWide_slice Try.underlying23 (hval 2 23 v2 rfl rfl)
  have k2 := h2
  have lt2 : ∀ x ∈ p2, x.block < W.heap.size := by obtain ⟨m, hm⟩ := k2; exact DataW.trod_lt m _ _ _ hm
  obtain ⟨a3, len3, cap3, rfl⟩ := okWide_slice Try.underlying23 (hval 3 23 v3 rfl rfl)
  have k3 := h3
  have lt3 : ∀ x ∈ p3, x.block < W.heap.size := by obtain ⟨m, hm⟩ := k3; exact DataW.trod_lt m _ _ _ hm
  obtain ⟨xs, b2, n2, m2⟩ := view_bts h2
  obtain ⟨ys, b3, n3, m3⟩ := view_bts h3
  have q0 := bounds_u8 w0
  have q1 := bounds_u8 w1
  clear hA0 hval0
  refine (main6 a0 a1 a2 a3 len2 cap2 len3 cap3 xs ys W b2 b3 n2 n3 m2 m3 q0.1 q0.2 q1.1 q1.2).mono fun e W' ⟨he, bel⟩ => ?_
  subst he
  exact ⟨_, rfl, _, _, _, [], _, [], hW', trodAll_mk1 (shut_bool Try.underlying4 _), (trodAll_cons_mk (shut_int Try.underlying5 w0) (trodAll_cons_mk (shut_int Try.underlying5 w1) (trodAll_cons_mk (Below.trod laidOut (by kernel_rfl) (of_decide_eq_true (by kernel_rfl)) k2 bel lt2) (trodAll_cons_mk (Below.trod laidOut (by kernel_rfl) (of_decide_eq_true (by kernel_rfl)) k3 bel lt3) trodAll_mk0)))), rfl, bel.frame _, fun h => by cases h⟩

theorem over : Rows.fnContentReadsEncodedItemRow.holds Try.pinned (OpenSpec.ofChange Rows.fnContentReadsEncodedItemSpec) :=
  OpenClaim.holds_of_wide 6 Try.f6 rfl rfl rfl rfl rfl rfl rfl ⟨rfl, rfl, rfl, rfl, rfl⟩ rfl rfl rfl rfl rfl (by kernel_rfl) Try.func6 (by kernel_rfl)
    (of_decide_eq_true (by kernel_rfl)) (by unfold Func.isWrapper; first | (rw [if_pos (by decide +kernel)]; kernel_rfl) | (rw [if_neg (by decide +kernel)]; exact ⟨rfl, rfl⟩))
    (fun os started H enc _ => lifted os started H enc)

/-- THE STATEMENT. -/
theorem proved : Rows.FnContentReadsEncodedItemSaid := over
#print axioms proved
end Go.Proofs.Qxb6600388a.Three
