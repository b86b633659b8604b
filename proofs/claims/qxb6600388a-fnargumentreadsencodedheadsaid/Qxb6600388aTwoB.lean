import Derived.Test.Qxb6600388aTwo
namespace Go.Proofs.Qxb6600388a.Two
open Go.RowKit Go.ChangeShapes Go.WideShapes Go.ChangeAt
set_option linter.unusedVariables false

theorem main5 (major want wd v : Int) (a : Option Addr) (len cap : Nat) (zs : List Int) (w : World) (h : Bts w a len zs) (hnil : a = none → len = 0 ∧ cap = 0) (hm : len ≤ maxLen) (hb0 : 0 ≤ major) (hb : major ≤ 255) (hq0 : 0 ≤ want) (hq : want ≤ 255) (hw0 : 0 ≤ wd) (hw : wd ≤ 255) (hv0 : 0 ≤ v) (hv : v ≤ 18446744073709551615) :
    Calls Try.prog 5 #[.int .u8 major, .int .u8 want, .int .u8 wd, .int .u64 v, .slice a len cap] w fun e w' => e = .returned (.bool true) ∧ Below w.heap.size w w' := by
  obtain ⟨major, rfl⟩ := Int.eq_ofNat_of_zero_le hb0
  obtain ⟨want, rfl⟩ := Int.eq_ofNat_of_zero_le hq0
  obtain ⟨wd, rfl⟩ := Int.eq_ofNat_of_zero_le hw0
  obtain ⟨v, rfl⟩ := Int.eq_ofNat_of_zero_le hv0
  by_cases ho : 1048576 < len ∨ 7 < major ∨ 4 < wd ∨ ¬ Code.Fits wd v
  · exact main5_out major want wd v a len cap w hm (by omega) (by omega) (by omega) ho
  · have hf : Code.Fits wd v := Classical.byContradiction fun hn => ho (.inr (.inr (.inr hn)))
    exact main5_in major want wd v a len cap zs w h hnil (by omega) (by omega) (by omega) hf

set_option maxRecDepth 100000 in
theorem lifted (os : Os) (started : os.Started) (H : Type) (enc : TypeId × Value → H) :
    ReturnsInHanded {} Try.checked os 5 .any (Rows.fnArgumentReadsEncodedHeadSpec.pre6 enc Try.prog Try.f5 Rows.fnArgumentReadsEncodedHeadRow.domain false) (Rows.fnArgumentReadsEncodedHeadSpec.post enc Try.prog Try.f5 false true false false) := by
  refine returnsInHanded_of_change (C := Try.checked) own started (by kernel_rfl) Try.func5
    (ChangeSpec.witness6 (enc := enc) (C := Try.checked) false ⟨#[], #[.int .u8 0, .int .u8 0, .int .u8 0, .int .u64 0, .slice none 0 0], []⟩ 8 (by kernel_rfl) (by kernel_rfl) (by kernel_rfl) (by kernel_rfl)) ?_
  intro W base args ds gs before hval0 hW hcnd _
  have hval : ∀ (j : Nat) t v, Try.f5.params[j]? = some t → args[j]? = some v → Value.okWide Try.prog W .any base t v := hval0
  have hW' := hW
  obtain ⟨p, q, hA0, hV, rfl, hfz, hnd⟩ := hW
  have hA : DataW.TrodAll enc Try.prog W 0 (fun _ => true) true Try.f5.params.toList args.toList ds p := hA0
  rw [Try.params5] at hA hval
  obtain ⟨v0, vs0, d0, ds0, p0, q0, hargs, rfl, rfl, h0, r0⟩ := trodAll_cons hA
  obtain ⟨v1, vs1, d1, ds1, p1, q1, rfl, rfl, rfl, h1, r1⟩ := trodAll_cons r0
  obtain ⟨v2, vs2, d2, ds2, p2, q2, rfl, rfl, rfl, h2, r2⟩ := trodAll_cons r1
  obtain ⟨v3, vs3, d3, ds3, p3, q3, rfl, rfl, rfl, h3, r3⟩ := trodAll_cons r2
  obtain ⟨v4, vs4, d4, ds4, p4, q4, rfl, rfl, rfl, h4, r4⟩ := trodAll_cons r3
  obtain ⟨rfl, rfl, rfl⟩ := trodAll_nil r4
  obtain rfl : args = #[v0, v1, v2, v3, v4] := by cases args; simp_all
  obtain ⟨rfl, rfl⟩ := trodVars_none hV
  obtain ⟨a0, rfl, rfl, rfl, w0⟩ := open_int Try.underlying5 (hval 0 5 v0 rfl rfl) h0
  obtain ⟨a1, rfl, rfl, rfl, w1⟩ := open_int Try.underlying5 (hval 1 5 v1 rfl rfl) h1
  obtain ⟨a2, rfl, rfl, rfl, w2⟩ := open_int Try.underlying5 (hval 2 5 v2 rfl rfl) h2
  obtain ⟨a3, rfl, rfl, rfl, w3⟩ := open_int Try.underlying22 (hval 3 22 v3 rfl rfl) h3
  obtain ⟨a4, len4, cap4, rfl⟩ := okWide_slice Try.underlying23 (hval 4 23 v4 rfl rfl)
  have k4 := h4
  have lt4 : ∀ x ∈ p4, x.block < W.heap.size := by obtain ⟨m, hm⟩ := k4; exact DataW.trod_lt m _ _ _ hm
  obtain ⟨zs, b4, n4, m4⟩ := view_bts h4
  have q0 := bounds_u8 w0
  have q1 := bounds_u8 w1
  have q2 := bounds_u8 w2
  have q3 := bounds_u64 w3
  clear hA0 hval0
  refine (main5 a0 a1 a2 a3 a4 len4 cap4 zs W b4 n4 m4 q0.1 q0.2 q1.1 q1.2 q2.1 q2.2 q3.1 q3.2).mono fun e W' ⟨he, bel⟩ => ?_
  subst he
  exact ⟨_, rfl, _, _, _, [], _, [], hW', trodAll_mk1 (shut_bool Try.underlying4 _), (trodAll_cons_mk (shut_int Try.underlying5 w0) (trodAll_cons_mk (shut_int Try.underlying5 w1) (trodAll_cons_mk (shut_int Try.underlying5 w2) (trodAll_cons_mk (shut_int Try.underlying22 w3) (trodAll_cons_mk (Below.trod laidOut (by kernel_rfl) (of_decide_eq_true (by kernel_rfl)) k4 bel lt4) trodAll_mk0))))), rfl, bel.frame _, fun h => by cases h⟩

theorem over : Rows.fnArgumentReadsEncodedHeadRow.holds Try.pinned (OpenSpec.ofChange Rows.fnArgumentReadsEncodedHeadSpec) :=
  OpenClaim.holds_of_wide 5 Try.f5 rfl rfl rfl rfl rfl rfl rfl ⟨rfl, rfl, rfl, rfl, rfl⟩ rfl rfl rfl rfl rfl (by kernel_rfl) Try.func5 (by kernel_rfl)
    (of_decide_eq_true (by kernel_rfl)) (by unfold Func.isWrapper; first | (rw [if_pos (by decide +kernel)]; kernel_rfl) | (rw [if_neg (by decide +kernel)]; exact ⟨rfl, rfl⟩))
    (fun os started H enc _ => lifted os started H enc)

/-- THE STATEMENT. -/
theorem proved : Rows.FnArgumentReadsEncodedHeadSaid := over
#print axioms proved
end Go.Proofs.Qxb6600388a.Two
