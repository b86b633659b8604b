import Derived.Test.Qxb6600329aTabF
import Derived.Maps.OwnOps
import Derived.Maps.OwnSet
namespace Go.Proofs.Qxb6600329a.Tab
open Go.RowKit Go.ChangeShapes Go.WideShapes Go.ChangeAt Go.Maps

def WfR (r : R) : Prop := (Lit.int .u32 r.id).wf = true ∧ (Lit.int .u32 r.iid).wf = true

/-- record.tables. -/
theorem tb_calls (r : R) (p : Option Addr) (w : World) (h : Kept w r p) :
    Calls Try.prog 32 #[.agg #[.string ⟨#[99]⟩, .string ByteArray.empty, .int .u32 r.id, .string r.rel, .slice none 0 0, .string ByteArray.empty, .string ByteArray.empty, .pointer p, .string ByteArray.empty, .string ByteArray.empty]] w fun e w' => ∃ v', e = .returned v' ∧ OwnT w.heap.size w' v' (tabs r) ∧ Below w.heap.size w w' := by
  obtain ⟨id, rel, has, iid, irel⟩ := r
  rcases h with ⟨h0, rfl⟩ | ⟨h0, kb, rfl, c0, c1⟩
  · obtain rfl : has = false := h0
    cases h1 : rel.toList.isEmpty with
    | true => have := tb_e_nil id rel w h1; simpa [tabs, h1] using this
    | false => have := tb_n_nil id rel w h1; simpa [tabs, h1] using this
  · obtain rfl : has = true := h0
    cases h1 : rel.toList.isEmpty with
    | true =>
      cases h2 : irel.toList.isEmpty with
      | true => have := tb_e_kE id iid rel irel kb w h1 h2 c0 c1; simpa [tabs, h1, h2] using this
      | false => have := tb_e_kN id iid rel irel kb w h1 h2 c0 c1; simpa [tabs, h1, h2] using this
    | false =>
      cases h2 : irel.toList.isEmpty with
      | true => have := tb_n_kE id iid rel irel kb w h1 h2 c0 c1; simpa [tabs, h1, h2] using this
      | false => have := tb_n_kN id iid rel irel kb w h1 h2 c0 c1; simpa [tabs, h1, h2] using this

theorem flat_get {α β : Type} {f : α → List β} {n : Nat} (hf : ∀ x, (f x).length = n) : ∀ (items : List α) (k : Nat) (x : α) (j : Nat), items[k]? = some x → j < n → (items.flatMap f)[k * n + j]? = (f x)[j]? := by
  intro items
  induction items with
  | nil => intro k x j h; simp at h
  | cons y ys ih =>
    intro k x j h hj
    rw [List.flatMap_cons]
    cases k with
    | zero =>
      simp at h
      subst h
      rw [Nat.zero_mul, Nat.zero_add, List.getElem?_append_left (by rw [hf]; exact hj)]
    | succ k =>
      simp at h
      rw [List.getElem?_append_right (by rw [hf, Nat.succ_mul]; omega), hf, show (k + 1) * n + j - n = k * n + j by rw [Nat.succ_mul]; omega]
      exact ih k x j h hj

theorem flat_len {α β : Type} {f : α → List β} {n : Nat} (hf : ∀ x, (f x).length = n) (items : List α) : (items.flatMap f).length = items.length * n := by
  induction items with
  | nil => simp
  | cons y ys ih => rw [List.flatMap_cons, List.length_append, hf, ih, List.length_cons, Nat.succ_mul]; omega

/-- The ten cells of record k. -/
theorem rec_cells {w : World} {B g len cap : Nat} {items : List (R × Option Addr)} (h : w.ownsRow B 51 10 (.slice (some ⟨g, 0, none⟩) len cap) len (items.flatMap rc)) {k : Nat} {it : R × Option Addr} (hk : items[k]? = some it) :
    ∀ j u, j < 10 → (rc it)[j]? = some u → w.cell? ⟨g, k * 10 + j, none⟩ = some u := by
  intro j u hj hu
  have := h.cells (g := g) rfl (k * 10 + j) u (by rw [flat_get (f := rc) (n := 10) (fun x => rfl) items k it j hk hj]; exact hu)
  rwa [Addr.add_lit, Nat.zero_add] at this

theorem plainElem_bool_inv {H : Type} {P : Program} {e : TypeId} (he : P.underlying e = some .bool) {v : Value} {z : DataW H × List MemPlace} (h : plainElem P e v = some z) : ∃ a, v = .bool a ∧ z = (.lit (.bool a), []) := by
  unfold plainElem at h
  rw [he] at h
  cases v <;> simp at h
  exact ⟨_, rfl, h.symm⟩

/-- 'm[k]' at elements that are bools: the law that the kit lacks. -/
theorem wpList_lookup_own_bool {H : Type} {P : Program} (w : World) {ops : Array Oper} {rest : List Oper} {o : Oper} {a : Act} {Q : Exit → Act → World → Prop}
    (hg : o.guard = none) (m x : Operand) (t : TypeId) (hop : o.op = Op.lookup t m x false)
    (k e : TypeId) (K : Keyed P k) (ht : P.underlying t = some (.map k e)) (he : P.underlying e = some .bool) (hz : (zeroValue e).run P w = .ok (.bool false) w) (b n : Nat) (D : DataW H)
    (hm : a.eval m = .map (some b)) (hown : w.ownsMap P k (plainElem P e) b n D) (key : Value) (kl : Lit) (hx : a.eval x = key) (hkey : keyOf P k key = some kl) (c : Bool) (hat : D.atKey kl (.lit (.bool false)) = .lit (.bool c))
    (hK : wpList P ops Q rest (a.put o.dst (.bool c)) w) :
    wpList P ops Q (o :: rest) a w := by
  refine wpList_plain hg fun K' hK' => ?_
  obtain ⟨v, ps, hrun, hv⟩ := hown.lookup K ht hz (plainElem_bool he false) hkey
  obtain ⟨c', rfl, hc⟩ := plainElem_bool_inv he hv
  simp only [Prod.mk.injEq] at hc
  rw [hat] at hc
  have : c' = c := by simpa using hc.1.symm
  subst this
  unfold Oper.wp
  simp [execOp, hop, hm, hx, hrun, Result.andThen]
  exact hK' _ _ hK

theorem law33 : Keyed Try.prog 33 := int_keyed Try.underlying33
theorem zero4 (w : World) : (zeroValue 4).run Try.prog w = .ok (.bool false) w := by kernel_rfl

/-- The map 'seen' holds just the numbers of acc. -/
def SeenIs (D : DataW Unit) (acc : List Int) : Prop := ∀ x : Int, (Lit.int .u32 x).wf = true → D.atKey (.int .u32 x) (.lit (.bool false)) = .lit (.bool (acc.contains x))

theorem seen_put {D : DataW Unit} {acc : List Int} {x : Int} (h : SeenIs D acc) (hD : IsMap D) : SeenIs (D.put (.int .u32 x) (.lit (.bool true))) (acc ++ [x]) := by
  intro y hy
  by_cases e : y = x
  · subst e
    rw [atKey_put_same hD (show WideAt.IsKeyLit (.int .u32 y) from trivial)]
    simp
  · rw [atKey_put_other (by intro e'; exact e (by simpa using e')), h y hy]
    have e' : ¬ x = y := fun z => e z.symm
    simp [e]

theorem rows_apart {w : World} {B B' : Nat} {e e' : TypeId} {s s' n n' : Nat} {v v' : Value} {xs xs' : List Value} (h : w.ownsRow B e s v n xs) (h' : w.ownsRow B' e' s' v' n' xs') (hne : e ≠ e') : v.ownBlock = none ∨ v.ownBlock ≠ v'.ownBlock := by
  rcases h.2 with ⟨rfl, _⟩ | ⟨g, cap, cur, rfl, _, hg, _⟩
  · left; rfl
  · right
    rcases h'.2 with ⟨rfl, _⟩ | ⟨g', cap', cur', rfl, _, hg', _⟩
    · simp [Value.ownBlock]
    · intro e0
      simp [Value.ownBlock] at e0
      subst e0
      rw [hg] at hg'
      simp at hg'
      exact hne hg'.2

theorem map_apart {w : World} {P : Program} {k : TypeId} {Rr : Value → Option (DataW Unit × List MemPlace)} {b n : Nat} {D : DataW Unit} {B : Nat} {e : TypeId} {s m : Nat} {v : Value} {xs : List Value} (h : w.ownsMap P k Rr b n D) (h' : w.ownsRow B e s v m xs) : some b ≠ v.ownBlock := by
  obtain ⟨es, clock, hb, _⟩ := h
  rcases h'.2 with ⟨rfl, _⟩ | ⟨g, cap, cur, rfl, _, hg, _⟩
  · simp [Value.ownBlock]
  · intro e0
    simp [Value.ownBlock] at e0
    subst e0
    rw [hb] at hg
    simp at hg

end Go.Proofs.Qxb6600329a.Tab
