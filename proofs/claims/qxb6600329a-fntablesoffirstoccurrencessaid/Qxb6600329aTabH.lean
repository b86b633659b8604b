import Derived.Test.Qxb6600329aTabG
namespace Go.Proofs.Qxb6600329a.Tab
open Go.RowKit Go.ChangeShapes Go.WideShapes Go.ChangeAt Go.Maps

/-- What holds of the world in tablesOf's rounds: the slice v holds acc, the map in block b the same numbers; nothing old has turned. -/
structure Inv (w wr : World) (v : Value) (acc : List Int) : Prop where
  own : OwnU w.heap.size wr v acc
  seen : ∃ D : DataW Unit, wr.ownsMap Try.prog 33 (plainElem Try.prog 4) w.heap.size acc.length D ∧ SeenIs D acc
  below : Below w.heap.size w wr

theorem Inv.start (w : World) : Inv w (w.alloc (.map #[] 0)) (.slice none 0 0) [] :=
  ⟨World.ownsRow_nil _ _ _ _, ⟨.map [], World.ownsMap_made _ _ _ _, fun x _ => by simp [DataW.atKey]⟩, (Below.refl _ _).alloc (Nat.le_refl _) _⟩

theorem Inv.newer {w wr wr' : World} {v : Value} {acc : List Int} (h : Inv w wr v acc) (hn : Below wr.heap.size wr wr') : Inv w wr' v acc := by
  obtain ⟨D, hD, hS⟩ := h.seen
  refine ⟨h.own.later hn, ⟨D, hD.kept (row := none) ⟨hn.os, hn.tape, hn.output, hn.size, fun k hk _ => hn.block k hk⟩ (by simp), hS⟩, h.below.trans (hn.mono h.below.size)⟩

theorem Kept.later {w w' : World} {r : R} {p : Option Addr} (h : Kept w r p) (hb : Below w.heap.size w w') : Kept w' r p := by
  rcases h with h | ⟨h, kb, e, c0, c1⟩
  · exact .inl h
  · exact .inr ⟨h, kb, e, (hb.cell (cell_lt c0)).trans c0, (hb.cell (cell_lt c1)).trans c1⟩

theorem tb_calls' (r : R) (p : Option Addr) (w : World) (h : Kept w r p) :
    Calls Try.prog 32 #[.agg #[.string ⟨#[99]⟩, .string ByteArray.empty, .int .u32 r.id, .string r.rel, .slice none 0 0, .string ByteArray.empty, .string ByteArray.empty, .pointer p, .string ByteArray.empty, .string ByteArray.empty]] w fun e w' => ∃ a' cap', e = .returned (.slice a' (tabs r).length cap') ∧ OwnT w.heap.size w' (.slice a' (tabs r).length cap') (tabs r) ∧ Below w.heap.size w w' := by
  refine (tb_calls r p w h).mono ?_
  rintro e w' ⟨v', rfl, hown, hbel⟩
  have h' := hown
  rcases h'.2 with ⟨rfl, h0⟩ | ⟨g, cap, cur, rfl, _⟩
  · exact ⟨none, 0, by rw [h0], by rw [h0]; exact hown, hbel⟩
  · exact ⟨_, cap, rfl, hown, hbel⟩

theorem OwnT.at {B : Nat} {w : World} {a : Option Addr} {n cap : Nat} {ts : List (Int × ByteArray)} (h : OwnT B w (.slice a n cap) ts) {j : Nat} (hj : j < ts.length) :
    ∃ g x s, a = some ⟨g, 0, none⟩ ∧ ts[j]? = some (x, s) ∧ w.cell? ⟨g, j * 2, none⟩ = some (.int .u32 x) ∧ w.cell? ⟨g, j * 2 + 1, none⟩ = some (.string s) ∧ g < w.heap.size := by
  have h' := h
  have hn : n = ts.length := by
    rcases h.2 with ⟨e, h0⟩ | ⟨g, cap', cur, e, _⟩
    · omega
    · simp at e; exact e.2.1
  obtain ⟨g, cap', e, _, hlt⟩ := World.ownsRow.form h (by omega)
  simp at e
  obtain ⟨rfl, _, _⟩ := e
  have hr : ts[j]? = some ts[j] := List.getElem?_eq_getElem hj
  refine ⟨g, ts[j].1, ts[j].2, rfl, hr, ?_, ?_, hlt⟩
  · have := World.ownsRow.cells h' (g := g) rfl (j * 2 + 0) (.int .u32 ts[j].1) (by rw [flat_get (n := 2) (fun x => rfl) ts j _ 0 hr (by omega)]; rfl)
    rwa [Addr.add_lit, Nat.zero_add] at this
  · have := World.ownsRow.cells h' (g := g) rfl (j * 2 + 1) (.string ts[j].2) (by rw [flat_get (n := 2) (fun x => rfl) ts j _ 1 hr (by omega)]; rfl)
    rwa [Addr.add_lit, Nat.zero_add] at this

theorem wf_tabs {r : R} (h : WfR r) : ∀ t ∈ tabs r, (Lit.int .u32 t.1).wf = true := by
  intro t ht
  unfold tabs at ht
  rcases List.mem_append.1 ht with ht | ht
  · split at ht
    · cases ht
    · rw [List.mem_singleton.1 ht]; exact h.1
  · split at ht
    · rw [List.mem_singleton.1 ht]; exact h.2
    · cases ht

theorem take_fst {ts : List (Int × ByteArray)} {j : Nat} {x : Int} {s : ByteArray} (h : ts[j]? = some (x, s)) : (ts.take (j + 1)).map (·.1) = (ts.take j).map (·.1) ++ [x] := by
  obtain ⟨hk, e⟩ := List.getElem?_eq_some_iff.1 h
  rw [List.take_succ_eq_append_getElem hk, e, List.map_append]
  rfl

theorem length_tabs (r : R) : (tabs r).length ≤ 2 := by
  unfold tabs
  split <;> split <;> simp

theorem OwnT.kept {B : Nat} {w w' : World} {v : Value} {ts : List (Int × ByteArray)} {row : Option Nat} (h : OwnT B w v ts) (hg : w.grownBy w' row) (hne : v.ownBlock = none ∨ v.ownBlock ≠ row) : OwnT B w' v ts :=
  World.ownsRow.kept h hg hne

/-- What one new number does: the store into the map, then the append. -/
theorem Inv.put {w wr w1 w2 : World} {v v' : Value} {acc : List Int} {x : Int} {D : DataW Unit} {o o2 : Obj} (h : Inv w wr v acc) (hD : wr.ownsMap Try.prog 33 (plainElem Try.prog 4) w.heap.size acc.length D) (hS : SeenIs D acc)
    (h1 : w1.ownsMap Try.prog 33 (plainElem Try.prog 4) w.heap.size (acc.length + 1) (D.put (.int .u32 x) (.lit (.bool true)))) (hg1 : (wr.alloc o).grownBy w1 (some w.heap.size))
    (h2 : OwnU w.heap.size w2 v' (acc ++ [x])) (hg2 : (w1.alloc o2).grownBy w2 v.ownBlock) : Inv w w2 v' (acc ++ [x]) := by
  have hv1 : w1.ownsRow w.heap.size 33 1 v acc.length (acc.map (Value.int .u32)) := World.ownsRow.kept (World.ownsRow.alloc h.own o) hg1 (.inr (fun e => map_apart hD h.own e.symm))
  have hs1 : w.heap.size ≤ w1.heap.size := Nat.le_trans h.below.size (Nat.le_trans (by simp) hg1.size)
  refine ⟨h2, ⟨_, ?_, seen_put hS hD.isMap⟩, ?_⟩
  · rw [show (acc ++ [x]).length = acc.length + 1 by simp]
    exact (h1.alloc o2).kept hg2 (map_apart h1 hv1)
  · exact (((h.below.alloc h.below.size o).grown hg1 (by have := h.below.size; simp; omega) (fun k hk => by cases hk; exact Nat.le_refl _)).alloc hs1 o2).grown hg2 (by simp; omega) (fun k hk => (hv1.lt k hk).1)

set_option maxHeartbeats 2000000 in
theorem to_calls {g len B : Nat} {items : List (R × Option Addr)} {w : World} (hown : w.ownsRow B 51 10 (.slice (some ⟨g, 0, none⟩) len len) len (items.flatMap rc)) (hk : ∀ it ∈ items, Kept w it.1 it.2)
    (hwf : ∀ it ∈ items, WfR it.1) (hlen : len ≤ 4096) :
    Calls Try.prog 28 #[.slice (some ⟨g, 0, none⟩) len len] w fun e w' => ∃ v', e = .returned v' ∧ OwnU w.heap.size w' v' (dedup (cands (items.map (·.1)))) ∧ Below w.heap.size w w' := by
  obtain ⟨i0, hi, hz0, hz1, hz2⟩ := info_parts info33
  have hmm := @run_makeMap Try.prog
  have hil : items.length = len := by
    have h1 := hown.1
    rw [flat_len (f := rc) (n := 10) (fun _ => rfl)] at h1
    omega
  have HIL : Hid (items.length = len) := hil
  have HOWN : Hid (w.ownsRow B 51 10 (.slice (some ⟨g, 0, none⟩) len len) len (items.flatMap rc)) := hown
  have HK : Hid (∀ it ∈ items, Kept w it.1 it.2) := hk
  have HWF : Hid (∀ it ∈ items, WfR it.1) := hwf
  have hgw : g < w.heap.size := (hown.lt g rfl).2
  clear hil hown hk hwf
  go_enter Try.func28, Try.ntmps28
  go_wp2
  clear hmm
  go_loopw [3, 12] (fun a i wr => ∃ (k : Nat) (v : Value), k ≤ len ∧ v = a ∧ i = .int .i64 k ∧ Inv w wr v (dedup (cands ((items.map (·.1)).take k)))) (fun _ i _ => len - (intOf i).toNat)
  case atStart => exact ⟨0, _, Nat.zero_le _, rfl, rfl, Inv.start w⟩
  case round =>
    obtain ⟨k, v, hk, rfl, rfl, hinv⟩ := hrel
    by_cases hlt : k < len
    · obtain ⟨it, hit⟩ : ∃ it, items[k]? = some it := ⟨_, List.getElem?_eq_getElem (by rw [HIL.out]; exact hlt)⟩
      have hcs := rec_cells HOWN.out hit
      have hcw : ∀ j u, j < 10 → (rc it)[j]? = some u → wr.cell? ⟨g, k * 10 + j, none⟩ = some u := fun j u hj hu => (hinv.below.cell (by exact hgw)).trans (hcs j u hj hu)
      obtain ⟨⟨id, rel, has, iid, irel⟩, p⟩ := it
      have d0 : wr.cell? ⟨g, k * 10, none⟩ = some (.string ⟨#[99]⟩) := hcw 0 _ (by omega) rfl
      have d1 : wr.cell? ⟨g, k * 10 + 1, none⟩ = some (.string ByteArray.empty) := hcw 1 _ (by omega) rfl
      have d2 : wr.cell? ⟨g, k * 10 + 2, none⟩ = some (.int .u32 id) := hcw 2 _ (by omega) rfl
      have d3 : wr.cell? ⟨g, k * 10 + 3, none⟩ = some (.string rel) := hcw 3 _ (by omega) rfl
      have d4 : wr.cell? ⟨g, k * 10 + 4, none⟩ = some (.slice none 0 0) := hcw 4 _ (by omega) rfl
      have d5 : wr.cell? ⟨g, k * 10 + 5, none⟩ = some (.string ByteArray.empty) := hcw 5 _ (by omega) rfl
      have d6 : wr.cell? ⟨g, k * 10 + 6, none⟩ = some (.string ByteArray.empty) := hcw 6 _ (by omega) rfl
      have d7 : wr.cell? ⟨g, k * 10 + 7, none⟩ = some (.pointer p) := hcw 7 _ (by omega) rfl
      have d8 : wr.cell? ⟨g, k * 10 + 8, none⟩ = some (.string ByteArray.empty) := hcw 8 _ (by omega) rfl
      have d9 : wr.cell? ⟨g, k * 10 + 9, none⟩ = some (.string ByteArray.empty) := hcw 9 _ (by omega) rfl
      have hkp : Kept wr ⟨id, rel, has, iid, irel⟩ p := (HK.out _ (List.mem_of_getElem? hit)).later hinv.below
      have HTW : Hid (∀ t ∈ tabs ⟨id, rel, has, iid, irel⟩, (Lit.int .u32 t.1).wf = true) := wf_tabs (HWF.out _ (List.mem_of_getElem? hit))
      have HSTEP : Hid (cands ((items.map (·.1)).take (k + 1)) = cands ((items.map (·.1)).take k) ++ (tabs ⟨id, rel, has, iid, irel⟩).map (·.1)) := by
        rw [← cand1_tabs]
        exact cands_snoc (by rw [List.getElem?_map, hit]; rfl)
      obtain ⟨L, hL⟩ : ∃ L, L = cands ((items.map (·.1)).take k) := ⟨_, rfl⟩
      rw [← hL] at HSTEP hinv
      have hll : L.length ≤ 8192 := by
        rw [hL]
        have := length_cands ((items.map (·.1)).take k)
        have h2 : ((items.map (·.1)).take k).length ≤ k := List.length_take_le _ _
        omega
      clear hcs hcw hit hL
      go_wp2_with fail
      refine (tb_calls' ⟨id, rel, has, iid, irel⟩ p _ (hkp.later ((Below.refl _ _).alloc (Nat.le_refl _) _))).mono ?_
      rintro e w5 ⟨a5, cap5, rfl, hown5, hbel5⟩
      have hinv5 : Inv w w5 v (dedup L) := hinv.newer (((Below.refl _ _).alloc (Nat.le_refl _) _).trans (hbel5.mono (by simp)))
      obtain ⟨ts, hts⟩ : ∃ ts, ts = tabs ⟨id, rel, has, iid, irel⟩ := ⟨_, rfl⟩
      have htl : ts.length ≤ 2 := by rw [hts]; exact length_tabs _
      rw [← hts] at hown5 HTW HSTEP
      rw [← hts]
      clear hinv hbel5 hkp d0 d1 d2 d3 d4 d5 d6 d7 d8 d9 hts
      go_wp2
      obtain ⟨wo, hwo⟩ : ∃ wo : World, wo = wr := ⟨_, rfl⟩
      obtain ⟨B5, hB5⟩ : ∃ B5, B5 = (wr.alloc (.cells #[.string ⟨#[99]⟩, .string ByteArray.empty, .int .u32 id, .string rel, .slice none 0 0, .string ByteArray.empty, .string ByteArray.empty, .pointer p, .string ByteArray.empty, .string ByteArray.empty] 51)).heap.size := ⟨_, rfl⟩
      rw [← hB5] at hown5
      clear hB5
      subst hwo
      go_loopw [3, 19] (fun a i wr => ∃ (j : Nat) (v : Value), j ≤ ts.length ∧ v = a ∧ i = .int .i64 j ∧ Inv w wr v (dedup (L ++ (ts.take j).map (·.1))) ∧ OwnT B5 wr (.slice a5 ts.length cap5) ts) (fun _ i _ => ts.length - (intOf i).toNat)
      case atStart => exact ⟨0, _, Nat.zero_le _, rfl, rfl, by simpa using hinv5, hown5⟩
      case round =>
        clear hinv5 hown5
        obtain ⟨j, v5, hj, rfl, rfl, hinv, hT⟩ := hrel
        by_cases hjt : j < ts.length
        · obtain ⟨gt, x, s, rfl, htj, e0, e1, hgt⟩ := hT.at hjt
          have hwx : (Lit.int .u32 x).wf = true := HTW.out (x, s) (List.mem_of_getElem? htj)
          have HTJ : Hid ((ts.take (j + 1)).map (·.1) = (ts.take j).map (·.1) ++ [x]) := take_fst htj
          obtain ⟨M, hM⟩ : ∃ M, M = L ++ (ts.take j).map (·.1) := ⟨_, rfl⟩
          have hml : M.length ≤ 8194 := by rw [hM]; simp; omega
          rw [← hM] at hinv
          have HN : Hid (L ++ (ts.take (j + 1)).map (·.1) = M ++ [x]) := by
            show _ = _
            rw [HTJ.out, hM]; simp
          have hdl : (dedup M).length ≤ 8194 := Nat.le_trans (length_dedup M) hml
          obtain ⟨D, hD, hS⟩ := hinv.seen
          have HAT := hS x hwx
          clear htj hM HTJ
          by_cases hx : (dedup M).contains x = true
          · rw [hx] at HAT
            have HAT' : Hid _ := HAT
            have HT' : Hid (OwnT B5 wr (.slice (some ⟨gt, 0, none⟩) ts.length cap5) ts) := hT
            have HD : Hid (wr.ownsMap Try.prog 33 (plainElem Try.prog 4) w.heap.size (dedup M).length D) := hD
            have HX : Hid ((dedup M).contains x = true) := hx
            clear HAT hx hT hD
            go_wp2_with (at_lookup; refine wpList_lookup_own_bool _ rfl _ _ 55 rfl 33 4 law33 Try.underlying55 Try.underlying4 (zero4 _) w.heap.size (dedup M).length D rfl (HD.out.alloc _) _ _ rfl (keyOf_int_mk Try.underlying33 hwx) true HAT'.out ?_)
            go_roundw
            case rel =>
              refine ⟨j + 1, v5, by omega, rfl, by go_num, ?_, World.ownsRow.alloc HT'.out _⟩
              rw [HN.out, dedup_old ((mem_dedup M x).1 (by simpa using HX.out))]
              exact hinv.newer ((Below.refl _ _).alloc (Nat.le_refl _) _)
            case measure => simp [intOf]; omega
          · have hx' : (dedup M).contains x = false := by simpa using hx
            rw [hx'] at HAT
            have HAT' : Hid _ := HAT
            have HT' : Hid (OwnT B5 wr (.slice (some ⟨gt, 0, none⟩) ts.length cap5) ts) := hT
            have HD : Hid (wr.ownsMap Try.prog 33 (plainElem Try.prog 4) w.heap.size (dedup M).length D) := hD
            have HX : Hid (x ∉ M) := by
              intro hm
              have := (mem_dedup M x).2 hm
              simp [this] at hx'
            obtain ⟨acc, hacc⟩ : ∃ acc, acc = dedup M := ⟨_, rfl⟩
            have HACC : Hid (dedup (M ++ [x]) = acc ++ [x]) := by rw [hacc]; exact dedup_new HX.out
            rw [← hacc] at HD hinv hdl hS
            clear HAT hx hx' hT hD HX hacc
            go_wp2_with (first | (at_lookup; refine wpList_lookup_own_bool _ rfl _ _ 55 rfl 33 4 law33 Try.underlying55 Try.underlying4 (zero4 _) w.heap.size acc.length D rfl (HD.out.alloc _) _ _ rfl (keyOf_int_mk Try.underlying33 hwx) false HAT'.out ?_) | (at_mapUpdate; refine wpList_mapUpdate_own _ rfl _ _ _ 55 rfl 33 4 law33 Try.underlying55 _ w.heap.size acc.length D rfl (HD.out.alloc _) (by unfold maxLen; omega) _ _ _ rfl rfl (keyOf_int_mk Try.underlying33 hwx) (.lit (.bool true)) [] (plainElem_bool Try.underlying4 true) ?_))
            intro w6 hm6 hg6
            have hb6 : Below wr.heap.size wr wr := Below.refl _ _
            have hbw : w.heap.size < wr.heap.size := HD.out.lt
            have hc6 : w6.cell? ⟨wr.heap.size, 0, none⟩ = some (.int .u32 x) := by
              rw [World.grownBy.cell_far hg6 _ (by simp) (by simp; omega), World.cell?_alloc_at _ _ _ _ rfl]
              rfl
            have hv6 : w6.ownsRow w.heap.size 33 1 v5 acc.length (acc.map (Value.int .u32)) := World.ownsRow.kept (World.ownsRow.alloc hinv.own _) hg6 (.inr (fun e => map_apart HD.out hinv.own e.symm))
            have hT6 : OwnT B5 w6 (.slice (some ⟨gt, 0, none⟩) ts.length cap5) ts := OwnT.kept (World.ownsRow.alloc HT'.out _) hg6 (.inr (fun e => map_apart HD.out HT'.out e.symm))
            have HV6 : Hid (w6.ownsRow w.heap.size 33 1 v5 acc.length (acc.map (Value.int .u32))) := hv6
            have HT6 : Hid (OwnT B5 w6 (.slice (some ⟨gt, 0, none⟩) ts.length cap5) ts) := hT6
            have HM6 : Hid (w6.ownsMap Try.prog 33 (plainElem Try.prog 4) w.heap.size (acc.length + 1) (D.put (.int .u32 x) (.lit (.bool true)))) := hm6
            have hws6 : w.heap.size ≤ w6.heap.size := Nat.le_trans (Nat.le_of_lt hbw) (Nat.le_trans (by simp) hg6.size)
            clear hv6 hT6 hm6 hb6 e0 e1 HT'
            go_wp2_with (at_builtin; refine wpList_append_own _ rfl _ _ 25 rfl w.heap.size 33 i0 (.int .u32 0) 1 4 Try.underlying25 hi hz0 hz1 hz2 rfl (by decide) _ _ _ rfl (World.ownsRow.alloc HV6.out _) ⟨w6.heap.size, 0, none⟩ 1 1 [.int .u32 x] rfl rfl (cell_one_new _ _ _) (ints_oneCell .u32 [x]) (by unfold maxLen; omega) (by omega) (by simp; omega) ?_)
            intro v7 w7 hown7 hg7 _
            have HI7 : Hid (Inv w w7 v7 (acc ++ [x])) := hinv.put HD.out hS HM6.out hg6 (OwnU.snoc hown7) hg7
            have HT7 : Hid (OwnT B5 w7 (.slice (some ⟨gt, 0, none⟩) ts.length cap5) ts) := OwnT.kept (World.ownsRow.alloc HT6.out _) hg7 (rows_apart HT6.out HV6.out (by decide))
            clear hown7 hg7 hg6 hinv HD HM6 HT6 HV6 hc6
            go_wp2
            go_roundw
            case rel => exact ⟨j + 1, v7, by omega, rfl, by go_num, by rw [HN.out, HACC.out]; exact HI7.out, HT7.out⟩
            case measure => simp [intOf]; omega
        · obtain rfl : j = ts.length := by omega
          have HI : Hid (Inv w wr v5 (dedup (cands ((items.map (·.1)).take (k + 1))))) := by
            rw [HSTEP.out]
            have h := hinv
            rw [List.take_of_length_le (Nat.le_refl _)] at h
            exact h
          clear hinv hT
          go_wp2
          go_roundw
          case rel => exact ⟨k + 1, v5, by omega, rfl, by go_num, HI.out⟩
          case measure => simp [intOf]; omega
    · have HI : Hid (Inv w wr v (dedup (cands (items.map (·.1))))) := by
        have h := hinv
        rw [List.take_of_length_le (by rw [List.length_map, HIL.out]; omega)] at h
        exact h
      clear hinv
      go_wp2
      go_ret
      exact ⟨v, rfl, HI.out.own, HI.out.below⟩

end Go.Proofs.Qxb6600329a.Tab
