/- The input, opened: a slice of strings and a slice of elements, as they lie in memory. -/
import Derived.Test.Qxb6628903aTooBig
import Derived.SizedLaws
import Derived.SliceStrings
import Derived.ChangeSlices
import Derived.Deep.Fields
import Derived.Deep.Slices
namespace Go.Proofs.Qxb6628903a
open Go.RowKit Go.ChangeShapes Go.Deep
set_option linter.unusedSectionVars false

section
variable {H : Type} {enc : TypeId × Value → H} {w : World} {base : Nat} {spare : Nat → Bool} {held : Bool}

/-- nothing in it is too large -/
def Light (d : DataW H) (t : TypeId) : Prop := ∀ k ∈ d.weights Try.prog t, k ≤ 140737488351232

theorem weights_mem_all {P : Program} {e : TypeId} : ∀ {ds : List (DataW H)} {d : DataW H}, d ∈ ds → ∀ n ∈ d.weights P e, n ∈ DataW.weightsAll P e ds
  | d0 :: ds, d, hd, n, hn => by
    simp only [DataW.weightsAll, List.mem_append]
    rcases List.mem_cons.1 hd with h | h
    · subst h; exact .inl hn
    · exact .inr (weights_mem_all h n hn)
  | [], _, hd, _, _ => by cases hd

theorem add_none {b o i : Nat} : (⟨b, o, none⟩ : Addr).add i = ⟨b, o + i, none⟩ := by unfold Addr.add; split <;> simp_all

theorem plain_addr {a : Addr} {v : Value} (h : w.cell? (a.add 0) = some v) : a = ⟨a.block, a.off, none⟩ := by
  obtain ⟨b, o, spot⟩ := a
  have : spot = none := by
    have h1 := World.cell?_spot h
    cases spot with
    | none => rfl
    | some x => simp [Addr.add] at h1
  subst this
  rfl

theorem cells5 : Try.prog.cellsOf 5 = 1 := by kernel_rfl
theorem cells9 : Try.prog.cellsOf 9 = 1 := by kernel_rfl
theorem cells41 : Try.prog.cellsOf 41 = 5 := by kernel_rfl
theorem bytes5 : Try.prog.bytesOf 5 = 1 := by kernel_rfl
theorem bytes9 : Try.prog.bytesOf 9 = 16 := by kernel_rfl
theorem bytes41 : Try.prog.bytesOf 41 = 80 := by kernel_rfl

theorem open_str {n : Nat} {v : Value} {y : DataW H × List MemPlace} (t : DataW.trod enc Try.prog w base spare held n 9 [v] = some y) (hl : Light y.1 9) : ∃ s, v = .string s ∧ s.size ≤ 140737488351232 := by
  obtain ⟨s, hs, rfl, _⟩ := DataW.trod_string Try.underlying9 t
  refine ⟨s, by simpa using hs, ?_⟩
  have := hl s.data.toList.length (by simp [DataW.weights])
  simpa using this

theorem open_by {n : Nat} {v : Value} {y : DataW H × List MemPlace} (t : DataW.trod enc Try.prog w base spare held n 35 [v] = some y) (hl : Light y.1 35) :
    ∃ a l c nil bs, v = .slice a l c ∧ Bytes w a l nil bs ∧ (a = none → c = 0) ∧ bs.length ≤ 140737488351232 := by
  rcases open_ints Try.underlying35 Try.underlying5 cells5 t with ⟨hcs, _⟩ | ⟨x, l, c, zs, hcs, _, hlc, hm, hz, hx, hcell, _⟩
  · exact ⟨none, 0, 0, true, [], by simpa using hcs, ⟨rfl, rfl, fun h => absurd rfl h⟩, fun _ => rfl, Nat.zero_le _⟩
  · have hlz : l ≤ zs.length := by rw [hz]; split <;> omega
    have hbl : (zs.take l).length = l := by rw [List.length_take]; omega
    refine ⟨some x, l, c, false, zs.take l, by simpa using hcs, ⟨rfl, hbl, fun hne => ?_⟩, (fun h => by cases h), ?_⟩
    · have hpos : 0 < l := by
        rcases Nat.eq_zero_or_pos l with e | e
        · subst e; simp at hne
        · exact e
      have hp := plain_addr (hcell 0 (by omega))
      refine ⟨x.block, x.off, by rw [← hp], fun i hi => ?_⟩
      rw [hbl] at hi
      have := hcell i (by omega)
      rw [hp, add_none] at this
      rw [this]
      simp [List.getD, hi]
    · rw [hx] at hl
      have := hl ((lits .u8 (zs.take l) (H := H)).length + (lits .u8 (zs.drop l) (H := H)).length) (by simp [DataW.weights, Try.underlying35, bytes5])
      have h2 : (lits .u8 (zs.take l) (H := H)).length = l := by simp [lits]; omega
      omega

theorem light_ptr {d : DataW H} (h : Light (.ptr d) 39) : Light d 41 := fun k hk => h k (by simpa [DataW.weights, Try.underlying39] using hk)

theorem light_agg {ds : List (DataW H)} (h : Light (.agg ds) 41) {j : Nat} {t : TypeId} {d : DataW H} (ht : ([9, 9, 9, 35, 39] : List TypeId)[j]? = some t) (hd : ds[j]? = some d) : Light d t := fun k hk => by
  refine h k ?_
  have := DataW.weights_mem_each ht hd k hk
  simpa [DataW.weights, Try.underlying41] using this

theorem open_flat {n b o : Nat} {v0 v1 v2 v3 : Value} {y0 y1 y2 y3 : DataW H × List MemPlace} (c0 : w.cell? ⟨b, o, none⟩ = some v0) (c1 : w.cell? ⟨b, o + 1, none⟩ = some v1) (c2 : w.cell? ⟨b, o + 2, none⟩ = some v2) (c3 : w.cell? ⟨b, o + 3, none⟩ = some v3)
    (t0 : DataW.trod enc Try.prog w base spare held n 9 [v0] = some y0) (t1 : DataW.trod enc Try.prog w base spare held n 9 [v1] = some y1) (t2 : DataW.trod enc Try.prog w base spare held n 9 [v2] = some y2) (t3 : DataW.trod enc Try.prog w base spare held n 35 [v3] = some y3)
    (l0 : Light y0.1 9) (l1 : Light y1.1 9) (l2 : Light y2.1 9) (l3 : Light y3.1 35) : ∃ f, FlatAt w b o f ∧ ReachF f := by
  obtain ⟨s0, rfl, h0⟩ := open_str t0 l0
  obtain ⟨s1, rfl, h1⟩ := open_str t1 l1
  obtain ⟨s2, rfl, h2⟩ := open_str t2 l2
  obtain ⟨a, l, c, nil, bs, rfl, hB, hc, h3⟩ := open_by t3 l3
  exact ⟨⟨s0, s1, s2, nil, bs⟩, ⟨c0, c1, c2, a, l, c, c3, hB, hc⟩, h0, h1, h2, h3⟩

theorem open_sig {n : Nat} {v : Value} {y : DataW H × List MemPlace} (t : DataW.trod enc Try.prog w base spare held n 39 [v] = some y) (hl : Light y.1 39) :
    ∃ p sig, v = .pointer p ∧ SigIs w (fun _ => True) p sig ∧ ∀ g, sig = some g → ReachF g := by
  rcases open_ptr_fields Try.underlying39 Try.underlying41 (hone_of (by kernel_rfl)) cells41 (by simp) t with ⟨hcs, _⟩ | ⟨b, o, m, V, Y, hcs, _, rfl, hf⟩
  · exact ⟨none, none, by simpa using hcs, rfl, fun g hg => by cases hg⟩
  · have hL := light_ptr hl
    obtain ⟨c0, t0⟩ := hf 0 _ rfl
    obtain ⟨c1, t1⟩ := hf 1 _ rfl
    obtain ⟨c2, t2⟩ := hf 2 _ rfl
    obtain ⟨c3, t3⟩ := hf 3 _ rfl
    obtain ⟨c4, t4⟩ := hf 4 _ rfl
    obtain ⟨f, hF, hR⟩ := open_flat c0 c1 c2 c3 t0 t1 t2 t3 (light_agg hL (j := 0) rfl rfl) (light_agg hL (j := 1) rfl rfl) (light_agg hL (j := 2) rfl rfl) (light_agg hL (j := 3) rfl rfl)
    have h4 : ∃ r, V 4 = .pointer r := by
      rcases DataW.trod_pointer Try.underlying39 t4 with ⟨h, _⟩ | ⟨a, cs, y, m, _, h, _⟩
      · exact ⟨none, by simpa using h⟩
      · exact ⟨some a, by simpa using h⟩
    obtain ⟨r, hr⟩ := h4
    exact ⟨some ⟨b, o, none⟩, some f, by simpa using hcs, ⟨b, o, rfl, hF, r, trivial, by rw [← hr]; exact c4⟩, fun g hg => by cases hg; exact hR⟩

theorem open_elem {n : Nat} {a : Addr} {cs : List Value} {y : DataW H × List MemPlace} (hc : w.cells? base a 5 = some cs) (t : DataW.trod enc Try.prog w base spare held n 41 cs = some y) (hl : Light y.1 41) :
    a = ⟨a.block, a.off, none⟩ ∧ ∃ e, ElAt w (fun _ => True) a.block a.off e ∧ ReachF e.f ∧ ∀ g, e.sig = some g → ReachF g := by
  obtain ⟨_, hlen, hcell⟩ := World.cells?_some hc
  obtain ⟨xs, m, _, rfl, _, hxl, hf⟩ := DataW.trod_struct Try.underlying41 t
  have hx5 : xs.length = 5 := hxl
  obtain ⟨v0, v1, v2, v3, v4, rfl⟩ : ∃ v0 v1 v2 v3 v4, cs = [v0, v1, v2, v3, v4] := by
    match cs, hlen with
    | [v0, v1, v2, v3, v4], _ => exact ⟨v0, v1, v2, v3, v4, rfl⟩
  obtain ⟨y0, y1, y2, y3, y4, rfl⟩ : ∃ y0 y1 y2 y3 y4, xs = [y0, y1, y2, y3, y4] := by
    match xs, hx5 with
    | [v0, v1, v2, v3, v4], _ => exact ⟨v0, v1, v2, v3, v4, rfl⟩
  have hp : a = ⟨a.block, a.off, none⟩ := plain_addr (hcell 0 (by omega))
  refine ⟨hp, ?_⟩
  have c : ∀ i, i < 5 → w.cell? ⟨a.block, a.off + i, none⟩ = [v0, v1, v2, v3, v4][i]? := fun i hi => by
    have := hcell i hi
    rw [hp, add_none] at this
    exact this
  obtain ⟨p, sig, rfl, hS, hR2⟩ := open_sig (show DataW.trod enc Try.prog w base spare held m 39 [v4] = some y4 from hf 4 _ rfl) (light_agg hl (j := 4) rfl rfl)
  obtain ⟨f, hF, hR⟩ := open_flat (c 0 (by omega)) (c 1 (by omega)) (c 2 (by omega)) (c 3 (by omega)) (show DataW.trod enc Try.prog w base spare held m 9 [v0] = some y0 from hf 0 _ rfl) (show DataW.trod enc Try.prog w base spare held m 9 [v1] = some y1 from hf 1 _ rfl) (show DataW.trod enc Try.prog w base spare held m 9 [v2] = some y2 from hf 2 _ rfl) (show DataW.trod enc Try.prog w base spare held m 35 [v3] = some y3 from hf 3 _ rfl)
    (light_agg hl (j := 0) rfl rfl) (light_agg hl (j := 1) rfl rfl) (light_agg hl (j := 2) rfl rfl) (light_agg hl (j := 3) rfl rfl)
  exact ⟨⟨f, sig⟩, ⟨hF, p, c 4 (by omega), hS⟩, hR, hR2⟩

theorem open_els {n : Nat} {v : Value} {y : DataW H × List MemPlace} (t : DataW.trod enc Try.prog w base spare held n 23 [v] = some y) (hl : Light y.1 23) :
    ∃ a c ne es, v = .slice a es.length c ∧ Els w (fun _ => True) a es.length ne es ∧ es.length ≤ 140737488351232 ∧ ∀ i (h : i < es.length), ReachF (es[i]'h).f ∧ ∀ g, (es[i]'h).sig = some g → ReachF g := by
  rcases Go.Deep.open_slice Try.underlying23 t with ⟨hcs, _⟩ | ⟨a, len, cap, m, k, D, Pl, hcs, _, hlc, hm, hmm, rfl, hx⟩
  · exact ⟨none, 0, true, [], by simpa using hcs, ⟨rfl, rfl, fun h => absurd rfl h⟩, Nat.zero_le _, fun i h => absurd h (Nat.not_lt_zero i)⟩
  · have hlm : len ≤ m := by rw [hmm]; split <;> omega
    have hD : ∀ i, i < len → Light (D i) 41 := fun i hi k hk => by
      refine hl k ?_
      simp only [DataW.weights, Try.underlying23]
      exact List.mem_cons_of_mem _ (List.mem_append_left _ (weights_mem_all (List.mem_map.2 ⟨i, List.mem_range.2 hi, rfl⟩) k hk))
    have hlen : len ≤ 140737488351232 := by
      have := hl _ (by simp only [DataW.weights, Try.underlying23]; exact List.mem_cons_self)
      rw [bytes41] at this
      simp at this
      omega
    have hin : Inhabited El := ⟨⟨⟨ByteArray.empty, ByteArray.empty, ByteArray.empty, true, []⟩, none⟩⟩
    obtain ⟨E, hE⟩ := Go.Deep.choose_lt (α := El) (n := len) (p := fun i e => a.add (i * 5) = ⟨(a.add (i * 5)).block, (a.add (i * 5)).off, none⟩ ∧ ElAt w (fun _ => True) (a.add (i * 5)).block (a.add (i * 5)).off e ∧ ReachF e.f ∧ ∀ g, e.sig = some g → ReachF g) (fun i hi => by
      obtain ⟨cs', h1, h2⟩ := hx i (by omega)
      rw [cells41] at h1
      obtain ⟨hp, e, h3⟩ := open_elem h1 h2 (hD i hi)
      exact ⟨e, hp, h3⟩)
    have hL : ((List.range len).map E).length = len := by simp
    refine ⟨some a, cap, false, (List.range len).map E, by rw [hL]; simpa using hcs, ⟨rfl, rfl, fun hne => ?_⟩, by rw [hL]; exact hlen, fun i hi => ?_⟩
    · have hpos : 0 < len := by
        rcases Nat.eq_zero_or_pos len with e | e
        · subst e; simp at hne
        · exact e
      obtain ⟨h0, _⟩ := hE 0 hpos
      have ha : a = ⟨a.block, a.off, none⟩ := by
        have : a.add (0 * 5) = a := by simp [Addr.add]
        rw [this] at h0
        exact h0
      refine ⟨a.block, a.off, by rw [← ha], fun i hi => ?_⟩
      rw [hL] at hi
      obtain ⟨_, h1, _⟩ := hE i hi
      rw [ha, add_none] at h1
      simpa using h1
    · rw [hL] at hi
      obtain ⟨_, _, h1, h2⟩ := hE i hi
      simpa using ⟨h1, h2⟩

theorem open_strs {n : Nat} {v : Value} {y : DataW H × List MemPlace} (t : DataW.trod enc Try.prog w base spare held n 22 [v] = some y) (hl : Light y.1 22) :
    ∃ a c nn ss, v = .slice a ss.length c ∧ Strs w a ss.length nn ss ∧ ss.length ≤ 140737488351232 ∧ ∀ i, (ss.getD i ByteArray.empty).size ≤ 140737488351232 := by
  rcases open_strings Try.underlying22 Try.underlying9 cells9 t with ⟨hcs, _⟩ | ⟨x, l, c, zs, hcs, _, hlc, hm, hz, rfl, hcell, _⟩
  · exact ⟨none, 0, true, [], by simpa using hcs, ⟨rfl, rfl, fun h => absurd rfl h⟩, Nat.zero_le _, fun i => by simp⟩
  · have hlz : l ≤ zs.length := by rw [hz]; split <;> omega
    have hbl : (zs.take l).length = l := by rw [List.length_take]; omega
    have hS : ∀ s ∈ zs.take l, s.size ≤ 140737488351232 := fun s hs => by
      have := hl s.data.toList.length (by
        simp only [DataW.weights, Try.underlying22]
        exact List.mem_cons_of_mem _ (List.mem_append_left _ (weights_mem_all (d := .lit (.string s.data.toList)) (List.mem_map.2 ⟨s, hs, rfl⟩) _ (by simp [DataW.weights]))))
      simpa using this
    refine ⟨some x, c, false, zs.take l, by rw [hbl]; simpa using hcs, ⟨rfl, rfl, fun hne => ?_⟩, ?_, fun i => ?_⟩
    · have hpos : 0 < l := by
        rcases Nat.eq_zero_or_pos l with e | e
        · subst e; simp at hne
        · exact e
      have hp := plain_addr (hcell 0 (by omega))
      refine ⟨x.block, x.off, by rw [← hp], fun i hi => ?_⟩
      rw [hbl] at hi
      have := hcell i (by omega)
      rw [hp, add_none] at this
      rw [this]
      simp [List.getD, hi]
    · have := hl _ (by simp only [DataW.weights, Try.underlying22]; exact List.mem_cons_self)
      rw [bytes9] at this
      rw [hbl]
      simp [strs] at this
      omega
    · by_cases hi : i < (zs.take l).length
      · have := hS ((zs.take l)[i]) (List.getElem_mem hi)
        simpa [List.getD, List.getElem?_eq_getElem hi] using this
      · simp [List.getD, List.getElem?_eq_none (Nat.le_of_not_lt hi)]

end
end Go.Proofs.Qxb6628903a
