/- The copy's elements, as their contents are appended to one by one. -/
import Derived.Test.Qxb6628903aCopied
namespace Go.Proofs.Qxb6628903a
open Go.RowKit

/-- a content: as it came (no room behind it), or with one byte more -/
def Cont (w : World) (done : Bool) (z : Int) (f : Flat) (a : Option Addr) (l c : Nat) : Prop :=
  match done with
  | false => l = f.bs.length ∧ c = f.bs.length ∧ Bytes w a l f.nil f.bs
  | true => l = f.bs.length + 1 ∧ Bytes w a l false (f.bs ++ [z])

def SigG (w : World) (E : Nat) (done : Bool) (p : Option Addr) (sig : Option Flat) : Prop :=
  match sig with
  | none => p = none
  | some g => ∃ sb a l c, p = some ⟨sb, 0, none⟩ ∧ E ≤ sb ∧ VB 37 sb [.string g.s0, .string g.s1, .string g.s2, .slice a l c, .pointer none] w ∧ Cont w done 90 g a l c

structure Grown (w : World) (K q T eb eo E : Nat) (m1 : Value) (es : List El) (ke ks : Nat) (vs : List Value) (ps : Nat → Option Addr) : Prop where
  v : VB T eb vs w
  q1 : w.cell? ⟨q, 1, none⟩ = some m1
  ni : NoInt vs
  rows : ∀ i (h : i < es.length), ∃ a l c, RowAt vs (eo + i * 5) (es[i]'h).f a l c (ps i) ∧ Cont w (decide (i < ke)) 165 (es[i]'h).f a l c ∧ SigG w E (decide (i < ks)) (ps i) (es[i]'h).sig
  inj : Inj ps es.length
  n1 : eb < E
  n4 : q < E
  k1 : K ≤ eb
  m : q ≠ eb ∨ 2 ≤ eo

theorem Copied.grown {w : World} {K q T eb eo V C S E : Nat} {m0 m1 : Value} {es : List El} {cs : List Int} {vs : List Value} {ps : Nat → Option Addr} (h : Copied w K q T eb eo V C S E m0 m1 es es.length cs vs ps) : Grown w K q T eb eo E m1 es 0 0 vs ps :=
  { v := h.v, q1 := h.q1, ni := h.ni, inj := h.inj, n1 := h.n1, n4 := h.n4, k1 := h.k1, m := h.m
    rows := fun i hi => by
      obtain ⟨a, hr, hp, hs⟩ := h.rows i hi hi
      refine ⟨a, _, _, hr, ⟨rfl, rfl, hp.bytes h.b⟩, ?_⟩
      cases hsig : es[i].sig with
      | none => rw [hsig] at hs; exact hs
      | some g =>
        rw [hsig] at hs
        obtain ⟨sb, a2, h1, h2, hv, hp2⟩ := hs
        exact ⟨sb, a2, _, _, h1, h2, hv, rfl, rfl, hp2.bytes h.b⟩ }

section
variable {w w' : World} {K q T eb eo E : Nat} {m1 : Value} {es : List El} {ke ks k : Nat} {vs : List Value} {ps : Nat → Option Addr}

theorem Cont.on {done : Bool} {z : Int} {f : Flat} {a : Option Addr} {l c : Nat} (h : Cont w done z f a l c) (hb : Below w.heap.size w w') : Cont w' done z f a l c := by
  cases done with
  | false => exact ⟨h.1, h.2.1, h.2.2.on hb⟩
  | true => exact ⟨h.1, h.2.on hb⟩

theorem Cont.kind {done : Bool} {z : Int} {f : Flat} {a : Option Addr} {l c : Nat} (h : Cont w done z f a l c) {U : TypeId} {B : Nat} {us : List Value} (hv : VB U B us w) (hk : NoInt us) (j : Nat) (v : Value) : Cont (w.setCell ⟨B, j, none⟩ v) done z f a l c := by
  cases done with
  | false => exact ⟨h.1, h.2.1, h.2.2.kind hv hk j v⟩
  | true => exact ⟨h.1, h.2.kind hv hk j v⟩

theorem SigG.on {done : Bool} {p : Option Addr} {sig : Option Flat} (h : SigG w E done p sig) (hb : Below w.heap.size w w') : SigG w' E done p sig := by
  cases sig with
  | none => exact h
  | some g =>
    obtain ⟨sb, a, l, c, h1, h2, h3, h4⟩ := h
    exact ⟨sb, a, l, c, h1, h2, h3.on hb, h4.on hb⟩

theorem SigG.set {done : Bool} {p : Option Addr} {sig : Option Flat} (h : SigG w E done p sig) {U : TypeId} {B : Nat} {us : List Value} (hv : VB U B us w) (hk : NoInt us) (hne : ∀ sb, p = some ⟨sb, 0, none⟩ → E ≤ sb → sb ≠ B) (j : Nat) (v : Value) : SigG (w.setCell ⟨B, j, none⟩ v) E done p sig := by
  cases sig with
  | none => exact h
  | some g =>
    obtain ⟨sb, a, l, c, h1, h2, h3, h4⟩ := h
    exact ⟨sb, a, l, c, h1, h2, h3.other j v (hne sb h1 h2), h4.kind hv hk j v⟩

theorem RowAt.far {o i : Nat} {x : Value} {f : Flat} {a : Option Addr} {n c : Nat} {p : Option Addr} (h : RowAt vs i f a n c p) (hd : i + 4 < o ∨ o < i) : RowAt (vs.set o x) i f a n c p := by
  obtain ⟨h0, h1, h2, h3, h4⟩ := h
  exact ⟨by rw [List.getElem?_set_ne (by omega)]; exact h0, by rw [List.getElem?_set_ne (by omega)]; exact h1, by rw [List.getElem?_set_ne (by omega)]; exact h2, by rw [List.getElem?_set_ne (by omega)]; exact h3, by rw [List.getElem?_set_ne (by omega)]; exact h4⟩

theorem RowAt.set3 {o : Nat} {f : Flat} {a : Option Addr} {n c : Nat} {p : Option Addr} (h : RowAt vs o f a n c p) (a' : Option Addr) (n' c' : Nat) : RowAt (vs.set (o + 3) (.slice a' n' c')) o f a' n' c' p := by
  obtain ⟨h0, h1, h2, h3, h4⟩ := h
  exact ⟨by rw [List.getElem?_set_ne (by omega)]; exact h0, by rw [List.getElem?_set_ne (by omega)]; exact h1, by rw [List.getElem?_set_ne (by omega)]; exact h2, List.getElem?_set_self (List.getElem?_eq_some_iff.1 h3).1, by rw [List.getElem?_set_ne (by omega)]; exact h4⟩

theorem Grown.on (h : Grown w K q T eb eo E m1 es ke ks vs ps) (hb : Below w.heap.size w w') : Grown w' K q T eb eo E m1 es ke ks vs ps :=
  { h with
    v := h.v.on hb
    q1 := cell_on hb h.q1
    rows := fun i hi => by
      obtain ⟨a, l, c, h1, h2, h3⟩ := h.rows i hi
      exact ⟨a, l, c, h1, h2.on hb, h3.on hb⟩ }

theorem Grown.setEl (h : Grown w K q T eb eo E m1 es k ks vs ps) (hk : k < es.length) {a : Option Addr} {l c : Nat} (hc : Cont w true 165 es[k].f a l c) :
    Grown (w.setCell ⟨eb, eo + k * 5 + 3, none⟩ (.slice a l c)) K q T eb eo E m1 es (k + 1) ks (vs.set (eo + k * 5 + 3) (.slice a l c)) ps :=
  have hm := h.m
  have hn1 := h.n1
  { h with
    v := h.v.put _ _
    q1 := by
      rw [World.cell?_setCell_other _ _ _ _ (fun e => ?_)]
      · exact h.q1
      · obtain ⟨e1, e2, _⟩ := Addr.mk.inj e
        omega
    ni := h.ni.set (by simp)
    rows := fun i hi => by
      obtain ⟨a1, l1, c1, h1, h2, h3⟩ := h.rows i hi
      have h3' := h3.set h.v h.ni (fun sb _ hE e => by omega) (eo + k * 5 + 3) (.slice a l c)
      by_cases e : i = k
      · subst e
        refine ⟨a, l, c, h1.set3 a l c, ?_, h3'⟩
        rw [show decide (i < i + 1) = true from decide_eq_true (by omega)]
        exact hc.kind h.v h.ni _ _
      · refine ⟨a1, l1, c1, h1.far (by omega), ?_, h3'⟩
        rw [show decide (i < k + 1) = decide (i < k) from decide_eq_decide.2 (by omega)]
        exact h2.kind h.v h.ni _ _ }

theorem Grown.setSig (h : Grown w K q T eb eo E m1 es ke k vs ps) (hk : k < es.length) {g : Flat} (hg : es[k].sig = some g) {sb : Nat} (hp : ps k = some ⟨sb, 0, none⟩) {a : Option Addr} {l c : Nat} (hc : Cont w true 90 g a l c) :
    Grown (w.setCell ⟨sb, 3, none⟩ (.slice a l c)) K q T eb eo E m1 es ke (k + 1) vs ps := by
  have hn1 := h.n1
  have hn4 := h.n4
  obtain ⟨a0, l0, c0, _, _, hs⟩ := h.rows k hk
  rw [hg, hp] at hs
  obtain ⟨sb', a1, l1, c1, e1, hE, hv, _⟩ := hs
  obtain rfl : sb = sb' := by cases e1; rfl
  have hni : NoInt [.string g.s0, .string g.s1, .string g.s2, .slice a1 l1 c1, .pointer none] := fun z hz => by simp at hz
  exact
  { h with
    v := h.v.other _ _ (by omega)
    q1 := by
      rw [World.cell?_setCell_other _ _ _ _ (fun e => ?_)]
      · exact h.q1
      · obtain ⟨e1, e2, _⟩ := Addr.mk.inj e
        omega
    rows := fun i hi => by
      obtain ⟨a2, l2, c2, h1, h2, h3⟩ := h.rows i hi
      refine ⟨a2, l2, c2, h1, h2.kind hv hni _ _, ?_⟩
      by_cases e : i = k
      · subst e
        rw [show decide (i < i + 1) = true from decide_eq_true (by omega), hg, hp]
        exact ⟨sb, a, l, c, rfl, hE, hv.put 3 _, hc.kind hv hni _ _⟩
      · rw [show decide (i < k + 1) = decide (i < k) from decide_eq_decide.2 (by omega)]
        refine h3.set hv hni (fun sb2 h4 _ e5 => ?_) _ _
        subst e5
        rcases Nat.lt_or_gt_of_ne e with hlt | hgt
        · exact h.inj i k hlt hk (by rw [hp]; simp) (by rw [hp, h4])
        · exact h.inj k i hgt hi (by rw [h4]; simp) (by rw [hp, h4]) }

theorem Grown.skip (h : Grown w K q T eb eo E m1 es ke k vs ps) (hk : k < es.length) (hg : es[k].sig = none) : Grown w K q T eb eo E m1 es ke (k + 1) vs ps :=
  { h with
    rows := fun i hi => by
      obtain ⟨a2, l2, c2, h1, h2, h3⟩ := h.rows i hi
      refine ⟨a2, l2, c2, h1, h2, ?_⟩
      by_cases e : i = k
      · subst e
        rw [hg] at h3 ⊢
        exact h3
      · rw [show decide (i < k + 1) = decide (i < k) from decide_eq_decide.2 (by omega)]
        exact h3 }

end

/-- what an append that grows gives -/
theorem bytes_grown {w : World} {B n : Nat} {v : Value} {bs : List Int} {z : Int} (hl : bs.length = n) (h : w.ownsRow B 5 1 v (n + 1) (bs.map (Value.int .u8) ++ [.int .u8 z])) :
    ∃ a c, v = .slice a (n + 1) c ∧ Bytes w a (n + 1) false (bs ++ [z]) := by
  rcases h.2 with ⟨_, h0⟩ | ⟨g, cap, cur, hv, _, hh, _, _, _, ht⟩
  · omega
  · refine ⟨some ⟨g, 0, none⟩, cap, hv, rfl, by simp [hl], fun _ => ⟨g, 0, rfl, fun i hi => ?_⟩⟩
    have hi2 : i < n + 1 := by simpa [hl] using hi
    have h1 : (cur.toList.take ((n + 1) * 1))[i]? = ((bs ++ [z]).map (Value.int .u8))[i]? := by rw [ht, List.map_append]; rfl
    rw [List.getElem?_take_of_lt (by omega), List.getElem?_map, List.getElem?_eq_getElem hi] at h1
    rw [Nat.zero_add, cell_of_row w g i cur 5 (0, 0) hh]
    simpa [List.getD, List.getElem?_eq_getElem hi] using h1

end Go.Proofs.Qxb6628903a
