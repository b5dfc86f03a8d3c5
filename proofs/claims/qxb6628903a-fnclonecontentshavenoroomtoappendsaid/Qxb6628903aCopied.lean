/- The elements of Clone's copy, as they are filled one by one. -/
import Derived.Test.Qxb6628903aClos
import Derived.Test.Qxb6628903aSlClone
import Derived.Test.Qxb6628903aMsg
namespace Go.Proofs.Qxb6628903a
open Go.RowKit

/-- a signature in a block of its own -/
def SigBox (w : World) (E C : Nat) (cs : List Int) (p : Option Addr) (sig : Option Flat) : Prop :=
  match sig with
  | none => p = none
  | some g => ∃ sb a, p = some ⟨sb, 0, none⟩ ∧ E ≤ sb ∧ VB 37 sb [.string g.s0, .string g.s1, .string g.s2, .slice a g.bs.length g.bs.length, .pointer none] w ∧ Piece C cs g a

/-- the first k elements of the copy -/
def Rows (w : World) (E C : Nat) (cs : List Int) (vs : List Value) (eo : Nat) (es : List El) (ps : Nat → Option Addr) (k : Nat) : Prop :=
  ∀ i (h : i < es.length), i < k → ∃ a, RowAt vs (eo + i * 5) (es[i]'h).f a (es[i]'h).f.bs.length (es[i]'h).f.bs.length (ps i) ∧ Piece C cs (es[i]'h).f a ∧ SigBox w E C cs (ps i) (es[i]'h).sig

def Inj (ps : Nat → Option Addr) (k : Nat) : Prop := ∀ i j, i < j → j < k → ps j ≠ none → ps i ≠ ps j

/-- the elements of the copy, k of them filled -/
structure Copied (w : World) (K q T eb eo V C S E : Nat) (m0 m1 : Value) (es : List El) (k : Nat) (cs : List Int) (vs : List Value) (ps : Nat → Option Addr) : Prop where
  v : VB T eb vs w
  b : Buf C S cs w
  f : VB 35 V [.slice (some ⟨C, 0, none⟩) cs.length S] w
  q0 : w.cell? ⟨q, 0, none⟩ = some m0
  q1 : w.cell? ⟨q, 1, none⟩ = some m1
  qb : ∃ U us, VB U q us w
  ni : NoInt vs
  len : eo + es.length * 5 ≤ vs.length
  rows : Rows w E C cs vs eo es ps k
  inj : Inj ps k
  n1 : eb < E
  n2 : C < E
  n3 : V < E
  n4 : q < E
  k1 : K ≤ eb
  k2 : K ≤ C
  k3 : K ≤ V
  c1 : eb ≠ C
  c2 : eb ≠ V
  c3 : q ≠ C
  c4 : q ≠ V
  c5 : V ≠ C
  m : q ≠ eb ∨ 2 ≤ eo
  e : E ≤ w.heap.size

section
variable {w : World} {K q T eb eo V C S E : Nat} {m0 m1 : Value} {es : List El} {k : Nat} {cs : List Int} {vs : List Value} {ps : Nat → Option Addr}

theorem SigBox.but {w' : World} {p : Option Addr} {sig : Option Flat} (h : SigBox w E C cs p sig) (hb : But V C w w') (h1 : V < E) (h2 : C < E) (ds : List Int) : SigBox w' E C (cs ++ ds) p sig := by
  cases sig with
  | none => exact h
  | some g =>
    obtain ⟨sb, a, hp, hE, hv, hc⟩ := h
    exact ⟨sb, a, hp, hE, hv.but hb (by omega) (by omega), hc.more ds⟩

theorem SigBox.put {p : Option Addr} {sig : Option Flat} (h : SigBox w E C cs p sig) (h1 : eb < E) (o : Nat) (x : Value) : SigBox (w.setCell ⟨eb, o, none⟩ x) E C cs p sig := by
  cases sig with
  | none => exact h
  | some g =>
    obtain ⟨sb, a, hp, hE, hv, hc⟩ := h
    exact ⟨sb, a, hp, hE, hv.other o x (by omega), hc⟩

theorem Copied.but (h : Copied w K q T eb eo V C S E m0 m1 es k cs vs ps) {w' : World} (hb : But V C w w') (ds : List Int) (hB : Buf C S (cs ++ ds) w') (hV : VB 35 V [.slice (some ⟨C, 0, none⟩) (cs ++ ds).length S] w') :
    Copied w' K q T eb eo V C S E m0 m1 es k (cs ++ ds) vs ps :=
  { h with
    v := h.v.but hb h.c2 h.c1
    b := hB
    f := hV
    q0 := cell_but hb h.q0 h.c4 h.c3
    q1 := cell_but hb h.q1 h.c4 h.c3
    qb := let ⟨U, us, hu⟩ := h.qb; ⟨U, us, hu.but hb h.c4 h.c3⟩
    rows := fun i hi hk => by
      obtain ⟨a, h1, h2, h3⟩ := h.rows i hi hk
      exact ⟨a, h1, h2.more ds, h3.but hb h.n3 h.n2 ds⟩
    e := Nat.le_trans h.e hb.size }

theorem Copied.on (h : Copied w K q T eb eo V C S E m0 m1 es k cs vs ps) {w' : World} (hb : Below w.heap.size w w') : Copied w' K q T eb eo V C S E m0 m1 es k cs vs ps := by
  have := h.but (But.of hb) [] (by rw [List.append_nil]; exact h.b.keep (hb.block _ h.b.lt)) (by rw [List.append_nil]; exact h.f.on hb)
  rw [List.append_nil] at this
  exact this

theorem RowAt.set {vs : List Value} {o i : Nat} {x : Value} {f : Flat} {a : Option Addr} {n c : Nat} {p : Option Addr} (h : RowAt vs i f a n c p) (hd : i + 4 < o) : RowAt (vs.set o x) i f a n c p := by
  obtain ⟨h0, h1, h2, h3, h4⟩ := h
  exact ⟨by rw [List.getElem?_set_ne (by omega)]; exact h0, by rw [List.getElem?_set_ne (by omega)]; exact h1, by rw [List.getElem?_set_ne (by omega)]; exact h2, by rw [List.getElem?_set_ne (by omega)]; exact h3, by rw [List.getElem?_set_ne (by omega)]; exact h4⟩

theorem Copied.put (h : Copied w K q T eb eo V C S E m0 m1 es k cs vs ps) {o : Nat} (ho : eo + k * 5 ≤ o) {x : Value} (hx : ∀ z, x ≠ .int .u8 z) :
    Copied (w.setCell ⟨eb, o, none⟩ x) K q T eb eo V C S E m0 m1 es k cs (vs.set o x) ps :=
  have hm := h.m
  { h with
    v := h.v.put o x
    b := h.b.keep (heap_setCell_other _ _ _ _ (fun e => h.c1 e.symm))
    f := h.f.other o x (fun e => h.c2 e.symm)
    q0 := by
      rw [World.cell?_setCell_other _ _ _ _ (fun e => ?_)]
      · exact h.q0
      · obtain ⟨e1, e2, _⟩ := Addr.mk.inj e
        omega
    q1 := by
      rw [World.cell?_setCell_other _ _ _ _ (fun e => ?_)]
      · exact h.q1
      · obtain ⟨e1, e2, _⟩ := Addr.mk.inj e
        omega
    qb := by
      by_cases e : q = eb
      · subst e
        exact ⟨T, _, h.v.put o x⟩
      · obtain ⟨U, us, hu⟩ := h.qb
        exact ⟨U, us, hu.other o x e⟩
    ni := h.ni.set hx
    len := by rw [List.length_set]; exact h.len
    rows := fun i hi hk => by
      obtain ⟨a, h1, h2, h3⟩ := h.rows i hi hk
      exact ⟨a, h1.set (by omega), h2, h3.put h.n1 o x⟩
    e := Nat.le_trans h.e ((Below.refl eb w).setCell (p := ⟨eb, o, none⟩) (Nat.le_refl _) x).size }

theorem Copied.put5 (h : Copied w K q T eb eo V C S E m0 m1 es k cs vs ps) {x0 x1 x2 x3 x4 : Value} (h0 : ∀ z, x0 ≠ .int .u8 z) (h1 : ∀ z, x1 ≠ .int .u8 z) (h2 : ∀ z, x2 ≠ .int .u8 z) (h3 : ∀ z, x3 ≠ .int .u8 z) (h4 : ∀ z, x4 ≠ .int .u8 z) :
    Copied (Qxb6628903a.put5 w eb (eo + k * 5) x0 x1 x2 x3 x4) K q T eb eo V C S E m0 m1 es k cs (set5 vs (eo + k * 5) x0 x1 x2 x3 x4) ps :=
  ((((h.put (Nat.le_refl _) h0).put (Nat.le_add_right _ 1) h1).put (Nat.le_add_right _ 2) h2).put (Nat.le_add_right _ 3) h3).put (Nat.le_add_right _ 4) h4

theorem Copied.finish (h : Copied w K q T eb eo V C S E m0 m1 es k cs vs ps) (hk : k < es.length) {a p : Option Addr} (hr : RowAt vs (eo + k * 5) es[k].f a es[k].f.bs.length es[k].f.bs.length p) (hp : Piece C cs es[k].f a) (hs : SigBox w E C cs p es[k].sig)
    (hfr : p ≠ none → ∀ i, i < k → ps i ≠ p) : Copied w K q T eb eo V C S E m0 m1 es (k + 1) cs vs (fun i => if i = k then p else ps i) :=
  { h with
    rows := fun i hi hik => by
      by_cases e : i = k
      · subst e
        exact ⟨a, by simpa using hr, hp, by simpa using hs⟩
      · obtain ⟨a', h1, h2, h3⟩ := h.rows i hi (by omega)
        exact ⟨a', by simpa [e] using h1, h2, by simpa [e] using h3⟩
    inj := fun i j hij hj hn => by
      by_cases e : j = k
      · subst e
        have e2 : i ≠ j := by omega
        simp [e2] at hn ⊢
        exact hfr hn i hij
      · have e2 : i ≠ k := by omega
        simp [e, e2] at hn ⊢
        exact h.inj i j hij (by omega) hn }

theorem Copied.fresh (h : Copied w K q T eb eo V C S E m0 m1 es k cs vs ps) (hk : k ≤ es.length) : ∀ i, i < k → ps i ≠ some ⟨w.heap.size, 0, none⟩ := fun i hi he => by
  obtain ⟨a, _, _, h3⟩ := h.rows i (by omega) hi
  rw [he] at h3
  cases hs : es[i].sig with
  | none => rw [hs] at h3; cases h3
  | some g =>
    rw [hs] at h3
    obtain ⟨sb, a, hp, _, hv, _⟩ := h3
    cases hp
    exact Nat.lt_irrefl _ hv.lt

end

/-- what Clone gives back -/
structure Cloned (K : Nat) (w : World) (q : Nat) (nn ne : Bool) (ss : List ByteArray) (es : List El) (na ea : Option Addr) (nc ec : Nat) : Prop where
  q0 : w.cell? ⟨q, 0, none⟩ = some (.slice na ss.length nc)
  q1 : w.cell? ⟨q, 1, none⟩ = some (.slice ea es.length ec)
  s : Strs w na ss.length nn ss
  o : OwnStrs K w na ss.length
  nil : ea.isNone = ne
  k : K ≤ q
  blk : ∃ U us, VB U q us w
  el : es ≠ [] → ∃ T eb eo V C S E cs vs ps, ea = some ⟨eb, eo, none⟩ ∧ Copied w K q T eb eo V C S E (.slice na ss.length nc) (.slice ea es.length ec) es es.length cs vs ps

theorem SigBox.is {w : World} {E C S : Nat} {cs : List Int} {p : Option Addr} {sig : Option Flat} (h : SigBox w E C cs p sig) (hb : Buf C S cs w) : SigIs w (· = none) p sig := by
  cases sig with
  | none => exact h
  | some g =>
    obtain ⟨sb, a, rfl, _, hv, hp⟩ := h
    exact ⟨sb, 0, rfl, ⟨hv.cell rfl, hv.cell rfl, hv.cell rfl, a, _, _, hv.cell rfl, hp.bytes hb, (fun e => by rw [hp.2.1 e]; rfl)⟩, none, rfl, hv.cell rfl⟩

theorem Cloned.msg {K : Nat} {w : World} {q : Nat} {nn ne : Bool} {ss : List ByteArray} {es : List El} {na ea : Option Addr} {nc ec : Nat} (h : Cloned K w q nn ne ss es na ea nc ec) : MsgAt w q nn ne ss es := by
  refine ⟨na, nc, ea, ec, h.q0, h.q1, h.s, h.nil, rfl, fun hne => ?_⟩
  obtain ⟨T, eb, eo, V, C, S, E, cs, vs, ps, rfl, hc⟩ := h.el hne
  refine ⟨eb, eo, rfl, fun i hi => ?_⟩
  obtain ⟨a, ⟨r0, r1, r2, r3, r4⟩, hp, hs⟩ := hc.rows i hi hi
  exact ⟨⟨hc.v.cell r0, hc.v.cell r1, hc.v.cell r2, a, _, _, hc.v.cell r3, hp.bytes hc.b, (fun e => by rw [hp.2.1 e]; rfl)⟩, ps i, hc.v.cell r4, hs.is hc.b⟩

theorem Piece.row {K C S : Nat} {cs : List Int} {f : Flat} {a : Option Addr} {w : World} (h : Piece C cs f a) (hb : Buf C S cs w) (hK : K ≤ C) : ByteRow K w a f.bs.length := fun hn => by
  cases a with
  | none => rw [h.2.1 rfl] at hn; exact absurd hn (Nat.lt_irrefl 0)
  | some x =>
    obtain ⟨o, rfl, h2⟩ := h.2.2 x rfl
    refine ⟨C, o, rfl, hK, fun i hi => ?_⟩
    have := hb.cell (h2 i _ (List.getElem?_eq_getElem hi))
    exact ⟨⟨_, this.1⟩, this.2⟩

theorem Cloned.scr {K : Nat} {w : World} {q : Nat} {nn ne : Bool} {ss : List ByteArray} {es : List El} {na ea : Option Addr} {nc ec : Nat} (h : Cloned K w q nn ne ss es na ea nc ec) (hf : Fit ss es) (hm : Small es) : ScrMsg K w q na ss.length nc ea es.length ec := by
  refine ⟨h.q0, h.q1, Nat.le_trans hf.ns (by decide), Nat.le_trans hf.el (by decide), h.o, fun hn => ?_⟩
  obtain ⟨T, eb, eo, V, C, S, E, cs, vs, ps, rfl, hc⟩ := h.el (by intro e; rw [e] at hn; exact absurd hn (Nat.lt_irrefl 0))
  refine ⟨eb, eo, rfl, fun i hi => ?_⟩
  obtain ⟨a, ⟨r0, r1, r2, r3, r4⟩, hp, hs⟩ := hc.rows i hi hi
  refine ⟨⟨hc.k1, ⟨⟨_, hc.v.cell r0⟩, hc.v.frozen _⟩, ⟨⟨_, hc.v.cell r1⟩, hc.v.frozen _⟩, ⟨⟨_, hc.v.cell r2⟩, hc.v.frozen _⟩, a, _, _, hc.v.cell r3, (hm i hi).1, hp.row hc.b hc.k2⟩, ps i, hc.v.cell r4, ?_⟩
  cases hsig : es[i].sig with
  | none => rw [hsig] at hs; exact .inl hs
  | some g =>
    rw [hsig] at hs
    obtain ⟨sb, a2, h1, h2, hv, hp2⟩ := hs
    have hk1 := hc.k1
    have hn1 := hc.n1
    exact .inr ⟨sb, 0, h1, by omega, ⟨⟨_, hv.cell rfl⟩, hv.frozen _⟩, ⟨⟨_, hv.cell rfl⟩, hv.frozen _⟩, ⟨⟨_, hv.cell rfl⟩, hv.frozen _⟩, a2, _, _, hv.cell rfl, (hm i hi).2 g hsig, hp2.row hc.b hc.k2⟩

end Go.Proofs.Qxb6628903a
