/- A block of elements that is filled one by one. -/
import Derived.Test.Qxb6628903aMake
namespace Go.Proofs.Qxb6628903a
open Go.RowKit

/-- five stores, one behind the other -/
def put5 (w : World) (E o : Nat) (x0 x1 x2 x3 x4 : Value) : World := ((((w.setCell ⟨E, o, none⟩ x0).setCell ⟨E, o + 1, none⟩ x1).setCell ⟨E, o + 2, none⟩ x2).setCell ⟨E, o + 3, none⟩ x3).setCell ⟨E, o + 4, none⟩ x4

theorem VB.put5 {T : TypeId} {E : Nat} {vs : List Value} {w : World} (h : VB T E vs w) (o : Nat) (x0 x1 x2 x3 x4 : Value) : VB T E (set5 vs o x0 x1 x2 x3 x4) (Qxb6628903a.put5 w E o x0 x1 x2 x3 x4) :=
  ((((h.put o x0).put (o + 1) x1).put (o + 2) x2).put (o + 3) x3).put (o + 4) x4

theorem VB.other5 {T : TypeId} {B E : Nat} {vs : List Value} {w : World} (h : VB T B vs w) (hne : B ≠ E) (o : Nat) (x0 x1 x2 x3 x4 : Value) : VB T B vs (Qxb6628903a.put5 w E o x0 x1 x2 x3 x4) :=
  ((((h.other o x0 hne).other (o + 1) x1 hne).other (o + 2) x2 hne).other (o + 3) x3 hne).other (o + 4) x4 hne

theorem below5 {K : Nat} {a w : World} (h : Below K a w) {E : Nat} (hE : K ≤ E) (o : Nat) (x0 x1 x2 x3 x4 : Value) : Below K a (put5 w E o x0 x1 x2 x3 x4) :=
  ((((h.setCell (p := ⟨E, o, none⟩) hE x0).setCell (p := ⟨E, o + 1, none⟩) hE x1).setCell (p := ⟨E, o + 2, none⟩) hE x2).setCell (p := ⟨E, o + 3, none⟩) hE x3).setCell (p := ⟨E, o + 4, none⟩) hE x4

theorem Bytes.kind5 {w : World} {a : Option Addr} {n : Nat} {nil : Bool} {bs : List Int} (h : Bytes w a n nil bs) {T : TypeId} {E : Nat} {vs : List Value} (hv : VB T E vs w) (hk : NoInt vs) (o : Nat) {x0 x1 x2 x3 x4 : Value}
    (h0 : ∀ z, x0 ≠ .int .u8 z) (h1 : ∀ z, x1 ≠ .int .u8 z) (h2 : ∀ z, x2 ≠ .int .u8 z) (h3 : ∀ z, x3 ≠ .int .u8 z) : Bytes (Qxb6628903a.put5 w E o x0 x1 x2 x3 x4) a n nil bs := by
  have v0 := hv.put o x0
  have v1 := v0.put (o + 1) x1
  have v2 := v1.put (o + 2) x2
  have v3 := v2.put (o + 3) x3
  have k0 := hk.set (o := o) h0
  have k1 := k0.set (o := o + 1) h1
  have k2 := k1.set (o := o + 2) h2
  have k3 := k2.set (o := o + 3) h3
  exact ((((h.kind hv hk o x0).kind v0 k0 (o + 1) x1).kind v1 k1 (o + 2) x2).kind v2 k2 (o + 3) x3).kind v3 k3 (o + 4) x4

theorem SigOwn.on {w w' : World} {K : Nat} {p : Option Addr} {sig : Option Flat} (h : SigOwn w K p sig) (hb : Below w.heap.size w w') : SigOwn w' K p sig := by
  cases sig with
  | none => exact h
  | some g =>
    obtain ⟨sb, a, n, c, rfl, hK, hv, hB, hc⟩ := h
    exact ⟨sb, a, n, c, rfl, hK, hv.on hb, hB.on hb, hc⟩

theorem SigOwn.mono {w : World} {K K' : Nat} {p : Option Addr} {sig : Option Flat} (h : SigOwn w K p sig) (hK : K' ≤ K) : SigOwn w K' p sig := by
  cases sig with
  | none => exact h
  | some g =>
    obtain ⟨sb, a, n, c, rfl, h1, hv, hB, hc⟩ := h
    exact ⟨sb, a, n, c, rfl, Nat.le_trans hK h1, hv, hB, hc⟩

theorem SigOwn.put5 {w : World} {E : Nat} {p : Option Addr} {sig : Option Flat} (h : SigOwn w (E + 1) p sig) {T : TypeId} {vs : List Value} (hv : VB T E vs w) (hk : NoInt vs) (o : Nat) {x0 x1 x2 x3 x4 : Value}
    (h0 : ∀ z, x0 ≠ .int .u8 z) (h1 : ∀ z, x1 ≠ .int .u8 z) (h2 : ∀ z, x2 ≠ .int .u8 z) (h3 : ∀ z, x3 ≠ .int .u8 z) : SigOwn (Qxb6628903a.put5 w E o x0 x1 x2 x3 x4) (E + 1) p sig := by
  cases sig with
  | none => exact h
  | some g =>
    obtain ⟨sb, a, n, c, rfl, hK, hs, hB, hc⟩ := h
    exact ⟨sb, a, n, c, rfl, hK, hs.other5 (by omega) o _ _ _ _ _, hB.kind5 hv hk o h0 h1 h2 h3, hc⟩

/-- the first k elements lie in block E -/
def Done (w : World) (E : Nat) (vs : List Value) (es : List El) (k : Nat) : Prop :=
  ∀ i (h : i < es.length), i < k → ∃ a c p, RowAt vs (i * 5) (es[i]'h).f a (es[i]'h).f.bs.length c p ∧ Bytes w a (es[i]'h).f.bs.length (es[i]'h).f.nil (es[i]'h).f.bs ∧ (a = none → c = 0) ∧ SigOwn w (E + 1) p (es[i]'h).sig

theorem Done.on {w w' : World} {E : Nat} {vs : List Value} {es : List El} {k : Nat} (h : Done w E vs es k) (hb : Below w.heap.size w w') : Done w' E vs es k := fun i hi hk => by
  obtain ⟨a, c, p, hr, hB, hc, hs⟩ := h i hi hk
  exact ⟨a, c, p, hr, hB.on hb, hc, hs.on hb⟩

theorem Done.step {w : World} {E : Nat} {vs : List Value} {es : List El} {k : Nat} (h : Done w E vs es k) (hv : VB 37 E vs w) (hn : NoInt vs) (hl : vs.length = es.length * 5) (hk : k < es.length)
    {a : Option Addr} {c : Nat} {p : Option Addr} (hB : Bytes w a es[k].f.bs.length es[k].f.nil es[k].f.bs) (hc : a = none → c = 0) (hs : SigOwn w (E + 1) p es[k].sig) :
    Done (put5 w E (k * 5) (.string es[k].f.s0) (.string es[k].f.s1) (.string es[k].f.s2) (.slice a es[k].f.bs.length c) (.pointer p)) E (set5 vs (k * 5) (.string es[k].f.s0) (.string es[k].f.s1) (.string es[k].f.s2) (.slice a es[k].f.bs.length c) (.pointer p)) es (k + 1) := by
  intro i hi hik
  by_cases e : i = k
  · subst e
    exact ⟨a, c, p, RowAt.new (by omega), hB.kind5 hv hn _ (by simp) (by simp) (by simp) (by simp), hc, hs.put5 hv hn _ (by simp) (by simp) (by simp) (by simp)⟩
  · obtain ⟨a', c', p', hr', hB', hc', hs'⟩ := h i hi (by omega)
    exact ⟨a', c', p', hr'.keep (by omega), hB'.kind5 hv hn _ (by simp) (by simp) (by simp) (by simp), hc', hs'.put5 hv hn _ (by simp) (by simp) (by simp) (by simp)⟩

/-- all of them, as a slice of elements -/
theorem Done.els {w : World} {E : Nat} {vs : List Value} {es : List El} (h : Done w E vs es es.length) (hv : VB 37 E vs w) : Els w (· = none) (some ⟨E, 0, none⟩) es.length false es := by
  refine ⟨rfl, rfl, fun _ => ⟨E, 0, rfl, fun i hi => ?_⟩⟩
  obtain ⟨a, c, p, ⟨r0, r1, r2, r3, r4⟩, hB, hc, hs⟩ := h i hi hi
  rw [Nat.zero_add]
  refine ⟨⟨hv.cell r0, hv.cell r1, hv.cell r2, a, _, c, hv.cell r3, hB, hc⟩, p, hv.cell r4, ?_⟩
  cases hsig : es[i].sig with
  | none => rw [hsig] at hs; exact hs
  | some g =>
    rw [hsig] at hs
    obtain ⟨sb, a, n, c, rfl, _, hv, hB, hc⟩ := hs
    exact ⟨sb, 0, rfl, ⟨hv.cell rfl, hv.cell rfl, hv.cell rfl, a, n, c, hv.cell rfl, hB, hc⟩, none, rfl, hv.cell rfl⟩

end Go.Proofs.Qxb6628903a
