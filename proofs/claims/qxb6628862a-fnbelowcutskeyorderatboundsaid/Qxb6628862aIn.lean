/- What comes in: a slice of bytes that can be read, as the list of its bytes. -/
import Derived.Test.Qxb6628862aCmp
namespace Go.Proofs.Qxb6628862a
open Go.RowKit

/-- WHAT THE WALK IS TOLD OF A SLICE OF INTEGERS THAT CAME IN (the given shell's own words). -/
def IsRow (k : IntKind) (w : World) (a : Option Addr) (len cap : Nat) (zs : List Int) : Prop :=
  (a = none ∧ len = 0 ∧ cap = 0 ∧ zs = []) ∨
  ∃ x, a = some x ∧ len ≤ cap ∧ cap ≤ maxLen ∧ zs.length = cap ∧ (∀ i, i < zs.length → w.cell? (x.add i) = some (.int k (zs.getD i 0))) ∧ ∀ n ∈ zs, (Lit.int k n).wf = true

theorem u8_bounds {n : Int} (h : (Lit.int .u8 n).wf = true) : 0 ≤ n ∧ n ≤ 255 := by
  simp [Lit.wf, IntKind.min, IntKind.max, IntKind.bits, IntKind.signed] at h
  omega

theorem row_of {w : World} {a : Option Addr} {len cap : Nat} {zs : List Int} (h : IsRow .u8 w a len cap zs) :
    ∃ xs : List UInt8, xs.length = len ∧ Row w a xs := by
  rcases h with ⟨rfl, rfl, rfl, rfl⟩ | ⟨x, rfl, hl, hm, hz, hc, hw⟩
  · exact ⟨[], rfl, fun h => absurd rfl h⟩
  · refine ⟨(zs.take len).map fun n => UInt8.ofNat n.toNat, by simp; omega, fun hne => ?_⟩
    have hpos : 0 < len := by
      rcases Nat.eq_zero_or_pos len with e | e
      · subst e; simp at hne
      · exact e
    obtain ⟨b, off, spot⟩ := x
    have h0 := hc 0 (by omega)
    have hspot : spot = none := by simpa [Addr.add] using World.cell?_spot h0
    subst hspot
    refine ⟨b, off, rfl, fun i hi => ?_⟩
    have hi' : i < len := by simp at hi; omega
    have e : (⟨b, off, none⟩ : Addr).add i = ⟨b, off + i, none⟩ := by unfold Addr.add; split <;> simp_all
    have h1 := hc i (by omega)
    rw [e] at h1
    rw [h1]
    have hb := u8_bounds (hw (zs.getD i 0) (by simp [List.getD, List.getElem?_eq_getElem (show i < zs.length by omega)]))
    have e2 : zs.getD i 0 = zs[i]'(by omega) := by simp [List.getD, List.getElem?_eq_getElem (show i < zs.length by omega)]
    rw [e2] at hb
    simp [List.getElem?_eq_getElem (show i < zs.length by omega)]
    omega

open Go.Lib (compareBytes) in
/-- zzCmpB1, its world as a variable -/
theorem cmp_bel (a b : Option Addr) (la ca lb cb : Nat) (xs ys : List UInt8) (w : World) (h1 : xs.length = la) (h2 : ys.length = lb) (hla : la ≤ 1048576) (hlb : lb ≤ 1048576)
    (hx : Row w a xs) (hy : Row w b ys) :
    Calls Try.prog 7 #[.slice a la ca, .slice b lb cb] w fun e w' => e = .returned (.int .i64 (compareBytes xs ys)) ∧ Below w.heap.size w w' := by
  refine (cmp_any a b la ca lb cb xs ys w h1 h2 hla hlb hx hy).mono ?_
  rintro e w' ⟨rfl, n, rfl⟩
  exact ⟨rfl, rfl, rfl, rfl, Nat.le_refl _, fun _ _ => rfl⟩

theorem len_le {w : World} {a : Option Addr} {len cap : Nat} {zs : List Int} (h : IsRow .u8 w a len cap zs) : (len : Int) ≤ 9223372036854775807 := by
  rcases h with ⟨_, rfl, _, _⟩ | ⟨_, _, hl, hm, _⟩
  · simp
  · unfold maxLen at hm; omega

theorem Row.drN {w : World} {a : Option Addr} {xs : List UInt8} (h : Row w a xs) (n : Nat) : Row (w.drewN n) a xs := h

theorem close {w w1 w3 : World} {n : Nat} (h1 : Below w.heap.size w w1) (h3 : Below (w1.drewN n).heap.size (w1.drewN n) w3) : Below w.heap.size w w3 :=
  (show Below w.heap.size w (w1.drewN n) from ⟨h1.os, h1.tape, h1.output, h1.size, h1.block⟩).trans (h3.mono h1.size)

end Go.Proofs.Qxb6628862a
