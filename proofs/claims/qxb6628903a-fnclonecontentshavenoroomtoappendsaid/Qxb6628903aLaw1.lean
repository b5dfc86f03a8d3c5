/- The first law (function 3), over the contracts. -/
import Derived.Test.Qxb6628903aCloneNil
import Derived.Test.Qxb6628903aSameMsg
import Derived.Test.Qxb6628903aSigs
import Derived.LaidEqlPtr
namespace Go.Proofs.Qxb6628903a
open Go.RowKit

theorem csum_le {es : List El} {i : Nat} (h : i < es.length) : es[i].bytes ≤ csum es := by
  have h1 : csum (es.take (i + 1)) + csum (es.drop (i + 1)) = csum es := by rw [← csum_append, List.take_append_drop]
  have h2 := csum_snoc h
  omega

theorem Fit.small {ss : List ByteArray} {es : List El} (h : Fit ss es) : Small es := fun i hi => by
  have h1 := csum_le hi
  have h2 := h.sum
  unfold El.bytes at h1
  refine ⟨by omega, fun g hg => ?_⟩
  rw [hg] at h1
  dsimp only at h1
  omega

theorem Small.fine {es : List El} (h : Small es) : Fine es := fun i hi => ⟨Nat.le_trans (h i hi).1 (by decide), fun g hg => Nat.le_trans ((h i hi).2 g hg) (by decide)⟩

theorem message (ss : List ByteArray) (es : List El) (R : Option Addr → Prop) (na ea : Option Addr) (nc ec : Nat) (nn ne : Bool) (w : World) (hs : Strs w na ss.length nn ss) (he : Els w R ea es.length ne es) (hf : Fit ss es) :
    Calls Try.prog 7 #[.slice na ss.length nc, .slice ea es.length ec] w fun e w' => ∃ q, e = .returned (.pointer (some ⟨q, 0, none⟩)) ∧ MsgAt w' q nn ne ss es ∧ w.heap.size ≤ q ∧ Below w.heap.size w w' ∧ ∃ us, VB 33 q us w' := by
  cases ea with
  | some x =>
    obtain rfl : false = ne := he.1
    exact message_some ss es R na x nc ec nn w hs he (Nat.le_trans hf.ns (by decide)) (Nat.le_trans hf.el (by decide)) hf.small
  | none =>
    obtain rfl : true = ne := he.1
    have hes : es = [] := by
      by_cases h : es = []
      · exact h
      · obtain ⟨b, o, hx, _⟩ := he.2.2 h
        cases hx
    subst hes
    exact message_nil ss na nc ec nn w hs (Nat.le_trans hf.ns (by decide))

theorem StrCell.below {w w' : World} {b o : Nat} (h : StrCell w b o) (hb : Below w.heap.size w w') : StrCell w' b o := by
  obtain ⟨⟨s, hs⟩, hf⟩ := h
  exact ⟨⟨s, cell_on hb hs⟩, (frozen_on hb (World.block_lt_of_cell? _ _ hs)).trans hf⟩

theorem ByteRow.below {K : Nat} {w w' : World} {a : Option Addr} {n : Nat} (h : ByteRow K w a n) (hb : Below w.heap.size w w') : ByteRow K w' a n := fun hn => by
  obtain ⟨cb, co, ha, hK, hc⟩ := h hn
  refine ⟨cb, co, ha, hK, fun i hi => ?_⟩
  obtain ⟨⟨z, hz⟩, hf⟩ := hc i hi
  exact ⟨⟨z, cell_on hb hz⟩, (frozen_on hb (World.block_lt_of_cell? _ _ hz)).trans hf⟩

theorem ScrEl.below {K : Nat} {w w' : World} {b o : Nat} (h : ScrEl K w b o) (hb : Below w.heap.size w w') : ScrEl K w' b o := by
  obtain ⟨h1, h2, h3, h4, a, n, c, h5, h6, h7⟩ := h
  exact ⟨h1, h2.below hb, h3.below hb, h4.below hb, a, n, c, cell_on hb h5, h6, h7.below hb⟩

theorem ScrMsg.below {K : Nat} {w w' : World} {q : Nat} {na : Option Addr} {nl nc : Nat} {ea : Option Addr} {el ec : Nat} (h : ScrMsg K w q na nl nc ea el ec) (hb : Below w.heap.size w w') : ScrMsg K w' q na nl nc ea el ec := by
  refine ⟨cell_on hb h.c0, cell_on hb h.c1, h.nb, h.eb, fun hn => ?_, fun hn => ?_⟩
  · obtain ⟨b, o, ha, hK, hc⟩ := h.n hn
    exact ⟨b, o, ha, hK, fun i hi => (hc i hi).below hb⟩
  · obtain ⟨b, o, ha, hc⟩ := h.e hn
    refine ⟨b, o, ha, fun i hi => ?_⟩
    obtain ⟨h1, p, h2, h3⟩ := hc i hi
    refine ⟨h1.below hb, p, cell_on hb h2, ?_⟩
    rcases h3 with h3 | ⟨sb, so, h4, h5⟩
    · exact .inl h3
    · exact .inr ⟨sb, so, h4, h5.below hb⟩

theorem info33 : ∃ j, Try.prog.info? 33 = some j ∧ j.size ≠ 0 := by
  have h : (Try.prog.info? 33).map (·.size) = some 2 := by kernel_rfl
  obtain ⟨j, hj, hs⟩ := Option.map_eq_some_iff.1 h
  exact ⟨j, hj, by rw [hs]; decide⟩

theorem ptr_other {w : World} {p q : Nat} {T U : TypeId} {us vs : List Value} (hp : VB T p us w) (hq : VB U q vs w) (hne : p ≠ q) :
    (binOp .eql 26 (.pointer (some ⟨p, 0, none⟩)) (.pointer (some ⟨q, 0, none⟩))).run Try.prog w = .ok (.bool false) w := by
  obtain ⟨j, hj, hs⟩ := info33
  exact run_eql_ptr_other w Try.underlying26 hj hs (fun e => hne (Addr.mk.inj e).1) hp.heap hq.heap

set_option maxHeartbeats 2000000 in
theorem law1 (ss : List ByteArray) (es : List El) (R : Option Addr → Prop) (na ea : Option Addr) (nc ec : Nat) (nn ne : Bool) (w : World) (hs : Strs w na ss.length nn ss) (he : Els w R ea es.length ne es)
    (l1 : ss.length ≤ 140737488351232) (l2 : es.length ≤ 140737488351232) (hr : Reach ss es) :
    Calls Try.prog 3 #[.slice na ss.length nc, .slice ea es.length ec] w fun e w' => e = .returned (.bool true) ∧ Below w.heap.size w w' := by
  have HS := hide hs
  have HE := hide he
  have HR := hide hr
  have L1 := hide l1
  have L2 := hide l2
  have L3 : Hid (ss.length ≤ 9223372036854775807) := Nat.le_trans l1 (by decide)
  have L4 : Hid (es.length ≤ 9223372036854775807) := Nat.le_trans l2 (by decide)
  clear hs he hr l1 l2
  go_enter Try.func3, Try.ntmps3
  go_wp2_with fail
  refine (tooBig ss es R na ea nc ec nn ne w HS.out HE.out L1.out L2.out HR.out).mono ?_
  rintro e w1 ⟨b, rfl, hfit, hb1⟩
  have B1 := hide hb1
  cases b with
  | true =>
    clear hb1 hfit
    go_wp2
    go_ret
    exact ⟨rfl, B1.out⟩
  | false =>
    have FIT := hide (hfit rfl)
    have HE1 := hide (HE.out.on hb1)
    have HS1 := hide (HS.out.on hb1)
    clear hb1 hfit
    go_wp2_with fail
    refine (sigs es R ea es.length ec ne w1 L4.out HE1.out).mono ?_
    rintro e w1' ⟨b, rfl, hsg, rfl⟩
    cases b with
    | false =>
      clear hsg
      go_wp2
      go_ret
      exact ⟨rfl, B1.out⟩
    | true =>
      clear hsg
      go_wp2_with fail
      refine (message ss es R na ea nc ec nn ne w1' HS1.out HE1.out FIT.out).mono ?_
      rintro e w2 ⟨q, rfl, hm, hq, hb2, us, hv⟩
      have M2 := hide hm
      have B2 := hide hb2
      have V2 := hide hv
      clear hm hq hb2 hv
      go_wp2_with fail
      refine (clone q ss es nn ne w2 M2.out FIT.out).mono ?_
      rintro e w3 ⟨q2, na', ea', nc', ec', rfl, hcl, hb3⟩
      obtain ⟨U, us2, hv3⟩ := hcl.blk
      have CL := hide hcl
      have B3 := hide hb3
      have hne : q2 ≠ q := by have h1 := hcl.k; have h2 := V2.out.lt; omega
      have PO := ptr_other hv3 (V2.out.on hb3) hne
      have B03 := hide (bchain B1.out (bchain B2.out hb3))
      clear hcl hb3 hv3 hne
      go_wp2_with fail
      refine (sameMsg q2 nn ne ss es R na ea nc ec w3 CL.out.msg (HS.out.on B03.out) (HE.out.on B03.out) L3.out L4.out FIT.out.small.fine).mono ?_
      rintro e w4 ⟨rfl, hb4⟩
      have B4 := hide hb4
      have SC := hide ((CL.out.scr FIT.out FIT.out.small).below hb4)
      clear hb4 PO
      go_wp2_with fail
      refine (scribble w2.heap.size q2 na' ss.length nc' ea' es.length ec' w4 SC.out).mono ?_
      rintro e w5 ⟨rfl, hk⟩
      have K5 := hide hk
      have B25 : Hid (Below w2.heap.size w2 w5) := ((B3.out.trans (B4.out.mono B3.out.size)).trans hk.b)
      have B05 : Hid (Below w.heap.size w w5) := bchain B1.out (bchain B2.out B25.out)
      clear hk
      go_wp2_with fail
      refine (sameMsg q nn ne ss es R na ea nc ec w5 (M2.out.on B25.out) (HS.out.on B05.out) (HE.out.on B05.out) L3.out L4.out FIT.out.small.fine).mono ?_
      rintro e w6 ⟨rfl, hb6⟩
      have B06 := hide (bchain B05.out hb6)
      clear hb6
      go_wp2
      go_ret
      exact ⟨rfl, B06.out⟩

end Go.Proofs.Qxb6628903a
