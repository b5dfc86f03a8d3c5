/- The second law (function 4) where there is no element. -/
import Derived.Test.Qxb6628903aLaw1
namespace Go.Proofs.Qxb6628903a
open Go.RowKit

set_option maxRecDepth 4000 in
set_option maxHeartbeats 2000000 in
theorem law2_none (ss : List ByteArray) (R : Option Addr → Prop) (na ea : Option Addr) (nc ec : Nat) (nn ne : Bool) (w : World) (hs : Strs w na ss.length nn ss) (he : Els w R ea ([] : List El).length ne [])
    (l1 : ss.length ≤ 140737488351232) (hr : Reach ss []) :
    Calls Try.prog 4 #[.slice na ss.length nc, .slice ea 0 ec] w fun e w' => e = .returned (.bool true) ∧ Below w.heap.size w w' := by
  have HS := hide hs
  have HE := hide he
  have HR := hide hr
  have L1 := hide l1
  have L3 : Hid (ss.length ≤ 9223372036854775807) := Nat.le_trans l1 (by decide)
  clear hs he hr l1
  go_enter Try.func4, Try.ntmps4
  go_wp2_with fail
  refine (tooBig ss [] R na ea nc ec nn ne w HS.out HE.out L1.out (Nat.zero_le _) HR.out).mono ?_
  rintro e w1 ⟨b, rfl, hfit, hb1⟩
  have B1 := hide hb1
  cases b with
  | true =>
    clear hb1 hfit
    go_wp2
    go_ret
    exact ⟨rfl, B1.out⟩
  | false =>
    have FIT := hide (hfit rfl)
    have HE1 := hide (HE.out.on hb1)
    have HS1 := hide (HS.out.on hb1)
    clear hb1 hfit
    go_wp2_with fail
    refine (sigs [] R ea 0 ec ne w1 (Nat.zero_le _) HE1.out).mono ?_
    rintro e w1' ⟨b, rfl, hsg, rfl⟩
    cases b with
    | false =>
      clear hsg
      go_wp2
      go_ret
      exact ⟨rfl, B1.out⟩
    | true =>
      clear hsg
      go_wp2_with fail
      refine (message ss [] R na ea nc ec nn ne w1' HS1.out HE1.out FIT.out).mono ?_
      rintro e w2 ⟨q, rfl, hm, hq, hb2, us, hv⟩
      have M2 := hide hm
      have B2 := hide hb2
      have V2 := hide hv
      clear hm hq hb2 hv
      go_wp2_with fail
      refine (clone q ss [] nn ne w2 M2.out FIT.out).mono ?_
      rintro e w3 ⟨q2, na', ea', nc', ec', rfl, hcl, hb3⟩
      obtain ⟨U, us2, hv3⟩ := hcl.blk
      have B3 := hide hb3
      have hne : q2 ≠ q := by have h1 := hcl.k; have h2 := V2.out.lt; omega
      have PO := ptr_other hv3 (V2.out.on hb3) hne
      have B03 := hide (bchain B1.out (bchain B2.out hb3))
      have c1 : w3.cell? ⟨q2, 1, none⟩ = some (.slice ea' 0 ec') := hcl.q1
      clear hcl hb3 hv3 hne
      go_wp2
      refine wp_loop_rounds 1 ?_
      rw [rounds_succ]
      go_wp2
      refine wp_loop_rounds 1 ?_
      rw [rounds_succ]
      go_wp2_with fail
      refine (sameMsg q nn ne ss [] R na ea nc ec w3 (M2.out.on B3.out) (HS.out.on B03.out) (HE.out.on B03.out) L3.out (Nat.zero_le _) FIT.out.small.fine).mono ?_
      rintro e w6 ⟨rfl, hb6⟩
      have B06 := hide (bchain B03.out hb6)
      clear hb6
      go_wp2
      go_ret
      exact ⟨rfl, B06.out⟩

end Go.Proofs.Qxb6628903a
