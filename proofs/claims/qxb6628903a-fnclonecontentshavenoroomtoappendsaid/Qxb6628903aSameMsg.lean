/- zzSameMessage (function 9): true where the message reads as the law's arguments. -/
import Derived.Test.Qxb6628903aSameElem
namespace Go.Proofs.Qxb6628903a
open Go.RowKit

/-- no content is longer than a slice can be -/
def Fine (es : List El) : Prop := ∀ i (h : i < es.length), (es[i]'h).f.bs.length ≤ 9223372036854775807 ∧ ∀ g, (es[i]'h).sig = some g → g.bs.length ≤ 9223372036854775807

set_option maxHeartbeats 2000000 in
theorem sameMsg (q : Nat) (nn ne : Bool) (ss : List ByteArray) (es : List El) (R : Option Addr → Prop) (na ea : Option Addr) (nc ec : Nat) (w : World) (hm : MsgAt w q nn ne ss es) (hs : Strs w na ss.length nn ss) (he : Els w R ea es.length ne es)
    (l1 : ss.length ≤ 9223372036854775807) (l2 : es.length ≤ 9223372036854775807) (hf : Fine es) :
    Calls Try.prog 9 #[.pointer (some ⟨q, 0, none⟩), .slice na ss.length nc, .slice ea es.length ec] w fun e w' => e = .returned (.bool true) ∧ Below w.heap.size w w' := by
  obtain ⟨ma, mc, xa, xc, c0, c1, ms, me⟩ := hm
  have q1 := nil22
  have q2 := nil23
  have q3 := nil31
  have i1 := ms.1
  have i2 := me.1
  have i3 := hs.1
  have i4 := he.1
  have MS := hide ms
  have ME := hide me
  have HS := hide hs
  have HE := hide he
  have HF := hide hf
  clear ms me hs he hf
  obtain ⟨n1, hn1⟩ : ∃ n, ss.length = n := ⟨_, rfl⟩
  obtain ⟨n2, hn2⟩ : ∃ n, es.length = n := ⟨_, rfl⟩
  rw [hn1] at c0 l1 ⊢
  rw [hn2] at c1 l2 ⊢
  have N1 := hide hn1
  have N2 := hide hn2
  clear hn1 hn2
  go_enter Try.func9, Try.ntmps9
  go_wp2
  go_loopw [7] (fun i wr => ∃ k m : Nat, k ≤ n1 ∧ i = .int .i64 k ∧ wr = w.drewN m) (fun i _ => n1 - (intOf i).toNat)
  case atStart => exact ⟨0, 0, by omega, rfl, rfl⟩
  case round =>
    obtain ⟨k, m, hk, rfl, rfl⟩ := hrel
    by_cases hlt : k < n1
    · have j1 : (k : Int) < (n1 : Int) := by omega
      have hne : ss ≠ [] := by intro h; have := N1.out; rw [h] at this; simp at this; omega
      obtain ⟨b1, o1, rfl, x1⟩ := MS.out.2.2 hne
      obtain ⟨b2, o2, rfl, x2⟩ := HS.out.2.2 hne
      have y1 := x1 k (by rw [N1.out]; exact hlt)
      have y2 := x2 k (by rw [N1.out]; exact hlt)
      clear x1 x2 i1 i2 i3 i4 hne
      generalize ss.getD k ByteArray.empty = s at y1 y2
      go_wp2
      go_quiet (fail)
      go_wp2
      go_roundw
      case rel => exact ⟨k + 1, _, by omega, by go_num, rfl⟩
      case measure => simp [intOf]; omega
    · go_wp2
      go_loopw [8] (fun i wr => ∃ k : Nat, k ≤ n2 ∧ i = .int .i64 k ∧ Below w.heap.size w wr) (fun i _ => n2 - (intOf i).toNat)
      case atStart => exact ⟨0, by omega, rfl, below_draw m⟩
      case round =>
        obtain ⟨k, hk, rfl, hb⟩ := hrel
        by_cases hlt2 : k < n2
        · have j1 : (k : Int) < (n2 : Int) := by omega
          have hne : es ≠ [] := by intro h; have := N2.out; rw [h] at this; simp at this; omega
          obtain ⟨b1, o1, rfl, x1⟩ := ME.out.2.2 hne
          obtain ⟨b2, o2, rfl, x2⟩ := HE.out.2.2 hne
          have hk2 : k < es.length := by rw [N2.out]; exact hlt2
          obtain ⟨⟨p0, p1, p2, pa, pn, pc, p3, hpB, _⟩, ps, p4, hpS⟩ := (x1 k hk2).on hb
          obtain ⟨⟨r0, r1, r2, ra, rn, rc, r3, hrB, _⟩, rs, r4, hrS⟩ := (x2 k hk2).on hb
          obtain ⟨f1, f2⟩ := HF.out k hk2
          generalize es[k] = e at p0 p1 p2 p3 hpB hpS r0 r1 r2 r3 hrB hrS f1 f2
          obtain rfl : pn = rn := by rw [← hpB.2.1, ← hrB.2.1]
          have hpn : pn ≤ 9223372036854775807 := by rw [← hpB.2.1]; exact f1
          have d1 := cell_on hb c1
          have HP := hide hpB
          have HQ := hide hrB
          have HPS := hide hpS
          have HRS := hide hrS
          have F2 := hide f2
          have HB := hide hb
          clear x1 x2 i1 i2 i3 i4 hne hpB hrB hpS hrS f1 f2 c0 c1 hb
          go_wp2
          go_region_held3 (fun w' => w'.cell? ⟨q, 1, none⟩ = some (.slice (some ⟨b1, o1, none⟩) n2 xc) ∧
              w'.cell? ⟨b1, o1 + k * 5, none⟩ = some (.string e.f.s0) ∧ w'.cell? ⟨b1, o1 + k * 5 + 1, none⟩ = some (.string e.f.s1) ∧ w'.cell? ⟨b1, o1 + k * 5 + 2, none⟩ = some (.string e.f.s2) ∧ w'.cell? ⟨b1, o1 + k * 5 + 3, none⟩ = some (.slice pa pn pc) ∧ w'.cell? ⟨b1, o1 + k * 5 + 4, none⟩ = some (.pointer ps) ∧
              w'.cell? ⟨b2, o2 + k * 5, none⟩ = some (.string e.f.s0) ∧ w'.cell? ⟨b2, o2 + k * 5 + 1, none⟩ = some (.string e.f.s1) ∧ w'.cell? ⟨b2, o2 + k * 5 + 2, none⟩ = some (.string e.f.s2) ∧ w'.cell? ⟨b2, o2 + k * 5 + 3, none⟩ = some (.slice ra pn rc) ∧ w'.cell? ⟨b2, o2 + k * 5 + 4, none⟩ = some (.pointer rs))
            (first | go_keep | (refine ⟨?_, ?_, ?_, ?_, ?_, ?_, ?_, ?_, ?_, ?_, ?_⟩ <;> (apply cell_on hb3; assumption)))
            ((go_at_call 17; refine (sameElem e R _ _ _ _ _ _ _ _ hpn F2.out (HP.out.on (below_draw 1)) (HQ.out.on (below_draw 1)) (HPS.out.on (below_draw 1)) (HRS.out.on (below_draw 1))).mono ?_; rintro e w2 ⟨rfl, hb3⟩))
          have HB2 := hide (bchain HB.out (bchain (below_draw 1) hb3))
          clear hb3 d1 p0 p1 p2 p3 p4 r0 r1 r2 r3 r4
          go_wp2
          go_roundw
          case rel => exact ⟨k + 1, by omega, by go_num, HB2.out⟩
          case measure => simp [intOf]; omega
        · have HB := hide hb
          clear hb
          go_wp2
          go_ret
          exact ⟨rfl, HB.out⟩

end Go.Proofs.Qxb6628903a
