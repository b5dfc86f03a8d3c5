/- zzMessage (function 7): a fresh message that reads as the law's arguments. -/
import Derived.Test.Qxb6628903aDone
namespace Go.Proofs.Qxb6628903a
open Go.RowKit

/-- every content has at most 1 MiB -/
def Small (es : List El) : Prop := ∀ i (h : i < es.length), (es[i]'h).f.bs.length ≤ 1048576 ∧ ∀ g, (es[i]'h).sig = some g → g.bs.length ≤ 1048576

set_option maxHeartbeats 1000000 in
theorem message_nil (ss : List ByteArray) (na : Option Addr) (nc ec : Nat) (nn : Bool) (w : World) (hs : Strs w na ss.length nn ss) (l1 : ss.length ≤ 1048576) :
    Calls Try.prog 7 #[.slice na ss.length nc, .slice none 0 ec] w fun e w' => ∃ q, e = .returned (.pointer (some ⟨q, 0, none⟩)) ∧ MsgAt w' q nn true ss [] ∧ w.heap.size ≤ q ∧ Below w.heap.size w w' ∧ ∃ us, VB 33 q us w' := by
  have h1 := not23
  have HS := hide hs
  clear hs
  go_enter Try.func7, Try.ntmps7
  go_wp2_with fail
  refine (copyStrs _ _ _ nn ss _ l1 HS.out).mono ?_
  rintro e w1 ⟨a', c', rfl, hS, hb⟩
  have hb2 := Below.alloc (Below.refl w1.heap.size w1) (Nat.le_refl _) (.cells #[.slice a' ss.length c', .slice none 0 0] 33)
  have V := hide (VB.new w1 33 [.slice a' ss.length c', .slice none 0 0])
  have HM := hide (hS.on hb2)
  have HB := hide (bchain hb hb2)
  have SZ : Hid (w.heap.size ≤ w1.heap.size) := hb.size
  clear hS hb hb2
  go_wp2
  go_ret
  exact ⟨w1.heap.size, rfl, ⟨a', c', none, 0, V.out.cell rfl, V.out.cell rfl, HM.out, rfl, rfl, fun h => absurd rfl h⟩, SZ.out, HB.out, _, V.out⟩

set_option maxHeartbeats 2000000 in
theorem message_some (ss : List ByteArray) (es : List El) (R : Option Addr → Prop) (na : Option Addr) (x : Addr) (nc ec : Nat) (nn : Bool) (w : World) (hs : Strs w na ss.length nn ss) (he : Els w R (some x) es.length false es) (l1 : ss.length ≤ 1048576) (l2 : es.length ≤ 1048576) (hf : Small es) :
    Calls Try.prog 7 #[.slice na ss.length nc, .slice (some x) es.length ec] w fun e w' => ∃ q, e = .returned (.pointer (some ⟨q, 0, none⟩)) ∧ MsgAt w' q nn false ss es ∧ w.heap.size ≤ q ∧ Below w.heap.size w w' ∧ ∃ us, VB 33 q us w' := by
  have h1 := not23
  have hmk := mk31 es.length l2
  have HS := hide hs
  have HE := hide he
  have HF := hide hf
  clear hs he hf
  obtain ⟨n1, hn1⟩ : ∃ n, ss.length = n := ⟨_, rfl⟩
  obtain ⟨n2, hn2⟩ : ∃ n, es.length = n := ⟨_, rfl⟩
  rw [hn1] at l1 ⊢
  rw [hn2] at hmk l2 ⊢
  have N1 := hide hn1
  have N2 := hide hn2
  clear hn1 hn2
  go_enter Try.func7, Try.ntmps7
  go_wp2_with fail
  refine (copyStrs _ _ _ nn ss _ l1 (by rw [← N1.out]; exact HS.out)).mono ?_
  rintro e w1 ⟨a', c', rfl, hS, hb⟩
  have HM := hide hS
  have HB := hide hb
  have SZ : Hid (w.heap.size ≤ w1.heap.size) := hb.size
  clear hS hb
  go_wp2
  go_loopw [6] (fun i wr => ∃ (k : Nat) (vs : List Value), k ≤ n2 ∧ i = .int .i64 k ∧ VB 37 (w1.heap.size + 1) vs wr ∧ Hid (NoInt vs) ∧ Hid (vs.length = es.length * 5) ∧ Hid (Done wr (w1.heap.size + 1) vs es k) ∧ VB 33 w1.heap.size [.slice a' n1 c', .slice (some ⟨w1.heap.size + 1, 0, none⟩) n2 n2] wr ∧ Below w1.heap.size w1 wr) (fun i _ => n2 - (intOf i).toNat)
  case atStart => exact ⟨0, z37 n2, Nat.zero_le _, rfl, (laid2 w1 _ (z37 n2) 33 37).2, z37_noInt n2, by rw [N2.out]; exact z37_len n2, fun i _ hi => absurd hi (Nat.not_lt_zero i), (laid2 w1 _ (z37 n2) 33 37).1, below2 w1 _ _⟩
  case round =>
    obtain ⟨k, vs, hk, rfl, hv, hni, hvl, hd, hm, hb⟩ := hrel
    by_cases hlt : k < n2
    · have j1 : (k : Int) < (n2 : Int) := by omega
      have hne : es ≠ [] := by intro h; have := N2.out; rw [h] at this; simp at this; omega
      obtain ⟨b2, o2, hx, x2⟩ := HE.out.2.2 hne
      obtain rfl : x = ⟨b2, o2, none⟩ := Option.some.inj hx
      have hk2 : k < es.length := by rw [N2.out]; exact hlt
      have hbw := bchain HB.out hb
      have hb2 : b2 < w.heap.size := World.block_lt_of_cell? _ _ (x2 k hk2).1.1
      obtain ⟨⟨r0, r1, r2, ra, rn, rc, r3, hrB, _⟩, rs, r4, hrS⟩ := (x2 k hk2).on hbw
      obtain ⟨f1, f2⟩ := HF.out k hk2
      obtain rfl : rn = es[k].f.bs.length := hrB.2.1.symm
      have d1 := hm.cell (i := 1) rfl
      have HQ := hide hrB
      have HRS := hide hrS
      have F1 := hide f1
      have F2 := hide f2
      have HV := hide hv
      have HMM := hide hm
      have HBB := hide hb
      have hsz := SZ.out
      obtain ⟨y0, y1, y2, y3, y4, hy⟩ := five (vs := vs) (o := k * 5) (by rw [hvl.out]; omega)
      have HY := hide hy
      have ne1 : ¬ w1.heap.size + 1 = b2 := by omega
      clear hy x2 hne hrB hrS f1 f2 hx hbw hv hm hb
      go_wp2
      go_region_held3 (fun w' => w'.cell? ⟨w1.heap.size, 1, none⟩ = some (.slice (some ⟨w1.heap.size + 1, 0, none⟩) n2 n2) ∧
          w'.cell? ⟨b2, o2 + k * 5, none⟩ = some (.string es[k].f.s0) ∧ w'.cell? ⟨b2, o2 + k * 5 + 1, none⟩ = some (.string es[k].f.s1) ∧ w'.cell? ⟨b2, o2 + k * 5 + 2, none⟩ = some (.string es[k].f.s2) ∧ w'.cell? ⟨b2, o2 + k * 5 + 3, none⟩ = some (.slice ra es[k].f.bs.length rc) ∧ w'.cell? ⟨b2, o2 + k * 5 + 4, none⟩ = some (.pointer rs))
        (first | (refine ⟨?_, ?_, ?_, ?_, ?_, ?_⟩ <;> (refine cell_on (w := wr) ?_ (by assumption); with_reducible first | exact Below.drew (Below.refl _ _) | exact hbw)) | go_keep)
        ((go_at_call 14; refine (elem es[k] R _ _ _ _ _ F1.out F2.out ?_ ?_).mono ?_; (with_reducible exact HQ.out.on (Below.drew (Below.refl _ _))); (with_reducible exact HRS.out.on (Below.drew (Below.refl _ _))); rintro e w2 ⟨a2, c2, p2, rfl, hB2, hcap, hS2, hb3⟩; have hbw := bchain (Below.drew (Below.refl _ wr)) hb3; have vw := HV.out.on hbw; have e0 := vw.cell HY.out.1; have e1 := vw.cell HY.out.2.1; have e2 := vw.cell HY.out.2.2.1; have e3 := vw.cell HY.out.2.2.2.1; have e4 := vw.cell HY.out.2.2.2.2; have g0 := vw.frozen (k * 5); have g1 := vw.frozen (k * 5 + 1); have g2 := vw.frozen (k * 5 + 2); have g3 := vw.frozen (k * 5 + 3); have g4 := vw.frozen (k * 5 + 4)))
      have hlt3 : w1.heap.size + 1 < wr.heap.size := HV.out.lt
      have HD2 := hide (Done.step (hd.out.on hbw) vw hni.out hvl.out hk2 (c := c2) hB2 hcap (hS2.mono (by simp; omega)))
      have HV2 := hide (vw.put5 (k * 5) (.string es[k].f.s0) (.string es[k].f.s1) (.string es[k].f.s2) (.slice a2 es[k].f.bs.length c2) (.pointer p2))
      have HN2 := hide (hni.out.set5 (o := k * 5) (x0 := .string es[k].f.s0) (x1 := .string es[k].f.s1) (x2 := .string es[k].f.s2) (x3 := .slice a2 es[k].f.bs.length c2) (x4 := .pointer p2) (by simp) (by simp) (by simp) (by simp) (by simp))
      have HM2 := hide ((HMM.out.on hbw).other5 (E := w1.heap.size + 1) (by omega) (k * 5) (.string es[k].f.s0) (.string es[k].f.s1) (.string es[k].f.s2) (.slice a2 es[k].f.bs.length c2) (.pointer p2))
      have HB2 := hide (below5 (HBB.out.trans (hbw.mono (by omega))) (E := w1.heap.size + 1) (by omega) (k * 5) (.string es[k].f.s0) (.string es[k].f.s1) (.string es[k].f.s2) (.slice a2 es[k].f.bs.length c2) (.pointer p2))
      clear e0 e1 e2 e3 e4 g0 g1 g2 g3 g4 vw hB2 hcap hS2 hb3 hbw d1 r0 r1 r2 r3 r4
      go_wp2
      go_roundw
      case rel => exact ⟨k + 1, _, by omega, by go_num, HV2.out, HN2.out, (set5_len _ _ _ _ _ _ _).trans hvl.out, HD2.out, HM2.out, HB2.out⟩
      case measure => simp [intOf]; omega
    · have HBB := hide (bchain HB.out hb)
      have HMM := hide hm
      have HV := hide hv
      have HS2 := hide (HM.out.on hb)
      clear hb hm hv
      go_wp2
      go_ret
      obtain rfl : k = n2 := by omega
      have HD : Done wr (w1.heap.size + 1) vs es es.length := by rw [N2.out]; exact hd.out
      exact ⟨w1.heap.size, rfl, ⟨a', c', some ⟨w1.heap.size + 1, 0, none⟩, k, by rw [N1.out]; exact HMM.out.cell rfl, by rw [N2.out]; exact HMM.out.cell rfl, by rw [N1.out]; exact HS2.out, HD.els HV.out⟩, SZ.out, HBB.out, _, HMM.out⟩

end Go.Proofs.Qxb6628903a
