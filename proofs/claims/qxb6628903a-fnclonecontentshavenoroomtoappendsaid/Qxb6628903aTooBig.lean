/- zzTooBig (function 5): where it says false, all is within 1 MiB. -/
import Derived.Test.Qxb6628903aBig
namespace Go.Proofs.Qxb6628903a
open Go.RowKit

def ReachF (f : Flat) : Prop := f.s0.size ≤ 140737488351232 ∧ f.s1.size ≤ 140737488351232 ∧ f.s2.size ≤ 140737488351232 ∧ f.bs.length ≤ 140737488351232

/-- the form's own reach -/
def Reach (ss : List ByteArray) (es : List El) : Prop :=
  (∀ i, (ss.getD i ByteArray.empty).size ≤ 140737488351232) ∧ ∀ i (h : i < es.length), ReachF (es[i]'h).f ∧ ∀ g, (es[i]'h).sig = some g → ReachF g

/-- the bytes of an element's contents -/
def El.bytes (e : El) : Nat := e.f.bs.length + match e.sig with | none => 0 | some g => g.bs.length

def csum : List El → Nat
  | [] => 0
  | e :: es => e.bytes + csum es

theorem csum_append : ∀ (a b : List El), csum (a ++ b) = csum a + csum b
  | [], b => by simp [csum]
  | e :: a, b => by rw [List.cons_append, csum, csum, csum_append a b]; omega

theorem csum_snoc {es : List El} {k : Nat} (h : k < es.length) : csum (es.take (k + 1)) = csum (es.take k) + es[k].bytes := by
  rw [List.take_succ_eq_append_getElem h, csum_append]
  simp [csum]

structure Fit (ss : List ByteArray) (es : List El) : Prop where
  ns : ss.length ≤ 65536
  el : es.length ≤ 13108
  sum : csum es ≤ 1048576

def TooBigPost (ss : List ByteArray) (es : List El) (w : World) (e : Ending) (w' : World) : Prop :=
  ∃ b, e = .returned (.bool b) ∧ (b = false → Fit ss es) ∧ Below w.heap.size w w'

set_option maxHeartbeats 4000000 in
theorem tooBig (ss : List ByteArray) (es : List El) (R : Option Addr → Prop) (na ea : Option Addr) (nc ec : Nat) (nn ne : Bool) (w : World) (hs : Strs w na ss.length nn ss) (he : Els w R ea es.length ne es)
    (l1 : ss.length ≤ 140737488351232) (l2 : es.length ≤ 140737488351232) (hr : Reach ss es) :
    Calls Try.prog 5 #[.slice na ss.length nc, .slice ea es.length ec] w (TooBigPost ss es w) := by
  have HS := hide hs
  have HE := hide he
  have HR := hide hr
  clear hs he hr
  obtain ⟨n1, hn1⟩ : ∃ n, ss.length = n := ⟨_, rfl⟩
  obtain ⟨n2, hn2⟩ : ∃ n, es.length = n := ⟨_, rfl⟩
  rw [hn1] at l1 ⊢
  rw [hn2] at l2 ⊢
  have N1 := hide hn1
  have N2 := hide hn2
  clear hn1 hn2
  have T0 : Hid (Tot w w.heap.size 0 (w.alloc (.cells #[.int .i64 0] 3))) := ⟨VB.new w 3 [.int .i64 0], (Below.refl _ _).alloc (Nat.le_refl _) _⟩
  go_enter Try.func5, Try.ntmps5
  go_wp2
  go_loopw [6] (fun i wr => ∃ (k : Nat) (t : Int), k ≤ n1 ∧ i = .int .i64 k ∧ Tot w w.heap.size t wr ∧ 0 ≤ t ∧ t ≤ 1048576 ∧ Hid (16 * (k : Int) ≤ t)) (fun i _ => n1 - (intOf i).toNat)
  case atStart => exact ⟨0, 0, by omega, rfl, T0, by omega, by omega, by show _ ≤ _; omega⟩
  case round =>
    obtain ⟨k, t, hk, rfl, ht, t0, t1, tk⟩ := hrel
    by_cases hlt : k < n1
    · have j1 : (k : Int) < (n1 : Int) := by omega
      obtain ⟨b, off, rfl, hc⟩ := HS.out.2.2 (by intro h; have := N1.out; rw [h] at this; simp at this; omega)
      have ck0 := hc k (by rw [N1.out]; exact hlt)
      have hbl : b < w.heap.size := World.block_lt_of_cell? _ _ ck0
      have ck := cell_on ht.b ck0
      have sz := HR.out.1 k
      have cT := ht.v.cell (i := 0) rfl
      have fT := ht.v.frozen 0
      have q1 : ∀ a, (wr.setCell ⟨w.heap.size, 0, none⟩ (.int .i64 a)).cell? ⟨w.heap.size, 0, none⟩ = some (.int .i64 a) := fun a => (ht.set a).v.cell rfl
      have q2 : ∀ a b, ((wr.setCell ⟨w.heap.size, 0, none⟩ (.int .i64 a)).setCell ⟨w.heap.size, 0, none⟩ (.int .i64 b)).cell? ⟨w.heap.size, 0, none⟩ = some (.int .i64 b) := fun a b => ((ht.set a).set b).v.cell rfl
      have HT := hide ht
      clear hc ck0 ht
      generalize ss.getD k ByteArray.empty = s at ck sz
      by_cases m0 : t + 16 ≤ 1048576
      · by_cases m1 : t + 16 + (s.size : Int) ≤ 1048576
        · go_wp2
          go_region
          go_wp2
          go_roundw
          case rel => exact ⟨k + 1, t + 16 + (s.size : Int), by omega, by go_num, ((HT.out.set _).set _).drew, by omega, by omega, by have := tk.out; show _ ≤ _; omega⟩
          case measure => simp [intOf]; omega
        · go_wp2
          go_region
          go_wp2
          go_ret
          exact ⟨true, rfl, (fun h => by cases h), ((HT.out.set _).set _).drew.b⟩
      · go_wp2
        go_ret
        exact ⟨true, rfl, (fun h => by cases h), (HT.out.set _).b⟩
    · have tk2 : Hid (16 * (n1 : Int) ≤ 1048576) := by have := tk.out; show _ ≤ _; omega
      have HT := hide ht
      clear tk ht
      go_wp2
      go_loopw [7] (fun i wr => ∃ (k : Nat) (t : Int), k ≤ n2 ∧ i = .int .i64 k ∧ Tot w w.heap.size t wr ∧ 0 ≤ t ∧ t ≤ 1048576 ∧ Hid (80 * (k : Int) + (csum (es.take k) : Int) ≤ t)) (fun i _ => n2 - (intOf i).toNat)
      case atStart => exact ⟨0, t, by omega, rfl, HT.out, by omega, by omega, by show _ ≤ _; simp [csum]; omega⟩
      case round =>
        rename_i t0' t1'
        obtain ⟨k, t, hk, rfl, ht, t0, t1, tk⟩ := hrel
        by_cases hlt2 : k < n2
        · have j1 : (k : Int) < (n2 : Int) := by omega
          obtain ⟨b2, o2, rfl, x2⟩ := HE.out.2.2 (by intro h; have := N2.out; rw [h] at this; simp at this; omega)
          have hk2 : k < es.length := by rw [N2.out]; exact hlt2
          have hel := x2 k hk2
          obtain ⟨rf, rg⟩ := HR.out.2 k hk2
          have hcs := csum_snoc hk2
          generalize es[k] = el at hel rf rg hcs
          have HEL := hide hel
          have RG := hide rg
          have HCS := hide hcs
          obtain ⟨⟨r0, r1, r2, ra, rn, rc, r3, hrB, _⟩, rs, r4, hrS⟩ := hel.on ht.b
          obtain ⟨z0, z1, z2, z3⟩ := rf
          obtain rfl : rn = el.f.bs.length := hrB.2.1.symm
          have HTT := hide ht
          clear x2 hel rg hcs hrB ht
          cases hsig : el.sig with
          | none =>
            rw [hsig] at hrS
            obtain rfl : rs = none := hrS
            go_wp2_with fail
            clear r0 r1 r2 r3 r4
            refine (elemBig w.heap.size t _ _ _ _ _ _ _ w _ HTT.out t0 t1 z0 z1 z2 z3).mono ?_
            rintro e w2 ⟨b, t', rfl, hT2, h0', hb'⟩
            cases b with
            | true =>
              have HB := hide hT2.b
              clear hT2 hb'
              go_wp2
              go_ret
              exact ⟨true, rfl, (fun h => by cases h), HB.out⟩
            | false =>
              obtain ⟨hb1, hb2⟩ := hb' rfl
              obtain ⟨_, rs, r4, hrS⟩ := HEL.out.on hT2.b
              rw [hsig] at hrS
              obtain rfl : rs = none := hrS
              have HT2 := hide hT2
              have HF : Hid (80 * ((k + 1 : Nat) : Int) + (csum (es.take (k + 1)) : Int) ≤ t') := by
                have h1 := tk.out
                have h2 := HCS.out
                have h3 : el.bytes = el.f.bs.length := by unfold El.bytes; rw [hsig]; simp
                show _ ≤ _
                rw [h2, h3]; omega
              clear hT2 hb' hsig hb2
              go_wp2
              go_roundw
              case rel => exact ⟨k + 1, t', by omega, by go_num, HT2.out, h0', hb1, HF⟩
              case measure => simp [intOf]; omega
          | some g =>
            obtain ⟨g0, g1, g2, g3⟩ := RG.out g hsig
            rw [hsig] at hrS
            obtain ⟨pb, po, rfl, _, _⟩ := hrS
            go_wp2_with fail
            clear r0 r1 r2 r3 r4
            refine (elemBig w.heap.size t _ _ _ _ _ _ _ w _ HTT.out t0 t1 z0 z1 z2 z3).mono ?_
            rintro e w2 ⟨b, t', rfl, hT2, h0', hb'⟩
            cases b with
            | true =>
              have HB := hide hT2.b
              clear hT2 hb'
              go_wp2
              go_ret
              exact ⟨true, rfl, (fun h => by cases h), HB.out⟩
            | false =>
              obtain ⟨hb1, hb2⟩ := hb' rfl
              obtain ⟨_, rs, r4, hrS⟩ := HEL.out.on hT2.b
              rw [hsig] at hrS
              obtain ⟨pb2, po2, rfl, ⟨y0, y1, y2, ya, yn, yc, y3, hyB, _⟩, yr, _, y4⟩ := hrS
              obtain rfl : yn = g.bs.length := hyB.2.1.symm
              have HT2 := hide hT2
              have E2 := hide hb2
              clear hT2 hb' hb2 hyB
              go_wp2_with fail
              clear y0 y1 y2 y3 y4 r4
              refine (elemBig w.heap.size t' _ _ _ _ _ _ _ w _ HT2.out h0' hb1 g0 g1 g2 g3).mono ?_
              rintro e w3 ⟨b, t'', rfl, hT3, h0'', hb'⟩
              cases b with
              | true =>
                have HB := hide hT3.b
                clear hT3 hb'
                go_wp2
                go_ret
                exact ⟨true, rfl, (fun h => by cases h), HB.out⟩
              | false =>
                obtain ⟨hc1, hc2⟩ := hb' rfl
                have HT3 := hide hT3
                have HF : Hid (80 * ((k + 1 : Nat) : Int) + (csum (es.take (k + 1)) : Int) ≤ t'') := by
                  have h1 := tk.out
                  have h2 := HCS.out
                  have h4 := E2.out
                  have h3 : el.bytes = el.f.bs.length + g.bs.length := by unfold El.bytes; rw [hsig]
                  show _ ≤ _
                  rw [h2, h3]; omega
                clear hT3 hb' hsig hc2
                go_wp2
                go_roundw
                case rel => exact ⟨k + 1, t'', by omega, by go_num, HT3.out, h0'', hc1, HF⟩
                case measure => simp [intOf]; omega
        · have HB := hide ht.b
          have HF : Hid (Fit ss es) := by
            have h1 := tk.out
            have h2 := tk2.out
            have h3 : csum (es.take k) = csum es := by rw [List.take_of_length_le (by rw [N2.out]; omega)]
            rw [h3] at h1
            exact ⟨by rw [N1.out]; omega, by rw [N2.out]; omega, by omega⟩
          clear ht
          go_wp2
          go_ret
          exact ⟨false, rfl, (fun _ => HF.out), HB.out⟩

end Go.Proofs.Qxb6628903a
