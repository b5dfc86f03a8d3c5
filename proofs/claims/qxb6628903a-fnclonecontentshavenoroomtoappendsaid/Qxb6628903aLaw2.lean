/- The second law (function 4), over the contracts. -/
import Derived.Test.Qxb6628903aLaw1
import Derived.Test.Qxb6628903aPlus
import Derived.Test.Qxb6628903aGrown
import Derived.Deep.RegionLawGrows
import Derived.Deep.QuietTactic
import Derived.BigQuiet
import Derived.Deep.RegionHeld3
namespace Go.Proofs.Qxb6628903a
open Go.RowKit

theorem app_olds {w W : World} {a : Option Addr} {n : Nat} {nil : Bool} {bs : List Int} (h : Bytes w a n nil bs) (hb : Below w.heap.size w W) : ∀ b, a = some b → ∀ j u, (bs.map (Value.int .u8))[j]? = some u → W.cell? (b.add j) = some u := by
  intro x hx j u hj
  have hjl : j < bs.length := by simpa using (List.getElem?_eq_some_iff.1 hj).1
  obtain ⟨b, off, hx', hc⟩ := h.2.2 (by intro e; rw [e] at hjl; simp at hjl)
  obtain rfl : x = ⟨b, off, none⟩ := by rw [hx] at hx'; exact Option.some.inj hx'
  have e : (⟨b, off, none⟩ : Addr).add j = ⟨b, off + j, none⟩ := by unfold Addr.add; split <;> simp_all
  rw [e, cell_on hb (hc j hjl)]
  simp [List.getElem?_eq_getElem hjl] at hj
  simp [List.getD, List.getElem?_eq_getElem hjl, hj]

theorem app_news (w : World) (z : Int) : ∀ j u, [Value.int .u8 z][j]? = some u → (w.alloc (.cells #[.int .u8 z] 5)).cell? ((⟨w.heap.size, 0, none⟩ : Addr).add j) = some u := by
  intro j u hj
  have hj0 : j = 0 := by
    have := (List.getElem?_eq_some_iff.1 hj).1
    simp at this
    exact this
  subst hj0
  have e : (⟨w.heap.size, 0, none⟩ : Addr).add 0 = ⟨w.heap.size, 0, none⟩ := by unfold Addr.add; simp
  rw [e, (VB.new w 5 [.int .u8 z]).cell (i := 0) rfl]
  simpa using hj

theorem below_grown {w w' : World} (h : w.grownBy w' none) : Below w.heap.size w w' := (Below.refl _ w).grown h (Nat.le_refl _) (fun k hk => by cases hk)

set_option maxRecDepth 4000 in
set_option maxHeartbeats 8000000 in
theorem law2_full (ss : List ByteArray) (es : List El) (R : Option Addr → Prop) (na ea : Option Addr) (nc ec : Nat) (nn ne : Bool) (w : World) (hs : Strs w na ss.length nn ss) (he : Els w R ea es.length ne es)
    (l1 : ss.length ≤ 140737488351232) (l2 : es.length ≤ 140737488351232) (hr : Reach ss es) (hne0 : es ≠ []) :
    Calls Try.prog 4 #[.slice na ss.length nc, .slice ea es.length ec] w fun e w' => e = .returned (.bool true) ∧ Below w.heap.size w w' := by
  have HS := hide hs
  have HE := hide he
  have HR := hide hr
  have L1 := hide l1
  have L2 := hide l2
  have L3 : Hid (ss.length ≤ 9223372036854775807) := Nat.le_trans l1 (by decide)
  have L4 : Hid (es.length ≤ 9223372036854775807) := Nat.le_trans l2 (by decide)
  have NE0 := hide hne0
  clear hs he hr l1 l2 hne0
  obtain ⟨n2, hn2⟩ : ∃ n, es.length = n := ⟨_, rfl⟩
  have N2 := hide hn2
  clear hn2
  go_enter Try.func4, Try.ntmps4
  go_wp2_with fail
  refine (tooBig ss es R na ea nc ec nn ne w HS.out HE.out L1.out L2.out HR.out).mono ?_
  rintro e w1 ⟨b, rfl, hfit, hb1⟩
  have B1 := hide hb1
  cases b with
  | true =>
    clear hb1 hfit
    go_wp2
    go_ret
    exact ⟨rfl, B1.out⟩
  | false =>
    have FIT := hide (hfit rfl)
    have HE1 := hide (HE.out.on hb1)
    have HS1 := hide (HS.out.on hb1)
    clear hb1 hfit
    go_wp2_with fail
    refine (sigs es R ea es.length ec ne w1 L4.out HE1.out).mono ?_
    rintro e w1' ⟨b, rfl, hsg, rfl⟩
    cases b with
    | false =>
      clear hsg
      go_wp2
      go_ret
      exact ⟨rfl, B1.out⟩
    | true =>
      clear hsg
      go_wp2_with fail
      refine (message ss es R na ea nc ec nn ne w1' HS1.out HE1.out FIT.out).mono ?_
      rintro e w2 ⟨q, rfl, hm, hq, hb2, us, hv⟩
      have M2 := hide hm
      have B2 := hide hb2
      have V2 := hide hv
      clear hm hq hb2 hv
      go_wp2_with fail
      refine (clone q ss es nn ne w2 M2.out FIT.out).mono ?_
      rintro e w3 ⟨q2, na', ea', nc', ec', rfl, hcl, hb3⟩
      obtain ⟨U, us2, hv3⟩ := hcl.blk
      obtain ⟨T, eb, eo, V, C, S, E, cs, vs, ps, hea, hcp⟩ := hcl.el NE0.out
      subst hea
      have B3 := hide hb3
      have hne : q2 ≠ q := by have h1 := hcl.k; have h2 := V2.out.lt; omega
      have PO := ptr_other hv3 (V2.out.on hb3) hne
      have B03 := hide (bchain B1.out (bchain B2.out hb3))
      have G0 := hide hcp.grown
      have c1 := hcl.q1
      have l2' := FIT.out.el
      rw [N2.out] at c1 l2' G0 ⊢
      clear hcl hb3 hv3 hne hcp
      go_wp2
      clear PO c1
      go_loopw [7] (fun i wr => ∃ (k : Nat) (vs : List Value), k ≤ n2 ∧ i = .int .i64 k ∧ Hid (Grown wr w2.heap.size q2 T eb eo E (.slice (some ⟨eb, eo, none⟩) n2 ec') es k k vs ps) ∧ Hid (Below w2.heap.size w3 wr)) (fun i _ => n2 - (intOf i).toNat)
      case atStart => exact ⟨0, vs, Nat.zero_le _, rfl, G0.out, Below.refl _ _⟩
      case round =>
        obtain ⟨k, vs, hk, rfl, hG, hbw⟩ := hrel
        have q1 := hG.out.q1
        by_cases hlt : k < n2
        · have j1 : (k : Int) < (n2 : Int) := by omega
          have hk2 : k < es.length := by rw [N2.out]; exact hlt
          obtain ⟨a, l, c, hrow, hct, hsg⟩ := hG.out.rows k hk2
          rw [show decide (k < k) = false from decide_eq_false (Nat.lt_irrefl k)] at hct hsg
          obtain ⟨rfl, rfl, hB⟩ := hct
          have hsm := (FIT.out.small k hk2).1
          obtain ⟨n, hn⟩ : ∃ n, es[k].f.bs.length = n := ⟨_, rfl⟩
          rw [hn] at hsm hrow hB
          have HL := hide hn
          have e3 := hG.out.v.cell hrow.2.2.2.1
          have e4 := hG.out.v.cell hrow.2.2.2.2
          have hbA := Below.alloc (Below.refl wr.heap.size wr) (Nat.le_refl _) (.cells #[.int .u8 165] 5)
          have hnone : Hid (a = none → n = 0 ∧ n = 0) := fun h => by subst h; have := bytes_none hB; exact ⟨this.2.2, this.2.2⟩
          have OLD := hide (app_olds hB hbA)
          have NEW := hide (app_news wr 165)
          have HLO : Hid ((es[k].f.bs.map (Value.int .u8)).length = n * 1) := by show _ = _; rw [List.length_map, hn]; omega
          obtain ⟨i0, hi, hz0, hz1, hz2⟩ := info_parts info5
          have HSG := hide hsg
          clear hB hn hrow hbA hsg
          obtain ⟨w5, hW5⟩ : ∃ w5, wr.alloc (.cells #[.int .u8 165] 5) = w5 := ⟨_, rfl⟩
          rw [hW5] at OLD NEW
          have B5 : Hid (Below wr.heap.size wr w5) := by rw [← hW5]; exact Below.alloc (Below.refl wr.heap.size wr) (Nat.le_refl _) _
          have HW5 := hide hW5
          clear hW5
          go_wp2_with (at_builtin; rw [HW5.out]; refine wpList_append_grows _ rfl _ _ 35 rfl 5 i0 (.int .u8 0) 1 1 Try.underlying35 hi hz0 hz1 hz2 rfl (by decide) a n n (es[k].f.bs.map (Value.int .u8)) rfl hnone.out HLO.out OLD.out ⟨wr.heap.size, 0, none⟩ 1 1 [.int .u8 165] rfl rfl NEW.out ?c1 (by omega) ?c2 ?c3 ?_)
          case c1 => intro u hu; simp at hu; subst hu; rfl
          case c2 => unfold maxLen; omega
          case c3 => omega
          intro v' w6 hown hg
          obtain ⟨a', c', rfl, hBy⟩ := bytes_grown HL.out hown
          have hb6 := bchain B5.out (below_grown hg)
          have G6 := hG.out.on hb6
          have e3' := cell_on hb6 e3
          have e4' := cell_on hb6 e4
          have f3 := G6.v.frozen (eo + k * 5 + 3)
          have f4 := G6.v.frozen (eo + k * 5 + 4)
          have CT : Cont w6 true 165 es[k].f a' (n + 1) c' := ⟨by rw [HL.out], hBy⟩
          have GA := hide (G6.setEl hk2 CT)
          have BA : Hid (Below w2.heap.size w3 (w6.setCell ⟨eb, eo + k * 5 + 3, none⟩ (.slice a' (n + 1) c'))) := (hbw.out.trans (hb6.mono (by have := hbw.out.size; have := B3.out.size; omega))).setCell (p := ⟨eb, eo + k * 5 + 3, none⟩) (show w2.heap.size ≤ eb from hG.out.k1) _
          clear e3 e4 hown hg hBy hb6 G6 CT
          obtain ⟨w7, hW7⟩ : ∃ w7, w6.setCell ⟨eb, eo + k * 5 + 3, none⟩ (.slice a' (n + 1) c') = w7 := ⟨_, rfl⟩
          rw [hW7] at GA BA
          have HW7 := hide hW7
          clear hW7
          cases hsig : es[k].sig with
          | none =>
            have hs0 := HSG.out
            rw [hsig] at hs0
            have hps : ps k = none := hs0
            rw [hps] at e4'
            have GB := hide (GA.out.skip hk2 hsig)
            clear hsig hs0 hps
            go_wp2
            rw [HW7.out]
            go_roundw
            case rel => exact ⟨k + 1, _, by omega, by go_num, GB.out, BA.out⟩
            case measure => simp [intOf]; omega
          | some g =>
            obtain ⟨a1, l1, c1, hrow1, _, hsg1⟩ := GA.out.rows k hk2
            rw [show decide (k < k) = false from decide_eq_false (Nat.lt_irrefl k), hsig] at hsg1
            obtain ⟨sb, ga, gl, gc, hps, hEs, hvs, rfl, rfl, hgB⟩ := hsg1
            rw [hps] at e4' hrow1
            have p4 := GA.out.v.cell hrow1.2.2.2.2
            have s3 := hvs.cell (i := 3) rfl
            have sf := hvs.frozen 3
            have hgm := (FIT.out.small k hk2).2 g hsig
            have HSIG := hide hsig
            have HPS := hide hps
            have HGB := hide hgB
            have HVS := hide hvs
            obtain ⟨m, hm⟩ : ∃ m, g.bs.length = m := ⟨_, rfl⟩
            rw [hm] at s3 hgm HGB HVS
            have HM := hide hm
            have GNO : Hid (ga = none → m = 0 ∧ m = 0) := fun h => by subst h; have := bytes_none HGB.out; exact ⟨this.2.2, this.2.2⟩
            have GLO : Hid ((g.bs.map (Value.int .u8)).length = m * 1) := by show _ = _; rw [List.length_map, hm]; omega
            have hsb : sb < w7.heap.size := hvs.lt
            have hebl : eb < w7.heap.size := GA.out.v.lt
            have hne1 : ¬ eb = sb := by have := GA.out.n1; omega
            have hEs' := hide hEs
            clear hsig hps hgB hvs hrow1 hm hEs
            go_wp2_with fail
            rw [HW7.out]
            go_region_law (refine step_append_grows rfl (.tmp 75) (.tmp 76) 35 rfl 5 i0 (.int .u8 0) 1 1 Try.underlying35 hi hz0 hz1 hz2 rfl (by decide) ga m m (g.bs.map (Value.int .u8)) (by simp [Act.eval]) GNO.out GLO.out (app_olds HGB.out (Below.alloc (Below.drew (Below.refl _ _)) (Nat.le_refl _) _)) ⟨w7.heap.size, 0, none⟩ 1 1 [.int .u8 90] (by simp [Act.eval]) rfl (app_news w7.drew 90) (by intro u hu; simp at hu; subst hu; rfl) (by omega) (by unfold maxLen; omega) (by omega) ?_; intro v' w9 hown hg; obtain ⟨a9, c9, rfl, hBy9⟩ := bytes_grown HM.out hown; have hb9 : Below w7.heap.size w7 w9 := bchain (w := w7) (Below.drew (Below.alloc (Below.refl _ w7) (Nat.le_refl _) (.cells #[.int .u8 90] 5))) (below_grown hg); have s39 := cell_on hb9 s3; have sf9 := (HVS.out.on hb9).frozen 3; have p49 := cell_on hb9 p4; clear hown hg)
            all_goals
              have GN := hide ((GA.out.on hb9).setSig hk2 HSIG.out HPS.out (a := a9) (l := m + 1) (c := c9) ⟨by rw [HM.out], hBy9⟩)
              have BN : Hid (Below w2.heap.size w3 (w9.setCell ⟨sb, 3, none⟩ (.slice a9 (m + 1) c9))) := (BA.out.trans (hb9.mono (by have := BA.out.size; have := B3.out.size; omega))).setCell (p := ⟨sb, 3, none⟩) (show w2.heap.size ≤ sb by have h1 := GA.out.k1; have h2 := GA.out.n1; have h3 := hEs'.out; omega) _
              clear hBy9 hb9
              go_wp2
              go_roundw
              case rel => exact ⟨k + 1, _, by omega, by go_num, GN.out, BN.out⟩
              case measure => simp [intOf]; omega
        · obtain rfl : k = n2 := by omega
          obtain ⟨wz, hwz⟩ : ∃ wz, wz = wr := ⟨_, rfl⟩
          subst hwz
          go_wp2_with fail
          go_loopw [9] (fun i wr => ∃ j : Nat, j ≤ k ∧ i = .int .i64 j ∧ Below wz.heap.size wz wr) (fun i _ => k - (intOf i).toNat)
          case atStart => exact ⟨0, Nat.zero_le _, rfl, Below.refl _ _⟩
          case round =>
            obtain ⟨j, hj, rfl, hb⟩ := hrel
            have BW := hide hb
            have B0z : Hid (Below w.heap.size w wz) := (B03.out).trans (hbw.out.mono (Nat.le_trans B1.out.size B2.out.size))
            have B0r : Hid (Below w.heap.size w wr) := bchain B0z.out hb
            by_cases hlt2 : j < k
            · have j1 : (j : Int) < (k : Int) := by omega
              have hk2 : j < es.length := by rw [N2.out]; exact hlt2
              obtain ⟨b2, o2, hea, x2⟩ := HE.out.2.2 NE0.out
              subst hea
              obtain ⟨⟨_, _, _, wa, wn, wc, x3, hwB, _⟩, rs, x4, hrS⟩ := (x2 j hk2).on B0r.out
              obtain ⟨a, l, c, hrow, hct, hsg⟩ := (hG.out.on hb).rows j hk2
              rw [show decide (j < k) = true from decide_eq_true hlt2] at hct hsg
              obtain ⟨rfl, hB⟩ := hct
              have hsm := (FIT.out.small j hk2).1
              have hsm2 := (FIT.out.small j hk2).2
              obtain rfl : wn = es[j].f.bs.length := hwB.2.1.symm
              obtain ⟨n, hn⟩ : ∃ n, es[j].f.bs.length = n := ⟨_, rfl⟩
              rw [hn] at hsm hrow hB hwB x3
              have v9 := (hG.out.on hb).v
              have q1' := (hG.out.on hb).q1
              have e3 := v9.cell hrow.2.2.2.1
              have e4 := v9.cell hrow.2.2.2.2
              have HBG := hide hB
              have HBW := hide hwB
              have HSM := hide hsm
              cases hsig : es[j].sig with
              | none =>
                rw [hsig] at hsg hrS
                obtain rfl : rs = none := hrS
                have hps : ps j = none := hsg
                rw [hps] at e4
                clear hb x2 hrow hB hwB hn v9 hsig hsg hps hsm2 q1
                go_wp2_with fail
                go_region_held3 (fun w' => w'.cell? ⟨q2, 1, none⟩ = some (.slice (some ⟨eb, eo, none⟩) k ec') ∧ w'.cell? ⟨eb, eo + j * 5 + 3, none⟩ = some (.slice a (n + 1) c) ∧ w'.cell? ⟨b2, o2 + j * 5 + 3, none⟩ = some (.slice wa n wc))
                  (refine ⟨?_, ?_, ?_⟩ <;> (refine cell_on (w := wr) ?_ (by assumption); with_reducible first | exact Below.drew (Below.refl _ _) | exact hbx))
                  ((go_at_call 11; refine (isPlus a wa n (n + 1) c wc es[j].f.nil false es[j].f.bs 165 _ HSM.out ?_ ?_).mono ?_; (with_reducible exact HBG.out.on (Below.drew (Below.refl _ _))); (with_reducible exact HBW.out.on (Below.drew (Below.refl _ _))); rintro e w5 ⟨rfl, hb5⟩; have hbx := bchain (Below.drew (Below.refl _ wr)) hb5))
                have q15 := cell_on hbx q1'
                have e45 := cell_on hbx e4
                have x45 := cell_on hbx x4
                have HBX := hide hbx
                clear hbx hb5 e3 x3 e4 x4 q1'
                go_wp2_with fail
                go_quiet (fail)
                go_wp2
                go_roundw
                case rel => exact ⟨j + 1, by omega, by go_num, bchain (bchain BW.out HBX.out) (by first | exact below_draw _ | exact Below.drew (Below.refl _ _))⟩
                case measure => simp [intOf]; omega
              | some g =>
                rw [hsig] at hsg hrS
                obtain ⟨sb, ga, gl, gc, hps, hEs, hvs, rfl, hgB⟩ := hsg
                obtain ⟨pb, po, rfl, ⟨_, _, _, wa2, wn2, wc2, y3, hwB2, _⟩, _⟩ := hrS
                obtain rfl : wn2 = g.bs.length := hwB2.2.1.symm
                have hgm := hsm2 g hsig
                rw [hps] at e4
                obtain ⟨m, hm⟩ : ∃ m, g.bs.length = m := ⟨_, rfl⟩
                rw [hm] at hgm hgB hwB2 y3 hvs
                have s3 := hvs.cell (i := 3) rfl
                have HGB := hide hgB
                have HWB2 := hide hwB2
                have HGM := hide hgm
                clear hb x2 hrow hB hwB hn v9 hsig hps hsm2 hvs hgB hwB2 hm hEs q1
                go_wp2_with fail
                go_region_held3 (fun w' => w'.cell? ⟨q2, 1, none⟩ = some (.slice (some ⟨eb, eo, none⟩) k ec') ∧ w'.cell? ⟨eb, eo + j * 5 + 3, none⟩ = some (.slice a (n + 1) c) ∧ w'.cell? ⟨b2, o2 + j * 5 + 3, none⟩ = some (.slice wa n wc))
                  (refine ⟨?_, ?_, ?_⟩ <;> (refine cell_on (w := wr) ?_ (by assumption); with_reducible first | exact Below.drew (Below.refl _ _) | exact hbx))
                  ((go_at_call 11; refine (isPlus a wa n (n + 1) c wc es[j].f.nil false es[j].f.bs 165 _ HSM.out ?_ ?_).mono ?_; (with_reducible exact HBG.out.on (Below.drew (Below.refl _ _))); (with_reducible exact HBW.out.on (Below.drew (Below.refl _ _))); rintro e w5 ⟨rfl, hb5⟩; have hbx := bchain (Below.drew (Below.refl _ wr)) hb5))
                have q15 := cell_on hbx q1'
                have e45 := cell_on hbx e4
                have x45 := cell_on hbx x4
                have s35 := cell_on hbx s3
                have y35 := cell_on hbx y3
                have HBX := hide hbx
                have HGB5 := hide (HGB.out.on hbx)
                have HWB5 := hide (HWB2.out.on hbx)
                clear hbx hb5 e3 x3 e4 x4 s3 y3 q1'
                go_wp2_with fail
                go_quiet (fail)
                go_wp2_with fail
                obtain ⟨w6, hW6⟩ : ∃ w6, w5.drewN nq = w6 := ⟨_, rfl⟩
                rw [hW6]
                have hb6 : Below w5.heap.size w5 w6 := by rw [← hW6]; exact below_draw nq
                have q16 := cell_on hb6 q15
                have e46 := cell_on hb6 e45
                have x46 := cell_on hb6 x45
                have s36 := cell_on hb6 s35
                have y36 := cell_on hb6 y35
                have HGB6 := hide (HGB5.out.on hb6)
                have HWB6 := hide (HWB5.out.on hb6)
                have B6 := hide (bchain (bchain BW.out HBX.out) hb6)
                clear hW6 hb6 q15 e45 x45 s35 y35
                go_region_held3 (fun w' => w'.cell? ⟨q2, 1, none⟩ = some (.slice (some ⟨eb, eo, none⟩) k ec') ∧ w'.cell? ⟨eb, eo + j * 5 + 4, none⟩ = some (.pointer (some ⟨sb, 0, none⟩)) ∧ w'.cell? ⟨sb, 3, none⟩ = some (.slice ga (m + 1) gc) ∧ w'.cell? ⟨b2, o2 + j * 5 + 4, none⟩ = some (.pointer (some ⟨pb, po, none⟩)) ∧ w'.cell? ⟨pb, po + 3, none⟩ = some (.slice wa2 m wc2))
                  (refine ⟨?_, ?_, ?_, ?_, ?_⟩ <;> (refine cell_on (w := w6) ?_ (by assumption); with_reducible first | exact Below.drew (Below.refl _ _) | exact hby))
                  ((go_at_call 11; refine (isPlus ga wa2 m (m + 1) gc wc2 g.nil false g.bs 90 _ HGM.out ?_ ?_).mono ?_; (with_reducible exact HGB6.out.on (Below.drew (Below.refl _ _))); (with_reducible exact HWB6.out.on (Below.drew (Below.refl _ _))); rintro e w8 ⟨rfl, hb8⟩; have hby := bchain (Below.drew (Below.refl _ w6)) hb8))
                have B8 := hide (bchain B6.out hby)
                clear hby hb8 q16 e46 x46 s36 y36
                go_wp2
                go_roundw
                case rel => exact ⟨j + 1, by omega, by go_num, B8.out⟩
                case measure => simp [intOf]; omega
            · have Bq : Hid (Below w2.heap.size w2 wr) := (B3.out.trans hbw.out).trans (hb.mono (Nat.le_trans B3.out.size hbw.out.size))
              clear hb q1
              go_wp2_with fail
              have SM := sameMsg q nn ne ss es R na ea nc ec wr (M2.out.on Bq.out) (HS.out.on B0r.out) (HE.out.on B0r.out) L3.out L4.out FIT.out.small.fine
              rw [N2.out] at SM
              refine SM.mono ?_
              rintro e w9 ⟨rfl, hb9⟩
              have B9 := hide (bchain B0r.out hb9)
              clear hb9 SM
              go_wp2
              go_ret
              exact ⟨rfl, B9.out⟩

end Go.Proofs.Qxb6628903a
