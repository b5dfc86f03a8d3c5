/- zzElem (function 14): a fresh element that reads alike. -/
import Derived.Test.Qxb6628903aCopy
import Derived.Deep.RegionHeld3
import Derived.Deep.DeepCutAuto
namespace Go.Proofs.Qxb6628903a
open Go.RowKit

abbrev zero37 : List Value := [.string { data := #[] }, .string { data := #[] }, .string { data := #[] }, .slice none 0 0, .pointer none]

theorem VB.drew {T : TypeId} {B : Nat} {vs : List Value} {w : World} (h : VB T B vs w) : VB T B vs w.drew := ⟨h.heap⟩

theorem info37 : (Try.prog.info? 37).map (·.size) = some 5 := by kernel_rfl

/-- two blocks laid behind a world -/
theorem laid2 (w : World) (xs ys : List Value) (s t : TypeId) :
    VB s w.heap.size xs ((w.alloc (.cells xs.toArray s)).alloc (.cells ys.toArray t)) ∧ VB t (w.heap.size + 1) ys ((w.alloc (.cells xs.toArray s)).alloc (.cells ys.toArray t)) := by
  refine ⟨(VB.new w s xs).on ((Below.refl _ _).alloc (Nat.le_refl _) _), ?_⟩
  have := VB.new (w.alloc (.cells xs.toArray s)) t ys
  simpa using this

theorem below2 (w : World) (A B : Obj) : Below w.heap.size w ((w.alloc A).alloc B) := ((Below.refl _ _).alloc (Nat.le_refl _) _).alloc (by simp) _

set_option maxHeartbeats 1000000 in
theorem elem_plain (f : Flat) (a : Option Addr) (n c : Nat) (w : World) (hn : n ≤ 1048576) (h : Bytes w a n f.nil f.bs) :
    Calls Try.prog 14 #[.agg #[.string f.s0, .string f.s1, .string f.s2, .slice a n c, .pointer none]] w
      fun e w' => ∃ a' c', e = .returned (.agg #[.string f.s0, .string f.s1, .string f.s2, .slice a' n c', .pointer none]) ∧ Bytes w' a' n f.nil f.bs ∧ (a' = none → c' = 0) ∧ Below w.heap.size w w' := by
  generalize f.s0 = s0
  generalize f.s1 = s1
  generalize f.s2 = s2
  obtain ⟨w1, hW⟩ : ∃ w1, (w.alloc (.cells #[.string s0, .string s1, .string s2, .slice a n c, .pointer none] 41)).alloc (.cells #[.string { data := #[] }, .string { data := #[] }, .string { data := #[] }, .slice none 0 0, .pointer none] 37) = w1 := ⟨_, rfl⟩
  have hb := below2 w (.cells #[.string s0, .string s1, .string s2, .slice a n c, .pointer none] 41) (.cells #[.string { data := #[] }, .string { data := #[] }, .string { data := #[] }, .slice none 0 0, .pointer none] 37)
  obtain ⟨v1, v2⟩ := laid2 w [.string s0, .string s1, .string s2, .slice a n c, .pointer none] [.string { data := #[] }, .string { data := #[] }, .string { data := #[] }, .slice none 0 0, .pointer none] 41 37
  rw [hW] at hb
  rw [show (w.alloc (.cells [.string s0, .string s1, .string s2, .slice a n c, .pointer none].toArray 41)).alloc (.cells [.string { data := #[] }, .string { data := #[] }, .string { data := #[] }, .slice none 0 0, .pointer none].toArray 37) = w1 from hW] at v1 v2
  have x0 := v1.cell (i := 0) rfl
  have x1 := v1.cell (i := 1) rfl
  have x2 := v1.cell (i := 2) rfl
  have x3 := v1.cell (i := 3) rfl
  have x4 := v1.cell (i := 4) rfl
  have H1 := hide (h.on hb)
  have HB := hide hb
  have HW := hide hW
  have s1 : w.heap.size + 2 = w1.heap.size := by rw [← hW]; simp
  have ne1 : ¬ w1.heap.size = w.heap.size := by omega
  have S1 := hide s1
  clear s1
  have V2 := hide v2
  clear h hb hW v1 v2
  go_enter Try.func14, Try.ntmps14
  go_wp2_with fail
  rw [HW.out]
  go_cut [3] (fun p wx => ∃ ob a' c', p = .pointer (some ⟨ob, 0, none⟩) ∧ VB 37 ob [.string s0, .string s1, .string s2, .slice a' n c', .pointer none] wx ∧ Bytes wx a' n f.nil f.bs ∧ (∀ x, a' = some x → w1.heap.size ≤ x.block) ∧ (a' = none → c' = 0) ∧ Below w1.heap.size w1 wx ∧ w1.heap.size ≤ ob)
  case first =>
    go_region_held3 (fun w' => w'.cell? ⟨w.heap.size, 0, none⟩ = some (.string s0) ∧ w'.cell? ⟨w.heap.size, 1, none⟩ = some (.string s1) ∧ w'.cell? ⟨w.heap.size, 2, none⟩ = some (.string s2) ∧ w'.cell? ⟨w.heap.size, 3, none⟩ = some (.slice a n c) ∧ w'.cell? ⟨w.heap.size, 4, none⟩ = some (.pointer none))
      (refine ⟨?_, ?_, ?_, ?_, ?_⟩ <;> (refine cell_on (w := w1) ?_ (by assumption); with_reducible first | exact Below.drew (Below.refl _ _) | exact Below.drew (Below.alloc (Below.refl _ _) (Nat.le_refl _) _) | exact hbw | exact Below.alloc hbw hbw.size _ | exact ((((hbw.setCell (Nat.le_refl _) _).setCell (Nat.le_refl _) _).setCell (Nat.le_refl _) _).setCell (Nat.le_refl _) _).setCell (Nat.le_refl _) _))
      ((go_at_call 20; refine (copyBytes _ _ _ f.nil f.bs _ hn ?_).mono ?_; (with_reducible first | exact H1.out.on (Below.drew (Below.refl _ _)) | exact H1.out.on (Below.drew (Below.alloc (Below.refl _ _) (Nat.le_refl _) _))); rintro e w2 ⟨a', c', rfl, hB, hfar, hcap, hb3⟩; (with_reducible first | (have hbw := bchain (Below.drew (Below.refl _ w1)) hb3) | (have hbw := bchain (Below.drew (Below.alloc (Below.refl _ w1) (Nat.le_refl _) (.cells zero37.toArray 37))) hb3; have vb := VB.on (w' := w2) (VB.drew (VB.new w1 37 zero37)) hb3; have e0 := vb.cell (i := 0) rfl; have e1 := vb.cell (i := 1) rfl; have e2 := vb.cell (i := 2) rfl; have e3 := vb.cell (i := 3) rfl; have e4 := vb.cell (i := 4) rfl; have g0 := vb.frozen 0; have g1 := vb.frozen 1; have g2 := vb.frozen 2; have g3 := vb.frozen 3; have g4 := vb.frozen 4))))
    · go_wp2_with fail
      go_meet
      case rel => exact ⟨w2.heap.size, a', c', rfl, VB.new w2 37 _, hB.on (Below.alloc (Below.refl _ _) (Nat.le_refl _) _), (fun x hx => by have := hfar x hx; simpa using this), hcap, Below.alloc hbw hbw.size _, hbw.size⟩
    · go_wp2_with fail
      go_meet
      case rel =>
        have hne : ∀ x, a' = some x → x.block ≠ w1.heap.size := fun x hx => by have := hfar x hx; simp at this; omega
        exact ⟨w1.heap.size, a', c', rfl, ((((vb.put 0 _).put 1 _).put 2 _).put 3 _).put 4 _, ((((hB.far hne _ _).far hne _ _).far hne _ _).far hne _ _).far hne _ _, (fun x hx => by have := hfar x hx; simp at this; omega), hcap, ((((hbw.setCell (Nat.le_refl _) _).setCell (Nat.le_refl _) _).setCell (Nat.le_refl _) _).setCell (Nat.le_refl _) _).setCell (Nat.le_refl _) _, Nat.le_refl _⟩
  case rest =>
    obtain ⟨ob, a', c', rfl, vo, hB, hfo, hco, hbo, hob⟩ := hcut
    have y0 := vo.cell (i := 0) rfl
    have y1 := vo.cell (i := 1) rfl
    have y2 := vo.cell (i := 2) rfl
    have y3 := vo.cell (i := 3) rfl
    have y4 := vo.cell (i := 4) rfl
    have x4' := cell_on hbo x4
    have vr := V2.out.on hbo
    have r0 := vr.cell (i := 0) rfl
    have r1 := vr.cell (i := 1) rfl
    have r2 := vr.cell (i := 2) rfl
    have r3 := vr.cell (i := 3) rfl
    have r4 := vr.cell (i := 4) rfl
    have k0 := vr.frozen 0
    have k1 := vr.frozen 1
    have k2 := vr.frozen 2
    have k3 := vr.frozen 3
    have k4 := vr.frozen 4
    have HV : Hid (VB 37 (w.heap.size + 1) [.string s0, .string s1, .string s2, .slice a' n c', .pointer none] _) := ((((vr.put 0 (.string s0)).put 1 (.string s1)).put 2 (.string s2)).put 3 (.slice a' n c')).put 4 (.pointer none)
    have hne : ∀ x, a' = some x → x.block ≠ w.heap.size + 1 := fun x hx => by have := hfo x hx; have := S1.out; omega
    have HCO := hide hco
    have HBY := hide (((((hB.far hne 0 (.string s0)).far hne 1 (.string s1)).far hne 2 (.string s2)).far hne 3 (.slice a' n c')).far hne 4 (.pointer none))
    have HO := hide (((((((bchain HB.out hbo).setCell (p := ⟨w.heap.size + 1, 0, none⟩) (Nat.le_succ _) (.string s0)).setCell (p := ⟨w.heap.size + 1, 1, none⟩) (Nat.le_succ _) (.string s1)).setCell (p := ⟨w.heap.size + 1, 2, none⟩) (Nat.le_succ _) (.string s2)).setCell (p := ⟨w.heap.size + 1, 3, none⟩) (Nat.le_succ _) (.slice a' n c')).setCell (p := ⟨w.heap.size + 1, 4, none⟩) (Nat.le_succ _) (.pointer none)))
    clear x0 x1 x2 x3 x4 vo vr hB hbo hco
    go_wp2
    exact bodyPost_ret (results_cell_row Try.results14 _ _ (w.heap.size + 1) 37 _ (0, 0) _ rfl HV.out.heap Try.underlying37 rfl info37) rfl ⟨a', c', rfl, HBY.out, HCO.out, HO.out⟩

set_option maxHeartbeats 1000000 in
theorem elem_sig (f g : Flat) (a : Option Addr) (n c pb po : Nat) (w : World) (hn : n ≤ 1048576) (h : Bytes w a n f.nil f.bs) (hg : FlatAt w pb po g) (hgn : g.bs.length ≤ 1048576) :
    Calls Try.prog 14 #[.agg #[.string f.s0, .string f.s1, .string f.s2, .slice a n c, .pointer (some ⟨pb, po, none⟩)]] w
      fun e w' => ∃ a' c' sb a2 n2 c2, e = .returned (.agg #[.string f.s0, .string f.s1, .string f.s2, .slice a' n c', .pointer (some ⟨sb, 0, none⟩)]) ∧ Bytes w' a' n f.nil f.bs ∧ (a' = none → c' = 0) ∧ VB 37 sb [.string g.s0, .string g.s1, .string g.s2, .slice a2 n2 c2, .pointer none] w' ∧ Bytes w' a2 n2 g.nil g.bs ∧ (a2 = none → c2 = 0) ∧ w.heap.size ≤ sb ∧ Below w.heap.size w w' := by
  generalize f.s0 = s0
  generalize f.s1 = s1
  generalize f.s2 = s2
  obtain ⟨w1, hW⟩ : ∃ w1, (w.alloc (.cells #[.string s0, .string s1, .string s2, .slice a n c, .pointer (some ⟨pb, po, none⟩)] 41)).alloc (.cells #[.string { data := #[] }, .string { data := #[] }, .string { data := #[] }, .slice none 0 0, .pointer none] 37) = w1 := ⟨_, rfl⟩
  have hb := below2 w (.cells #[.string s0, .string s1, .string s2, .slice a n c, .pointer (some ⟨pb, po, none⟩)] 41) (.cells #[.string { data := #[] }, .string { data := #[] }, .string { data := #[] }, .slice none 0 0, .pointer none] 37)
  obtain ⟨v1, v2⟩ := laid2 w [.string s0, .string s1, .string s2, .slice a n c, .pointer (some ⟨pb, po, none⟩)] [.string { data := #[] }, .string { data := #[] }, .string { data := #[] }, .slice none 0 0, .pointer none] 41 37
  rw [hW] at hb
  rw [show (w.alloc (.cells [.string s0, .string s1, .string s2, .slice a n c, .pointer (some ⟨pb, po, none⟩)].toArray 41)).alloc (.cells [.string { data := #[] }, .string { data := #[] }, .string { data := #[] }, .slice none 0 0, .pointer none].toArray 37) = w1 from hW] at v1 v2
  have x0 := v1.cell (i := 0) rfl
  have x1 := v1.cell (i := 1) rfl
  have x2 := v1.cell (i := 2) rfl
  have x3 := v1.cell (i := 3) rfl
  have x4 := v1.cell (i := 4) rfl
  have H1 := hide (h.on hb)
  have HG := hide (hg.on hb)
  have HB := hide hb
  have HW := hide hW
  have s1 : w.heap.size + 2 = w1.heap.size := by rw [← hW]; simp
  have ne1 : ¬ w1.heap.size = w.heap.size := by omega
  have S1 := hide s1
  clear s1
  have V2 := hide v2
  clear h hg hb hW v1 v2
  go_enter Try.func14, Try.ntmps14
  go_wp2_with fail
  rw [HW.out]
  go_cut [3] (fun p wx => ∃ ob a' c', p = .pointer (some ⟨ob, 0, none⟩) ∧ VB 37 ob [.string s0, .string s1, .string s2, .slice a' n c', .pointer none] wx ∧ Bytes wx a' n f.nil f.bs ∧ (∀ x, a' = some x → w1.heap.size ≤ x.block) ∧ (a' = none → c' = 0) ∧ Below w1.heap.size w1 wx ∧ w1.heap.size ≤ ob)
  case first =>
    go_region_held3 (fun w' => w'.cell? ⟨w.heap.size, 0, none⟩ = some (.string s0) ∧ w'.cell? ⟨w.heap.size, 1, none⟩ = some (.string s1) ∧ w'.cell? ⟨w.heap.size, 2, none⟩ = some (.string s2) ∧ w'.cell? ⟨w.heap.size, 3, none⟩ = some (.slice a n c) ∧ w'.cell? ⟨w.heap.size, 4, none⟩ = some (.pointer (some ⟨pb, po, none⟩)))
      (refine ⟨?_, ?_, ?_, ?_, ?_⟩ <;> (refine cell_on (w := w1) ?_ (by assumption); with_reducible first | exact Below.drew (Below.refl _ _) | exact Below.drew (Below.alloc (Below.refl _ _) (Nat.le_refl _) _) | exact hbw | exact Below.alloc hbw hbw.size _ | exact ((((hbw.setCell (Nat.le_refl _) _).setCell (Nat.le_refl _) _).setCell (Nat.le_refl _) _).setCell (Nat.le_refl _) _).setCell (Nat.le_refl _) _))
      ((go_at_call 20; refine (copyBytes _ _ _ f.nil f.bs _ hn ?_).mono ?_; (with_reducible first | exact H1.out.on (Below.drew (Below.refl _ _)) | exact H1.out.on (Below.drew (Below.alloc (Below.refl _ _) (Nat.le_refl _) _))); rintro e w2 ⟨a', c', rfl, hB, hfar, hcap, hb3⟩; (with_reducible first | (have hbw := bchain (Below.drew (Below.refl _ w1)) hb3) | (have hbw := bchain (Below.drew (Below.alloc (Below.refl _ w1) (Nat.le_refl _) (.cells zero37.toArray 37))) hb3; have vb := VB.on (w' := w2) (VB.drew (VB.new w1 37 zero37)) hb3; have e0 := vb.cell (i := 0) rfl; have e1 := vb.cell (i := 1) rfl; have e2 := vb.cell (i := 2) rfl; have e3 := vb.cell (i := 3) rfl; have e4 := vb.cell (i := 4) rfl; have g0 := vb.frozen 0; have g1 := vb.frozen 1; have g2 := vb.frozen 2; have g3 := vb.frozen 3; have g4 := vb.frozen 4))))
    · go_wp2_with fail
      go_meet
      case rel => exact ⟨w2.heap.size, a', c', rfl, VB.new w2 37 _, hB.on (Below.alloc (Below.refl _ _) (Nat.le_refl _) _), (fun x hx => by have := hfar x hx; simpa using this), hcap, Below.alloc hbw hbw.size _, hbw.size⟩
    · go_wp2_with fail
      go_meet
      case rel =>
        have hne : ∀ x, a' = some x → x.block ≠ w1.heap.size := fun x hx => by have := hfar x hx; simp at this; omega
        exact ⟨w1.heap.size, a', c', rfl, ((((vb.put 0 _).put 1 _).put 2 _).put 3 _).put 4 _, ((((hB.far hne _ _).far hne _ _).far hne _ _).far hne _ _).far hne _ _, (fun x hx => by have := hfar x hx; simp at this; omega), hcap, ((((hbw.setCell (Nat.le_refl _) _).setCell (Nat.le_refl _) _).setCell (Nat.le_refl _) _).setCell (Nat.le_refl _) _).setCell (Nat.le_refl _) _, Nat.le_refl _⟩
  case rest =>
    obtain ⟨ob, a', c', rfl, vo, hB, hfo, hco, hbo, hob⟩ := hcut
    obtain ⟨q0, q1, q2, ga, gn, gc, q3, hgB, _⟩ := HG.out.on hbo
    have hgn2 : gn ≤ 1048576 := by rw [← hgB.2.1]; exact hgn
    have x4' := cell_on hbo x4
    have VO := hide vo
    have VR := hide (V2.out.on hbo)
    have HBY := hide hB
    have HFO := hide hfo
    have HCO := hide hco
    have HO := hide (bchain HB.out hbo)
    have HGB := hide hgB
    have SO : Hid (w1.heap.size ≤ wc.heap.size) := hbo.size
    have LO : Hid (ob < wc.heap.size) := vo.lt
    clear x0 x1 x2 x3 x4 vo hB hfo hco hbo hgB V2 H1 HG HB ne1
    go_wp2_with fail
    clear x4'
    go_cut [5] (fun p wx => ∃ sb a2 c2, p = .pointer (some ⟨sb, 0, none⟩) ∧ VB 37 sb [.string g.s0, .string g.s1, .string g.s2, .slice a2 gn c2, .pointer none] wx ∧ Bytes wx a2 gn g.nil g.bs ∧ (∀ x, a2 = some x → wc.heap.size ≤ x.block) ∧ (a2 = none → c2 = 0) ∧ Below wc.heap.size wc wx ∧ wc.heap.size ≤ sb)
    case first =>
      go_region_held3 (fun w' => w'.cell? ⟨pb, po, none⟩ = some (.string g.s0) ∧ w'.cell? ⟨pb, po + 1, none⟩ = some (.string g.s1) ∧ w'.cell? ⟨pb, po + 2, none⟩ = some (.string g.s2) ∧ w'.cell? ⟨pb, po + 3, none⟩ = some (.slice ga gn gc))
        (refine ⟨?_, ?_, ?_, ?_⟩ <;> (refine cell_on (w := wc) ?_ (by assumption); with_reducible first | exact Below.drew (Below.refl _ _) | exact Below.drew (Below.alloc (Below.refl _ _) (Nat.le_refl _) _) | exact hbw | exact Below.alloc hbw hbw.size _ | exact ((((hbw.setCell (Nat.le_refl _) _).setCell (Nat.le_refl _) _).setCell (Nat.le_refl _) _).setCell (Nat.le_refl _) _).setCell (Nat.le_refl _) _))
        ((go_at_call 20; refine (copyBytes _ _ _ g.nil g.bs _ hgn2 ?_).mono ?_; (with_reducible first | exact HGB.out.on (Below.drew (Below.refl _ _)) | exact HGB.out.on (Below.drew (Below.alloc (Below.refl _ _) (Nat.le_refl _) _))); rintro e w2 ⟨a2, c2, rfl, hB, hfar, hcap, hb3⟩; (with_reducible first | (have hbw := bchain (Below.drew (Below.refl _ wc)) hb3) | (have hbw := bchain (Below.drew (Below.alloc (Below.refl _ wc) (Nat.le_refl _) (.cells zero37.toArray 37))) hb3; have vb := VB.on (w' := w2) (VB.drew (VB.new wc 37 zero37)) hb3; have e0 := vb.cell (i := 0) rfl; have e1 := vb.cell (i := 1) rfl; have e2 := vb.cell (i := 2) rfl; have e3 := vb.cell (i := 3) rfl; have e4 := vb.cell (i := 4) rfl; have g0 := vb.frozen 0; have g1 := vb.frozen 1; have g2 := vb.frozen 2; have g3 := vb.frozen 3; have g4 := vb.frozen 4))))
      · go_wp2_with fail
        go_meet
        case rel => exact ⟨w2.heap.size, a2, c2, rfl, VB.new w2 37 _, hB.on (Below.alloc (Below.refl _ _) (Nat.le_refl _) _), (fun x hx => by have := hfar x hx; simpa using this), hcap, Below.alloc hbw hbw.size _, hbw.size⟩
      · go_wp2_with fail
        go_meet
        case rel =>
          have hne : ∀ x, a2 = some x → x.block ≠ wc.heap.size := fun x hx => by have := hfar x hx; simp at this; omega
          exact ⟨wc.heap.size, a2, c2, rfl, ((((vb.put 0 _).put 1 _).put 2 _).put 3 _).put 4 _, ((((hB.far hne _ _).far hne _ _).far hne _ _).far hne _ _).far hne _ _, (fun x hx => by have := hfar x hx; simp at this; omega), hcap, ((((hbw.setCell (Nat.le_refl _) _).setCell (Nat.le_refl _) _).setCell (Nat.le_refl _) _).setCell (Nat.le_refl _) _).setCell (Nat.le_refl _) _, Nat.le_refl _⟩
    case rest =>
      rename World => wd
      obtain ⟨sb, a2, c2, rfl, vs, hB2, hfs, hcs, hbs, hsb⟩ := hcut
      have vo := VO.out.on hbs
      have vr := VR.out.on hbs
      have y0 := vo.cell (i := 0) rfl
      have y1 := vo.cell (i := 1) rfl
      have y2 := vo.cell (i := 2) rfl
      have y3 := vo.cell (i := 3) rfl
      have y4 := vo.cell (i := 4) rfl
      have j4 := vo.frozen 4
      have r0 := vr.cell (i := 0) rfl
      have r1 := vr.cell (i := 1) rfl
      have r2 := vr.cell (i := 2) rfl
      have r3 := vr.cell (i := 3) rfl
      have r4 := vr.cell (i := 4) rfl
      have k0 := vr.frozen 0
      have k1 := vr.frozen 1
      have k2 := vr.frozen 2
      have k3 := vr.frozen 3
      have k4 := vr.frozen 4
      have hlt : w.heap.size + 1 < ob := by have := S1.out; omega
      have hlo := LO.out
      have hso := SO.out
      have hs1 := S1.out
      have HV : Hid (VB 37 (w.heap.size + 1) [.string s0, .string s1, .string s2, .slice a' n c', .pointer (some ⟨sb, 0, none⟩)] _) := (((((vr.other (C := ob) 4 (.pointer (some ⟨sb, 0, none⟩)) (by omega)).put 0 (.string s0)).put 1 (.string s1)).put 2 (.string s2)).put 3 (.slice a' n c')).put 4 (.pointer (some ⟨sb, 0, none⟩))
      have hne : ∀ x, a' = some x → x.block ≠ w.heap.size + 1 := fun x hx => by have := HFO.out x hx; omega
      have HBY2 := hide ((((((HBY.out.on hbs).kind vo (by intro z; simp) 4 (.pointer (some ⟨sb, 0, none⟩))).far hne 0 (.string s0)).far hne 1 (.string s1)).far hne 2 (.string s2)).far hne 3 (.slice a' n c') |>.far hne 4 (.pointer (some ⟨sb, 0, none⟩)))
      have hn1 : ∀ x, a2 = some x → x.block ≠ ob := fun x hx => by have := hfs x hx; omega
      have hn2 : ∀ x, a2 = some x → x.block ≠ w.heap.size + 1 := fun x hx => by have := hfs x hx; omega
      have HB2 := hide (((((hB2.far hn1 4 (.pointer (some ⟨sb, 0, none⟩))).far hn2 0 (.string s0)).far hn2 1 (.string s1)).far hn2 2 (.string s2)).far hn2 3 (.slice a' n c') |>.far hn2 4 (.pointer (some ⟨sb, 0, none⟩)))
      have VS := hide (((((vs.other (C := ob) 4 (.pointer (some ⟨sb, 0, none⟩)) (by omega)).other (C := w.heap.size + 1) 0 (.string s0) (by omega)).other (C := w.heap.size + 1) 1 (.string s1) (by omega)).other (C := w.heap.size + 1) 2 (.string s2) (by omega)).other (C := w.heap.size + 1) 3 (.slice a' n c') (by omega) |>.other (C := w.heap.size + 1) 4 (.pointer (some ⟨sb, 0, none⟩)) (by omega))
      have HO2 := hide (((((((bchain HO.out hbs).setCell (p := ⟨ob, 4, none⟩) (show w.heap.size ≤ ob by omega) (.pointer (some ⟨sb, 0, none⟩))).setCell (p := ⟨w.heap.size + 1, 0, none⟩) (Nat.le_succ _) (.string s0)).setCell (p := ⟨w.heap.size + 1, 1, none⟩) (Nat.le_succ _) (.string s1)).setCell (p := ⟨w.heap.size + 1, 2, none⟩) (Nat.le_succ _) (.string s2)).setCell (p := ⟨w.heap.size + 1, 3, none⟩) (Nat.le_succ _) (.slice a' n c')).setCell (p := ⟨w.heap.size + 1, 4, none⟩) (Nat.le_succ _) (.pointer (some ⟨sb, 0, none⟩)))
      have HCS := hide hcs
      have HSB : Hid (w.heap.size ≤ sb) := by show w.heap.size ≤ sb; omega
      clear vo vr vs hB2 hbs q0 q1 q2 q3 hs1 hso hlo hne hn1 hn2 hfs hcs
      go_wp2
      exact bodyPost_ret (results_cell_row Try.results14 _ _ (w.heap.size + 1) 37 _ (0, 0) _ rfl HV.out.heap Try.underlying37 rfl info37) rfl ⟨a', c', sb, a2, gn, c2, rfl, HBY2.out, HCO.out, VS.out, HB2.out, HCS.out, HSB.out, HO2.out⟩

/-- a signature of the call's own: in a block of its own, from K on -/
def SigOwn (w : World) (K : Nat) (p : Option Addr) (sig : Option Flat) : Prop :=
  match sig with
  | none => p = none
  | some g => ∃ sb a n c, p = some ⟨sb, 0, none⟩ ∧ K ≤ sb ∧ VB 37 sb [.string g.s0, .string g.s1, .string g.s2, .slice a n c, .pointer none] w ∧ Bytes w a n g.nil g.bs ∧ (a = none → c = 0)

/-- zzElem: a fresh element that reads alike -/
theorem elem (e : El) (R : Option Addr → Prop) (a : Option Addr) (n c : Nat) (p : Option Addr) (w : World) (hn : n ≤ 1048576) (hg : ∀ g, e.sig = some g → g.bs.length ≤ 1048576) (h : Bytes w a n e.f.nil e.f.bs) (hs : SigIs w R p e.sig) :
    Calls Try.prog 14 #[.agg #[.string e.f.s0, .string e.f.s1, .string e.f.s2, .slice a n c, .pointer p]] w
      fun x w' => ∃ a' c' p', x = .returned (.agg #[.string e.f.s0, .string e.f.s1, .string e.f.s2, .slice a' n c', .pointer p']) ∧ Bytes w' a' n e.f.nil e.f.bs ∧ (a' = none → c' = 0) ∧ SigOwn w' w.heap.size p' e.sig ∧ Below w.heap.size w w' := by
  cases hsig : e.sig with
  | none =>
    rw [hsig] at hs
    obtain rfl : p = none := hs
    refine (elem_plain e.f a n c w hn h).mono ?_
    rintro x w' ⟨a', c', rfl, h1, hc, h2⟩
    exact ⟨a', c', none, rfl, h1, hc, rfl, h2⟩
  | some g =>
    rw [hsig] at hs
    obtain ⟨pb, po, rfl, hf, _⟩ := hs
    refine (elem_sig e.f g a n c pb po w hn h hf (hg g hsig)).mono ?_
    rintro x w' ⟨a', c', sb, a2, n2, c2, rfl, h1, hc, h2, h3, hc2, h4, h5⟩
    exact ⟨a', c', _, rfl, h1, hc, ⟨sb, a2, n2, c2, rfl, h4, h2, h3, hc2⟩, h5⟩

end Go.Proofs.Qxb6628903a
