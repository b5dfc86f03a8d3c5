/- Clone (function 8). -/
import Derived.Test.Qxb6628903aCopied
namespace Go.Proofs.Qxb6628903a
open Go.RowKit

abbrev small22 (m0 m1 : Value) : List Value := [m0, m1, .string { data := #[] }, .string { data := #[] }, .string { data := #[] }, .slice none 0 0, .pointer none, .string { data := #[] }, .string { data := #[] }, .string { data := #[] }, .slice none 0 0, .pointer none, .string { data := #[] }, .string { data := #[] }, .string { data := #[] }, .slice none 0 0, .pointer none, .string { data := #[] }, .string { data := #[] }, .string { data := #[] }, .slice none 0 0, .pointer none]

theorem small22_noInt (a b : Option Addr) (n c m d : Nat) : NoInt (small22 (.slice a n c) (.slice b m d)) := fun z hz => by simp at hz

theorem frozen_on {w w' : World} (hb : Below w.heap.size w w') {a : Addr} (h : a.block < w.heap.size) : w'.frozen? a = w.frozen? a := World.frozen?_of_block (w := w) (hb.block _ h)

theorem OwnStrs.on {K : Nat} {w w' : World} {a : Option Addr} {n : Nat} (h : OwnStrs K w a n) (hb : Below w.heap.size w w') : OwnStrs K w' a n := fun hn => by
  obtain ⟨b, o, h1, h2, h3⟩ := h hn
  refine ⟨b, o, h1, h2, fun i hi => ?_⟩
  obtain ⟨⟨s, hs⟩, hf⟩ := h3 i hi
  exact ⟨⟨s, cell_on hb hs⟩, (frozen_on hb (World.block_lt_of_cell? _ _ hs)).trans hf⟩

theorem Buf.drew {C S : Nat} {cs : List Int} {w : World} (h : Buf C S cs w) : Buf C S cs w.drew := h

theorem RowAt.setp {vs : List Value} {o : Nat} {f : Flat} {a : Option Addr} {n c : Nat} {p : Option Addr} (h : RowAt vs o f a n c p) (p' : Option Addr) : RowAt (vs.set (o + 4) (.pointer p')) o f a n c p' := by
  obtain ⟨h0, h1, h2, h3, h4⟩ := h
  exact ⟨by rw [List.getElem?_set_ne (by omega)]; exact h0, by rw [List.getElem?_set_ne (by omega)]; exact h1, by rw [List.getElem?_set_ne (by omega)]; exact h2, by rw [List.getElem?_set_ne (by omega)]; exact h3, List.getElem?_set_self (List.getElem?_eq_some_iff.1 h4).1⟩

theorem mk35b (S : Nat) (hS : S ≤ 1048576) (w : World) :
    (Instr.makeSlice 35 (.int .i64 0) (.int .i64 (S : Int))).run Try.prog w = .ok (.slice (some ⟨w.heap.size, 0, none⟩) 0 S) (w.alloc (.cells (List.replicate S (.int .u8 0)).toArray 5)) := by
  obtain ⟨i, hi, hzz⟩ := Option.map_eq_some_iff.1 info5
  simp only [Prod.mk.injEq] at hzz
  obtain ⟨hz, hs, hb⟩ := hzz
  have hr := run_make (P := Try.prog) w 35 5 i (.int .u8 0) Try.underlying35 hi hz .i64 .i64 0 S (Int.le_refl _) (by omega) (by rw [hb]; omega) (by omega)
  simp only [Int.toNat_natCast, hs] at hr
  rw [hr, show Value.cells (.int .u8 0) = #[.int .u8 0] from rfl, Nat.mul_one, made_rep]
  rfl

theorem Buf.new (w : World) (S : Nat) (hS : S ≤ 1048576) : Buf w.heap.size S [] (w.alloc (.cells (List.replicate S (.int .u8 0)).toArray 5)) :=
  ⟨rfl, .inr ⟨w.heap.size, S, _, rfl, Nat.le_refl _, heap_alloc_new w _, Nat.zero_le _, by unfold maxLen; omega, by simp, by simp⟩⟩

theorem cell_put5 {w : World} {q eb o i : Nat} {v x0 x1 x2 x3 x4 : Value} (h : w.cell? ⟨q, i, none⟩ = some v) (hne : q ≠ eb ∨ i < o) : (put5 w eb o x0 x1 x2 x3 x4).cell? ⟨q, i, none⟩ = some v := by
  have hn : ∀ d, (⟨eb, o + d, none⟩ : Addr) ≠ ⟨q, i, none⟩ := fun d e => by
    obtain ⟨e1, e2, _⟩ := Addr.mk.inj e
    omega
  unfold put5
  rw [World.cell?_setCell_other _ _ _ _ (hn 4), World.cell?_setCell_other _ _ _ _ (hn 3), World.cell?_setCell_other _ _ _ _ (hn 2), World.cell?_setCell_other _ _ _ _ (hn 1), World.cell?_setCell_other _ _ _ _ (show (⟨eb, o, none⟩ : Addr) ≠ ⟨q, i, none⟩ from hn 0)]
  exact h

section
variable {w : World} {K q T eb eo V C S E : Nat} {m0 m1 : Value} {es : List El} {k : Nat} {cs : List Int} {vs : List Value} {ps : Nat → Option Addr}

theorem Copied.put5' (h : Copied w K q T eb eo V C S E m0 m1 es k cs vs ps) {o : Nat} (ho : o = eo + k * 5) {x0 x1 x2 x3 x4 : Value} (h0 : ∀ z, x0 ≠ .int .u8 z) (h1 : ∀ z, x1 ≠ .int .u8 z) (h2 : ∀ z, x2 ≠ .int .u8 z) (h3 : ∀ z, x3 ≠ .int .u8 z) (h4 : ∀ z, x4 ≠ .int .u8 z) :
    Copied (Qxb6628903a.put5 w eb o x0 x1 x2 x3 x4) K q T eb eo V C S E m0 m1 es k cs (set5 vs o x0 x1 x2 x3 x4) ps := by
  subst ho
  exact h.put5 h0 h1 h2 h3 h4

theorem Copied.finish' (h : Copied w K q T eb eo V C S E m0 m1 es k cs vs ps) (hk : k < es.length) {o : Nat} (ho : o = eo + k * 5) {a p : Option Addr} (hr : RowAt vs o es[k].f a es[k].f.bs.length es[k].f.bs.length p) (hp : Piece C cs es[k].f a) (hs : SigBox w E C cs p es[k].sig)
    (hfr : p ≠ none → ∀ i, i < k → ps i ≠ p) : Copied w K q T eb eo V C S E m0 m1 es (k + 1) cs vs (fun i => if i = k then p else ps i) := by
  subst ho
  exact h.finish hk hr hp hs hfr

end

/-- the blocks below K are w0's, those from A to B are w3's -/
structure Kept (K A B : Nat) (w0 w3 wl : World) : Prop where
  b : Below K w0 wl
  s : B ≤ wl.heap.size
  m : ∀ b, A ≤ b → b < B → wl.heap[b]? = w3.heap[b]?

theorem Kept.but {K A B V C : Nat} {w0 w3 wl w' : World} (h : Kept K A B w0 w3 wl) (hb : But V C wl w') (h1 : V < A) (h2 : C < A) (h3 : K ≤ V) (h4 : K ≤ C) (h5 : K ≤ B) : Kept K A B w0 w3 w' :=
  have hs := h.s
  ⟨h.b.trans (hb.below h3 h4 (by omega)), Nat.le_trans h.s hb.size, fun b hA hB => (hb.block b (by omega) (by omega) (by omega)).trans (h.m b hA hB)⟩

theorem Kept.on {K A B : Nat} {w0 w3 wl w' : World} (h : Kept K A B w0 w3 wl) (hb : Below wl.heap.size wl w') (h5 : K ≤ B) : Kept K A B w0 w3 w' :=
  have hs := h.s
  ⟨h.b.trans (hb.mono (by omega)), Nat.le_trans h.s hb.size, fun b hA hB => (hb.block b (by omega)).trans (h.m b hA hB)⟩

theorem Kept.set {K A B : Nat} {w0 w3 wl : World} (h : Kept K A B w0 w3 wl) {E : Nat} (hE : B ≤ E) (h5 : K ≤ B) (o : Nat) (v : Value) : Kept K A B w0 w3 (wl.setCell ⟨E, o, none⟩ v) :=
  ⟨h.b.setCell (p := ⟨E, o, none⟩) (show K ≤ E by omega) v, Nat.le_trans h.s ((Below.refl E wl).setCell (p := ⟨E, o, none⟩) (Nat.le_refl _) v).size, fun b hA hB => (heap_setCell_other _ _ _ _ (show b ≠ E by omega)).trans (h.m b hA hB)⟩

theorem Kept.put5 {K A B : Nat} {w0 w3 wl : World} (h : Kept K A B w0 w3 wl) {E : Nat} (hE : B ≤ E) (h5 : K ≤ B) (o : Nat) (x0 x1 x2 x3 x4 : Value) : Kept K A B w0 w3 (Qxb6628903a.put5 wl E o x0 x1 x2 x3 x4) :=
  ((((h.set hE h5 o x0).set hE h5 (o + 1) x1).set hE h5 (o + 2) x2).set hE h5 (o + 3) x3).set hE h5 (o + 4) x4

theorem Kept.strs {K A n : Nat} {w0 w3 wl : World} {a : Option Addr} {nn : Bool} {ss : List ByteArray} (h : Kept K A w3.heap.size w0 w3 wl) (hK : K ≤ A) (hs : Strs w3 a n nn ss) (ho : OwnStrs A w3 a n) : Strs wl a n nn ss ∧ OwnStrs K wl a n := by
  have hcell : ∀ b o v, A ≤ b → w3.cell? ⟨b, o, none⟩ = some v → wl.cell? ⟨b, o, none⟩ = some v ∧ wl.frozen? ⟨b, o, none⟩ = w3.frozen? ⟨b, o, none⟩ := fun b o v hA hc => by
    have hh := h.m b hA (World.block_lt_of_cell? _ _ hc)
    exact ⟨by rw [World.cell?_of_block (w := w3) (a := ⟨b, o, none⟩) hh]; exact hc, World.frozen?_of_block (w := w3) (a := ⟨b, o, none⟩) hh⟩
  refine ⟨⟨hs.1, hs.2.1, fun hne => ?_⟩, fun hn => ?_⟩
  · obtain ⟨b, o, h1, h2⟩ := hs.2.2 hne
    obtain ⟨b', o', h1', hA, _⟩ := ho (by rw [← hs.2.1]; exact List.length_pos_iff.2 hne)
    have hbb : b = b' := by rw [h1] at h1'; cases h1'; rfl
    exact ⟨b, o, h1, fun i hi => (hcell b _ _ (by omega) (h2 i hi)).1⟩
  · obtain ⟨b, o, h1, hA, h2⟩ := ho hn
    refine ⟨b, o, h1, Nat.le_trans hK hA, fun i hi => ?_⟩
    obtain ⟨⟨s, hs⟩, hf⟩ := h2 i hi
    exact ⟨⟨s, (hcell b _ _ hA hs).1⟩, (hcell b _ _ hA hs).2.trans hf⟩

set_option maxHeartbeats 8000000 in
theorem clone_some (q0 : Nat) (ss : List ByteArray) (es : List El) (nn : Bool) (na : Option Addr) (x : Addr) (nc ec : Nat) (w : World)
    (c0 : w.cell? ⟨q0, 0, none⟩ = some (.slice na ss.length nc)) (c1 : w.cell? ⟨q0, 1, none⟩ = some (.slice (some x) es.length ec)) (hs : Strs w na ss.length nn ss) (he : Els w (· = none) (some x) es.length false es) (hf : Fit ss es) :
    Calls Try.prog 8 #[.pointer (some ⟨q0, 0, none⟩)] w fun e w' => ∃ q na' ea' nc' ec', e = .returned (.pointer (some ⟨q, 0, none⟩)) ∧ Cloned w.heap.size w' q nn false ss es na' ea' nc' ec' ∧ Below w.heap.size w w' := by
  have h1 := nil31
  have l1 := hf.ns
  have l2 := hf.el
  have HF := hide hf
  have HS := hide hs
  have HE := hide he
  clear hs he hf
  obtain ⟨n1, hn1⟩ : ∃ n, ss.length = n := ⟨_, rfl⟩
  obtain ⟨n2, hn2⟩ : ∃ n, es.length = n := ⟨_, rfl⟩
  rw [hn1] at l1 c0
  rw [hn2] at l2 c1
  have N1 := hide hn1
  have N2 := hide hn2
  clear hn1 hn2
  have hq0 : q0 < w.heap.size := World.block_lt_of_cell? _ _ c0
  go_enter Try.func8, Try.ntmps8
  go_wp2
  go_loopw [3, 19, 5] (fun s i _ wr => ∃ (k : Nat) (t : Int), k ≤ n2 ∧ i = .int .i64 k ∧ s = .int .i64 t ∧ 0 ≤ t ∧ t ≤ 1048576 ∧ Hid (t = csum (es.take k)) ∧ Below w.heap.size w wr) (fun _ i _ _ => n2 - (intOf i).toNat)
  case atStart => exact ⟨0, 0, Nat.zero_le _, rfl, rfl, Int.le_refl _, by decide, rfl, Below.refl _ _⟩
  case round =>
    obtain ⟨k, t, hk, rfl, rfl, ht0, ht1, hts, hb⟩ := hrel
    by_cases hlt : k < n2
    · have j1 : (k : Int) < (n2 : Int) := by omega
      have hne : es ≠ [] := by intro h; have := N2.out; rw [h] at this; simp at this; omega
      obtain ⟨b2, o2, hx, x2⟩ := HE.out.2.2 hne
      obtain rfl : x = ⟨b2, o2, none⟩ := Option.some.inj hx
      have hk2 : k < es.length := by rw [N2.out]; exact hlt
      have hb2 : b2 < w.heap.size := World.block_lt_of_cell? _ _ (x2 k hk2).1.1
      obtain ⟨⟨r0, r1, r2, ra, rn, rc, r3, hrB, _⟩, rs, r4, hrS⟩ := (x2 k hk2).on hb
      obtain rfl : rn = es[k].f.bs.length := hrB.2.1.symm
      have hsum := csum_snoc hk2
      have hle : csum (es.take (k + 1)) ≤ 1048576 := by
        have := HF.out.sum
        rw [← List.take_append_drop (k + 1) es, csum_append] at this
        omega
      unfold El.bytes at hsum
      cases hsig : es[k].sig with
      | none =>
        rw [hsig] at hrS hsum
        dsimp only at hsum
        obtain rfl : rs = none := hrS
        obtain ⟨m, hm⟩ : ∃ m, es[k].f.bs.length = m := ⟨_, rfl⟩
        rw [hm] at r3 hsum
        have hts' := hts.out
        have g1 : t + (m : Int) ≤ 1048576 := by simp at hsum; omega
        have HN : Hid (t + (m : Int) = csum (es.take (k + 1))) := by simp at hsum; show _ = _; omega
        have HBB := hide hb
        have HSZ := hide hb.size
        clear x2 hne hrB hx hsum hle hts' hm hsig hb
        go_wp2
        go_roundw
        case rel => exact ⟨k + 1, t + m, by omega, by go_num, by go_num, by omega, by omega, HN.out, HBB.out.alloc HSZ.out _⟩
        case measure => simp [intOf]; omega
      | some g =>
        rw [hsig] at hrS hsum
        dsimp only at hsum
        obtain ⟨pb, po, rfl, ⟨_, _, _, ga, gn, gc, g3, hgB, _⟩, _⟩ := hrS
        obtain rfl : gn = g.bs.length := hgB.2.1.symm
        have hpb : pb < wr.heap.size := World.block_lt_of_cell? _ _ g3
        obtain ⟨m, hm⟩ : ∃ m, es[k].f.bs.length = m := ⟨_, rfl⟩
        obtain ⟨m2, hm2⟩ : ∃ m, g.bs.length = m := ⟨_, rfl⟩
        rw [hm] at r3 hsum
        rw [hm2] at g3 hsum
        have hts' := hts.out
        have g1 : t + (m : Int) + (m2 : Int) ≤ 1048576 := by omega
        have HN : Hid (t + (m : Int) + (m2 : Int) = csum (es.take (k + 1))) := by show _ = _; omega
        have HBB := hide hb
        have HSZ := hide hb.size
        clear x2 hne hrB hx hsum hle hts' hm hm2 hsig hb hgB
        go_wp2
        go_roundw
        case rel => exact ⟨k + 1, t + m + m2, by omega, by go_num, by go_num, by omega, by omega, HN.out, HBB.out.alloc HSZ.out _⟩
        case measure => simp [intOf]; omega
    · obtain ⟨wz, hwz⟩ : ∃ wz, wz = wr := ⟨_, rfl⟩
      subst hwz
      obtain rfl : k = n2 := by omega
      have hbb := hb
      have c0' := cell_on hbb c0
      have c1' := cell_on hbb c1
      have S1 : Hid (csum (es.take k) = csum es) := by show _ = _; rw [List.take_of_length_le (by rw [N2.out]; exact Nat.le_refl _)]
      obtain ⟨S, hS⟩ : ∃ S, csum es = S := ⟨_, rfl⟩
      obtain rfl : t = (S : Int) := by rw [hts.out, S1.out, hS]
      have hSle : S ≤ 1048576 := by omega
      have hmk := mk35b S hSle
      have hbS := Buf.new wz S hSle
      have hB1 := Below.alloc (Below.refl wz.heap.size wz) (Nat.le_refl _) (.cells (List.replicate S (.int .u8 0)).toArray 5)
      have hB2 := below2 wz (.cells (List.replicate S (.int .u8 0)).toArray 5) (.cells [.slice (some ⟨wz.heap.size, 0, none⟩) 0 S].toArray 35)
      have hV := (laid2 wz (List.replicate S (.int .u8 0)) [.slice (some ⟨wz.heap.size, 0, none⟩) 0 S] 5 35).2
      obtain ⟨w2, hW⟩ : ∃ w2, (wz.alloc (.cells (List.replicate S (.int .u8 0)).toArray 5)).alloc (.cells [.slice (some ⟨wz.heap.size, 0, none⟩) 0 S].toArray 35) = w2 := ⟨_, rfl⟩
      have hW' : (wz.alloc (.cells (Array.replicate S (.int .u8 0)) 5)).alloc (.cells #[.slice (some ⟨wz.heap.size, 0, none⟩) 0 S] 35) = w2 := by rw [← hW]; simp
      have hC : Buf wz.heap.size S [] w2 := hbS.keep (by rw [← hW]; exact (Below.alloc (Below.refl (wz.heap.size + 1) _) (by simp) _).block _ (by omega))
      have hsz2 : w2.heap.size = wz.heap.size + 2 := by rw [← hW]; simp
      rw [hW] at hB2 hV
      have HW := hide hW'
      have hq1 : q0 < wz.heap.size := Nat.lt_of_lt_of_le hq0 hb.size
      have hq2 : ¬ q0 = wz.heap.size + 1 := by omega
      have HB2 := hide hB2
      have HV := hide hV
      have HC := hide hC
      have HBR := hide hb
      have HSUM : Hid (csum es = S) := hS
      have HSZ2 := hide hsz2
      clear hb hbb hts hS hbS hB1 hB2 hV hC hsz2 hW hW'
      go_wp2_with fail
      rw [HW.out]
      refine (slClone na n1 nc nn ss w2 (by omega) (by have := HS.out.on (bchain HBR.out HB2.out); rw [N1.out] at this; exact this)).mono ?_
      rintro e w3 ⟨a', c', rfl, hS3, hO3, hb3⟩
      have HB3 := hide (bchain HBR.out (bchain HB2.out hb3))
      have hsz3 : wz.heap.size + 2 ≤ w3.heap.size := by have := hb3.size; rw [HSZ2.out] at this; exact this
      have HV3 := hide (HV.out.on hb3)
      have HC3 := hide (HC.out.keep (hb3.block _ HC.out.lt))
      have d0 := cell_on HB3.out c0
      have d1 := cell_on HB3.out c1
      have hq3 : q0 < w3.heap.size := by omega
      have HS3 := hide hS3
      have HO3 : Hid (OwnStrs (wz.heap.size + 2) w3 a' n1) := by rw [← HSZ2.out]; exact hO3
      have HB23 := hide hb3
      have hmk31 := mk31 k (by omega)
      clear hS3 hO3 hb3 hmk c0' c1' hq1 hq2
      by_cases h4 : k ≤ 4
      · have h4' : (k : Int) ≤ 4 := by omega
        have hbw4 := below2 w3 (.cells ([.slice a' n1 c', .slice none 0 0]).toArray 33) (.cells (small22 (.slice a' n1 c') (.slice (some ⟨w3.heap.size + 1, 2, none⟩) k k)).toArray 50)
        obtain ⟨u4, v4⟩ := laid2 w3 ([.slice a' n1 c', .slice none 0 0]) (small22 (.slice a' n1 c') (.slice (some ⟨w3.heap.size + 1, 2, none⟩) k k)) 33 50
        obtain ⟨w4, hW4⟩ : ∃ w4, (w3.alloc (.cells ([.slice a' n1 c', .slice none 0 0]).toArray 33)).alloc (.cells (small22 (.slice a' n1 c') (.slice (some ⟨w3.heap.size + 1, 2, none⟩) k k)).toArray 50) = w4 := ⟨_, rfl⟩
        have hsz4 : w4.heap.size = w3.heap.size + 2 := by rw [← hW4]; simp
        rw [hW4] at hbw4 v4 u4
        have HCP : Hid (Copied w4 w.heap.size (w3.heap.size + 1) 50 (w3.heap.size + 1) 2 (wz.heap.size + 1) wz.heap.size S (w3.heap.size + 2) (.slice a' n1 c') (.slice (some ⟨w3.heap.size + 1, 2, none⟩) k k) es 0 [] (small22 (.slice a' n1 c') (.slice (some ⟨w3.heap.size + 1, 2, none⟩) k k)) (fun _ => none)) :=
          { v := v4
            b := HC3.out.keep (hbw4.block _ HC3.out.lt)
            f := HV3.out.on hbw4
            q0 := v4.cell rfl
            q1 := v4.cell rfl
            qb := ⟨_, _, v4⟩
            ni := small22_noInt _ _ _ _ _ _
            len := by rw [N2.out]; simp; omega
            rows := fun i _ hi => absurd hi (Nat.not_lt_zero i)
            inj := fun i j _ hj => absurd hj (Nat.not_lt_zero j)
            n1 := by omega
            n2 := by omega
            n3 := by omega
            n4 := by omega
            k1 := by have := HBR.out.size; omega
            k2 := HBR.out.size
            k3 := by have := HBR.out.size; omega
            c1 := by omega
            c2 := by omega
            c3 := by omega
            c4 := by omega
            c5 := by omega
            m := .inr (Nat.le_refl _)
            e := by omega }
        have HKP : Hid (Kept w.heap.size (wz.heap.size + 2) w3.heap.size w w3 w4) := ⟨bchain HB3.out hbw4, by omega, fun b _ hb => hbw4.block b hb⟩
        have HW4 := hide hW4
        have hKr := HBR.out.size
        have KQ : Hid (w.heap.size ≤ (w3.heap.size + 1)) := by show w.heap.size ≤ (w3.heap.size + 1); omega
        clear hbw4 v4 u4 hW4
        go_wp2
        rw [HW4.out]
        go_loopw [96] (fun i wl => ∃ (j : Nat) (cs : List Int) (vs : List Value) (ps : Nat → Option Addr), j ≤ k ∧ i = .int .i64 j ∧ Hid (Copied wl w.heap.size (w3.heap.size + 1) 50 (w3.heap.size + 1) 2 (wz.heap.size + 1) wz.heap.size S (w3.heap.size + 2) (.slice a' n1 c') (.slice (some ⟨w3.heap.size + 1, 2, none⟩) k k) es j cs vs ps) ∧ Hid (cs.length = csum (es.take j)) ∧ Hid (Kept w.heap.size (wz.heap.size + 2) w3.heap.size w w3 wl)) (fun i _ => k - (intOf i).toNat)
        case atStart => exact ⟨0, [], _, _, Nat.zero_le _, rfl, HCP.out, rfl, HKP.out⟩
        case round =>
          obtain ⟨j, cs, vs, ps, hj, rfl, hcp, hcs, hkp⟩ := hrel
          by_cases hlt : j < k
          · have j1 : (j : Int) < (k : Int) := by omega
            have hne : es ≠ [] := by intro h; have := N2.out; rw [h] at this; simp at this; omega
            obtain ⟨b2, o2, hx, x2⟩ := HE.out.2.2 hne
            obtain rfl : x = ⟨b2, o2, none⟩ := Option.some.inj hx
            have hk2 : j < es.length := by rw [N2.out]; exact hlt
            have hb2 : b2 < w.heap.size := World.block_lt_of_cell? _ _ (x2 j hk2).1.1
            obtain ⟨⟨r0, r1, r2, ra, rn, rc, r3, hrB, hrc⟩, rs, r4, hrS⟩ := x2 j hk2
            replace r0 := cell_on hkp.out.b r0
            replace r1 := cell_on hkp.out.b r1
            replace r2 := cell_on hkp.out.b r2
            replace r3 := cell_on hkp.out.b r3
            replace r4 := cell_on hkp.out.b r4
            obtain rfl : rn = es[j].f.bs.length := hrB.2.1.symm
            have hsum := csum_snoc hk2
            have hle : csum (es.take (j + 1)) ≤ S := by
              have := HSUM.out
              rw [← List.take_append_drop (j + 1) es, csum_append] at this
              omega
            unfold El.bytes at hsum
            have hcs' := hcs.out
            have hwl := hcp.out.e
            have hb5 := Below.alloc (Below.refl wr.heap.size wr) (Nat.le_refl _) (.cells [.string es[j].f.s0, .string es[j].f.s1, .string es[j].f.s2, .slice ra es[j].f.bs.length rc, .pointer rs].toArray 37)
            have v5 := VB.new wr 37 [.string es[j].f.s0, .string es[j].f.s1, .string es[j].f.s2, .slice ra es[j].f.bs.length rc, .pointer rs]
            obtain ⟨w5, hW5⟩ : ∃ w5, wr.alloc (.cells #[.string es[j].f.s0, .string es[j].f.s1, .string es[j].f.s2, .slice ra es[j].f.bs.length rc, .pointer rs] 37) = w5 := ⟨_, rfl⟩
            have hsz5 : w5.heap.size = wr.heap.size + 1 := by rw [← hW5]; simp
            rw [hW5] at hb5 v5
            have HC5 := hide (hcp.out.on hb5)
            have HK5 := hide (hkp.out.on hb5 (by omega))
            have HB5 := hide ((hrB.on hkp.out.b).on hb5)
            have z0 := v5.cell (i := 0) rfl
            have z1 := v5.cell (i := 1) rfl
            have z2 := v5.cell (i := 2) rfl
            have z3 := v5.cell (i := 3) rfl
            have z4 := v5.cell (i := 4) rfl
            have zq := HC5.out.q1
            have A1 : (w3.heap.size + 1) ≠ (wz.heap.size + 1) := hcp.out.c4
            have A2 : (w3.heap.size + 1) ≠ wz.heap.size := hcp.out.c3
            have A3 : wr.heap.size ≠ (wz.heap.size + 1) := by omega
            have A4 : wr.heap.size ≠ wz.heap.size := by omega
            have HA1 := hide A1
            have HA2 := hide A2
            have HA3 := hide A3
            have HA4 := hide A4
            have hfit : cs.length + es[j].f.bs.length ≤ S := by omega
            have HFIT := hide hfit
            have HRC := hide hrc
            have hlen := hcp.out.len
            have hby : 2 + j * 5 + 4 < vs.length := by omega
            obtain ⟨y0, y1, y2, y3, y4, hy⟩ := five (vs := vs) (o := 2 + j * 5) hby
            have HY := hide hy
            have HW5 := hide hW5
            have HRS := hide hrS
            have HSM := hide hsum
            have HLE := hide hle
            have HVL := hide hby
            have ne1 : ¬ w3.heap.size + 1 = wr.heap.size := by omega
            clear x2 hne hrB hx hsum hle hcs' hW5 hrS hb5 v5 A1 A2 A3 A4 hfit hrc hlen hy hby
            go_wp2_with fail
            rw [HW5.out]
            go_region_held3 (fun w' => w'.cell? ⟨(w3.heap.size + 1), 1, none⟩ = some (.slice (some ⟨w3.heap.size + 1, 2, none⟩) k k) ∧
                w'.cell? ⟨wr.heap.size, 0, none⟩ = some (.string es[j].f.s0) ∧ w'.cell? ⟨wr.heap.size, 1, none⟩ = some (.string es[j].f.s1) ∧ w'.cell? ⟨wr.heap.size, 2, none⟩ = some (.string es[j].f.s2) ∧ w'.cell? ⟨wr.heap.size, 3, none⟩ = some (.slice ra es[j].f.bs.length rc) ∧ w'.cell? ⟨wr.heap.size, 4, none⟩ = some (.pointer rs))
              (first | (refine ⟨?_, ?_, ?_, ?_, ?_, ?_⟩ <;> (refine cell_but (V := (wz.heap.size + 1)) (C := wz.heap.size) (w := w5) ?_ (by assumption) (by with_reducible first | exact HA1.out | exact HA3.out) (by with_reducible first | exact HA2.out | exact HA4.out); with_reducible first | exact But.of (Below.drew (Below.refl _ _)) | exact hbw)) | (refine ⟨?_, ?_, ?_, ?_, ?_, ?_⟩ <;> (refine cell_put5 (w := w6) ?_ ?_; (refine cell_but (V := (wz.heap.size + 1)) (C := wz.heap.size) (w := w5) hbw (by assumption) (by with_reducible first | exact HA1.out | exact HA3.out) (by with_reducible first | exact HA2.out | exact HA4.out)); (first | exact .inr (by omega) | exact .inl (by omega)))) | go_keep)
              ((go_at_call 15; refine (clos (wz.heap.size + 1) wz.heap.size S cs es[j].f ra es[j].f.bs.length rc rs _ ?_ HRC.out ?_ ?_ HC5.out.c5 HFIT.out hSle).mono ?_; (with_reducible exact HB5.out.on (Below.drew (Below.refl _ _))); (with_reducible exact HC5.out.f.drew); (with_reducible exact HC5.out.b.drew); rintro e w6 ⟨a2, rfl, hP2, hB2, hV2, hbt⟩; have hbw := (But.of (V := (wz.heap.size + 1)) (C := wz.heap.size) (Below.drew (Below.refl _ w5))).trans hbt; have cp6 := HC5.out.but hbw es[j].f.bs hB2 hV2; have e0 := cp6.v.cell HY.out.1; have e1 := cp6.v.cell HY.out.2.1; have e2 := cp6.v.cell HY.out.2.2.1; have e3 := cp6.v.cell HY.out.2.2.2.1; have e4 := cp6.v.cell HY.out.2.2.2.2; have g0 := cp6.v.frozen (2 + j * 5); have g1 := cp6.v.frozen (2 + j * 5 + 1); have g2 := cp6.v.frozen (2 + j * 5 + 2); have g3 := cp6.v.frozen (2 + j * 5 + 3); have g4 := cp6.v.frozen (2 + j * 5 + 4)))
            have hsz6 := hbw.size
            have K6 := HK5.out.but hbw (by omega) (by omega) (by omega) (by omega) (by omega)
            have C7 := cp6.put5' (o := 2 + j * 5) (by omega) (x0 := .string es[j].f.s0) (x1 := .string es[j].f.s1) (x2 := .string es[j].f.s2) (x3 := .slice a2 es[j].f.bs.length es[j].f.bs.length) (x4 := .pointer rs) (by simp) (by simp) (by simp) (by simp) (by simp)
            have K7 := K6.put5 (E := w3.heap.size + 1) (Nat.le_succ _) (by omega) (2 + j * 5) (.string es[j].f.s0) (.string es[j].f.s1) (.string es[j].f.s2) (.slice a2 es[j].f.bs.length es[j].f.bs.length) (.pointer rs)
            have R7 := RowAt.new (vs := vs) (o := 2 + j * 5) (f := es[j].f) (a := a2) (n := es[j].f.bs.length) (c := es[j].f.bs.length) (p := rs) HVL.out
            have z4' := cell_put5 (eb := w3.heap.size + 1) (o := 2 + j * 5) (x0 := .string es[j].f.s0) (x1 := .string es[j].f.s1) (x2 := .string es[j].f.s2) (x3 := .slice a2 es[j].f.bs.length es[j].f.bs.length) (x4 := .pointer rs) (cell_but hbw z4 HA3.out HA4.out) (.inl (by omega))
            obtain ⟨w7, hW7⟩ : ∃ w7, ((((w6.setCell ⟨w3.heap.size + 1, 2 + j * 5, none⟩ (.string es[j].f.s0)).setCell ⟨w3.heap.size + 1, 2 + j * 5 + 1, none⟩ (.string es[j].f.s1)).setCell ⟨w3.heap.size + 1, 2 + j * 5 + 2, none⟩ (.string es[j].f.s2)).setCell ⟨w3.heap.size + 1, 2 + j * 5 + 3, none⟩ (.slice a2 es[j].f.bs.length es[j].f.bs.length)).setCell ⟨w3.heap.size + 1, 2 + j * 5 + 4, none⟩ (.pointer rs) = w7 := ⟨_, rfl⟩
            rw [hW7]
            rw [show put5 w6 (w3.heap.size + 1) (2 + j * 5) (.string es[j].f.s0) (.string es[j].f.s1) (.string es[j].f.s2) (.slice a2 es[j].f.bs.length es[j].f.bs.length) (.pointer rs) = w7 from hW7] at C7 K7 z4'
            have HC7 := hide C7
            have HK7 := hide K7
            have HR7 := hide R7
            have HP2 := hide hP2
            clear C7 K7 R7 hP2 hB2 hV2 hbt cp6 e0 e1 e2 e3 e4 g0 g1 g2 g3 g4 hW7 z0 z1 z2 z3 z4 zq r0 r1 r2 r3 r4 K6 hsz6
            cases hsig : es[j].sig with
            | none =>
              have hs := HRS.out
              rw [hsig] at hs
              obtain rfl : rs = none := hs
              have hsm := HSM.out
              rw [hsig] at hsm
              have HF8 := hide (HC7.out.finish' hk2 (o := 2 + j * 5) (by omega) HR7.out HP2.out (by rw [hsig]; rfl) (fun h => absurd rfl h))
              have HL8 : Hid ((cs ++ es[j].f.bs).length = csum (es.take (j + 1))) := by show _ = _; rw [List.length_append, hsm, hcs.out]; rfl
              clear hsm hsig
              go_wp2
              go_roundw
              case rel => exact ⟨j + 1, _, _, _, by omega, by go_num, HF8.out, HL8.out, HK7.out⟩
              case measure => simp [intOf]; omega
            | some g =>
              have hs := HRS.out
              rw [hsig] at hs
              obtain ⟨pb, po, rfl, hF, r, rfl, hc4⟩ := hs
              obtain ⟨q0', q1', q2', ga, gn, gc, q3', hgB, hgc⟩ := hF.on HK7.out.b
              have q4' := cell_on HK7.out.b hc4
              obtain rfl : gn = g.bs.length := hgB.2.1.symm
              have hsm := HSM.out
              rw [hsig] at hsm
              dsimp only at hsm
              have hle := HLE.out
              have hcs' := hcs.out
              have hl7 : (cs ++ es[j].f.bs).length = cs.length + es[j].f.bs.length := List.length_append
              have HFT : Hid ((cs ++ es[j].f.bs).length + g.bs.length ≤ S) := by show _ ≤ S; omega
              have HL8 : Hid ((cs ++ es[j].f.bs ++ g.bs).length = csum (es.take (j + 1))) := by show _ = _; rw [List.length_append]; omega
              have HSIG := hide hsig
              have HGB := hide hgB
              have HGC := hide hgc
              clear hsm hsig hgB hgc hcs' hle hl7 hF hc4
              go_wp2_with fail
              refine (clos (wz.heap.size + 1) wz.heap.size S (cs ++ es[j].f.bs) g ga g.bs.length gc none w7 HGB.out HGC.out HC7.out.f HC7.out.b HC7.out.c5 HFT.out hSle).mono ?_
              rintro e w8 ⟨a3, rfl, hP3, hB3, hV3, hbt3⟩
              have hsz8 := hbt3.size
              have cp8 := HC7.out.but hbt3 g.bs hB3 hV3
              have K8 := HK7.out.but hbt3 (by omega) (by omega) (by omega) (by omega) (by omega)
              have t1 := cp8.q1
              have t4 := cp8.v.cell HR7.out.2.2.2.2
              have f4 := cp8.v.frozen (2 + j * 5 + 4)
              have hE8 := cp8.e
              have FR := cp8.fresh (Nat.le_of_lt hk2)
              have hb9 := Below.alloc (Below.refl w8.heap.size w8) (Nat.le_refl _) (.cells [.string g.s0, .string g.s1, .string g.s2, .slice a3 g.bs.length g.bs.length, .pointer none].toArray 37)
              have v9 := (VB.new w8 37 [.string g.s0, .string g.s1, .string g.s2, .slice a3 g.bs.length g.bs.length, .pointer none]).other (C := w3.heap.size + 1) (2 + j * 5 + 4) (.pointer (some ⟨w8.heap.size, 0, none⟩)) (by omega)
              have cp10 := (cp8.on hb9).put (o := 2 + j * 5 + 4) (by omega) (x := .pointer (some ⟨w8.heap.size, 0, none⟩)) (by simp)
              have HK10 := hide ((K8.on hb9 (by omega)).set (E := w3.heap.size + 1) (Nat.le_succ _) (by omega) (2 + j * 5 + 4) (.pointer (some ⟨w8.heap.size, 0, none⟩)))
              have HF10 := hide (cp10.finish' hk2 (o := 2 + j * 5) (by omega) (HR7.out.setp (some ⟨w8.heap.size, 0, none⟩)) (HP2.out.more g.bs) (by rw [HSIG.out]; exact ⟨w8.heap.size, a3, rfl, hE8, v9, hP3⟩) (fun _ => FR))
              have l8 : w3.heap.size + 1 < w8.heap.size := by omega
              have l9 : ¬ w3.heap.size + 1 = w8.heap.size := by omega
              have l10 : ¬ (w3.heap.size + 1) = w8.heap.size := by omega
              have l11 : (w3.heap.size + 1) < w8.heap.size := by omega
              clear cp8 K8 FR hb9 v9 cp10 hP3 hB3 hV3 hbt3
              go_wp2
              go_roundw
              case rel =>
                have hf10 := HF10.out
                have hk10 := HK10.out
                rw [World.setCell_alloc_past _ _ _ _ l8] at hf10 hk10
                exact ⟨j + 1, _, _, _, by omega, by go_num, hf10, HL8.out, hk10⟩
              case measure => simp [intOf]; omega
          · obtain rfl : j = k := by omega
            go_wp2
            go_ret
            obtain ⟨s1, s2⟩ := hkp.out.strs (by omega) HS3.out HO3.out
            exact ⟨(w3.heap.size + 1), a', some ⟨w3.heap.size + 1, 2, none⟩, c', j, rfl,
              { q0 := by rw [N1.out]; exact hcp.out.q0
                q1 := by rw [N2.out]; exact hcp.out.q1
                s := by rw [N1.out]; exact s1
                o := by rw [N1.out]; exact s2
                nil := rfl
                k := KQ.out
                blk := hcp.out.qb
                el := fun _ => ⟨50, w3.heap.size + 1, 2, (wz.heap.size + 1), wz.heap.size, S, w3.heap.size + 2, cs, vs, ps, rfl, by rw [N1.out, N2.out]; exact hcp.out⟩ }, hkp.out.b⟩
      · have h4' : ¬ (k : Int) ≤ 4 := by omega
        have hbw4 := below2 w3 (.cells ([.slice a' n1 c', .slice (some ⟨w3.heap.size + 1, 0, none⟩) k k]).toArray 33) (.cells (z37 k).toArray 37)
        obtain ⟨u4, v4⟩ := laid2 w3 ([.slice a' n1 c', .slice (some ⟨w3.heap.size + 1, 0, none⟩) k k]) (z37 k) 33 37
        obtain ⟨w4, hW4⟩ : ∃ w4, (w3.alloc (.cells ([.slice a' n1 c', .slice (some ⟨w3.heap.size + 1, 0, none⟩) k k]).toArray 33)).alloc (.cells (z37 k).toArray 37) = w4 := ⟨_, rfl⟩
        have hsz4 : w4.heap.size = w3.heap.size + 2 := by rw [← hW4]; simp
        rw [hW4] at hbw4 v4 u4
        have HCP : Hid (Copied w4 w.heap.size w3.heap.size 37 (w3.heap.size + 1) 0 (wz.heap.size + 1) wz.heap.size S (w3.heap.size + 2) (.slice a' n1 c') (.slice (some ⟨w3.heap.size + 1, 0, none⟩) k k) es 0 [] (z37 k) (fun _ => none)) :=
          { v := v4
            b := HC3.out.keep (hbw4.block _ HC3.out.lt)
            f := HV3.out.on hbw4
            q0 := u4.cell rfl
            q1 := u4.cell rfl
            qb := ⟨_, _, u4⟩
            ni := z37_noInt k
            len := by rw [N2.out, z37_len]; omega
            rows := fun i _ hi => absurd hi (Nat.not_lt_zero i)
            inj := fun i j _ hj => absurd hj (Nat.not_lt_zero j)
            n1 := by omega
            n2 := by omega
            n3 := by omega
            n4 := by omega
            k1 := by have := HBR.out.size; omega
            k2 := HBR.out.size
            k3 := by have := HBR.out.size; omega
            c1 := by omega
            c2 := by omega
            c3 := by omega
            c4 := by omega
            c5 := by omega
            m := .inl (by omega)
            e := by omega }
        have HKP : Hid (Kept w.heap.size (wz.heap.size + 2) w3.heap.size w w3 w4) := ⟨bchain HB3.out hbw4, by omega, fun b _ hb => hbw4.block b hb⟩
        have HW4 := hide hW4
        have hKr := HBR.out.size
        have KQ : Hid (w.heap.size ≤ w3.heap.size) := by show w.heap.size ≤ w3.heap.size; omega
        clear hbw4 v4 u4 hW4
        go_wp2
        rw [HW4.out]
        go_loopw [96] (fun i wl => ∃ (j : Nat) (cs : List Int) (vs : List Value) (ps : Nat → Option Addr), j ≤ k ∧ i = .int .i64 j ∧ Hid (Copied wl w.heap.size w3.heap.size 37 (w3.heap.size + 1) 0 (wz.heap.size + 1) wz.heap.size S (w3.heap.size + 2) (.slice a' n1 c') (.slice (some ⟨w3.heap.size + 1, 0, none⟩) k k) es j cs vs ps) ∧ Hid (cs.length = csum (es.take j)) ∧ Hid (Kept w.heap.size (wz.heap.size + 2) w3.heap.size w w3 wl)) (fun i _ => k - (intOf i).toNat)
        case atStart => exact ⟨0, [], _, _, Nat.zero_le _, rfl, HCP.out, rfl, HKP.out⟩
        case round =>
          obtain ⟨j, cs, vs, ps, hj, rfl, hcp, hcs, hkp⟩ := hrel
          by_cases hlt : j < k
          · have j1 : (j : Int) < (k : Int) := by omega
            have hne : es ≠ [] := by intro h; have := N2.out; rw [h] at this; simp at this; omega
            obtain ⟨b2, o2, hx, x2⟩ := HE.out.2.2 hne
            obtain rfl : x = ⟨b2, o2, none⟩ := Option.some.inj hx
            have hk2 : j < es.length := by rw [N2.out]; exact hlt
            have hb2 : b2 < w.heap.size := World.block_lt_of_cell? _ _ (x2 j hk2).1.1
            obtain ⟨⟨r0, r1, r2, ra, rn, rc, r3, hrB, hrc⟩, rs, r4, hrS⟩ := x2 j hk2
            replace r0 := cell_on hkp.out.b r0
            replace r1 := cell_on hkp.out.b r1
            replace r2 := cell_on hkp.out.b r2
            replace r3 := cell_on hkp.out.b r3
            replace r4 := cell_on hkp.out.b r4
            obtain rfl : rn = es[j].f.bs.length := hrB.2.1.symm
            have hsum := csum_snoc hk2
            have hle : csum (es.take (j + 1)) ≤ S := by
              have := HSUM.out
              rw [← List.take_append_drop (j + 1) es, csum_append] at this
              omega
            unfold El.bytes at hsum
            have hcs' := hcs.out
            have hwl := hcp.out.e
            have hb5 := Below.alloc (Below.refl wr.heap.size wr) (Nat.le_refl _) (.cells [.string es[j].f.s0, .string es[j].f.s1, .string es[j].f.s2, .slice ra es[j].f.bs.length rc, .pointer rs].toArray 37)
            have v5 := VB.new wr 37 [.string es[j].f.s0, .string es[j].f.s1, .string es[j].f.s2, .slice ra es[j].f.bs.length rc, .pointer rs]
            obtain ⟨w5, hW5⟩ : ∃ w5, wr.alloc (.cells #[.string es[j].f.s0, .string es[j].f.s1, .string es[j].f.s2, .slice ra es[j].f.bs.length rc, .pointer rs] 37) = w5 := ⟨_, rfl⟩
            have hsz5 : w5.heap.size = wr.heap.size + 1 := by rw [← hW5]; simp
            rw [hW5] at hb5 v5
            have HC5 := hide (hcp.out.on hb5)
            have HK5 := hide (hkp.out.on hb5 (by omega))
            have HB5 := hide ((hrB.on hkp.out.b).on hb5)
            have z0 := v5.cell (i := 0) rfl
            have z1 := v5.cell (i := 1) rfl
            have z2 := v5.cell (i := 2) rfl
            have z3 := v5.cell (i := 3) rfl
            have z4 := v5.cell (i := 4) rfl
            have zq := HC5.out.q1
            have A1 : w3.heap.size ≠ (wz.heap.size + 1) := hcp.out.c4
            have A2 : w3.heap.size ≠ wz.heap.size := hcp.out.c3
            have A3 : wr.heap.size ≠ (wz.heap.size + 1) := by omega
            have A4 : wr.heap.size ≠ wz.heap.size := by omega
            have HA1 := hide A1
            have HA2 := hide A2
            have HA3 := hide A3
            have HA4 := hide A4
            have hfit : cs.length + es[j].f.bs.length ≤ S := by omega
            have HFIT := hide hfit
            have HRC := hide hrc
            have hlen := hcp.out.len
            have hby : j * 5 + 4 < vs.length := by omega
            obtain ⟨y0, y1, y2, y3, y4, hy⟩ := five (vs := vs) (o := j * 5) hby
            have HY := hide hy
            have HW5 := hide hW5
            have HRS := hide hrS
            have HSM := hide hsum
            have HLE := hide hle
            have HVL := hide hby
            have ne1 : ¬ w3.heap.size + 1 = wr.heap.size := by omega
            clear x2 hne hrB hx hsum hle hcs' hW5 hrS hb5 v5 A1 A2 A3 A4 hfit hrc hlen hy hby
            go_wp2_with fail
            rw [HW5.out]
            go_region_held3 (fun w' => w'.cell? ⟨w3.heap.size, 1, none⟩ = some (.slice (some ⟨w3.heap.size + 1, 0, none⟩) k k) ∧
                w'.cell? ⟨wr.heap.size, 0, none⟩ = some (.string es[j].f.s0) ∧ w'.cell? ⟨wr.heap.size, 1, none⟩ = some (.string es[j].f.s1) ∧ w'.cell? ⟨wr.heap.size, 2, none⟩ = some (.string es[j].f.s2) ∧ w'.cell? ⟨wr.heap.size, 3, none⟩ = some (.slice ra es[j].f.bs.length rc) ∧ w'.cell? ⟨wr.heap.size, 4, none⟩ = some (.pointer rs))
              (first | (refine ⟨?_, ?_, ?_, ?_, ?_, ?_⟩ <;> (refine cell_but (V := (wz.heap.size + 1)) (C := wz.heap.size) (w := w5) ?_ (by assumption) (by with_reducible first | exact HA1.out | exact HA3.out) (by with_reducible first | exact HA2.out | exact HA4.out); with_reducible first | exact But.of (Below.drew (Below.refl _ _)) | exact hbw)) | (refine ⟨?_, ?_, ?_, ?_, ?_, ?_⟩ <;> (refine cell_put5 (w := w6) ?_ ?_; (refine cell_but (V := (wz.heap.size + 1)) (C := wz.heap.size) (w := w5) hbw (by assumption) (by with_reducible first | exact HA1.out | exact HA3.out) (by with_reducible first | exact HA2.out | exact HA4.out)); (first | exact .inr (by omega) | exact .inl (by omega)))) | go_keep)
              ((go_at_call 15; refine (clos (wz.heap.size + 1) wz.heap.size S cs es[j].f ra es[j].f.bs.length rc rs _ ?_ HRC.out ?_ ?_ HC5.out.c5 HFIT.out hSle).mono ?_; (with_reducible exact HB5.out.on (Below.drew (Below.refl _ _))); (with_reducible exact HC5.out.f.drew); (with_reducible exact HC5.out.b.drew); rintro e w6 ⟨a2, rfl, hP2, hB2, hV2, hbt⟩; have hbw := (But.of (V := (wz.heap.size + 1)) (C := wz.heap.size) (Below.drew (Below.refl _ w5))).trans hbt; have cp6 := HC5.out.but hbw es[j].f.bs hB2 hV2; have e0 := cp6.v.cell HY.out.1; have e1 := cp6.v.cell HY.out.2.1; have e2 := cp6.v.cell HY.out.2.2.1; have e3 := cp6.v.cell HY.out.2.2.2.1; have e4 := cp6.v.cell HY.out.2.2.2.2; have g0 := cp6.v.frozen (j * 5); have g1 := cp6.v.frozen (j * 5 + 1); have g2 := cp6.v.frozen (j * 5 + 2); have g3 := cp6.v.frozen (j * 5 + 3); have g4 := cp6.v.frozen (j * 5 + 4)))
            have hsz6 := hbw.size
            have K6 := HK5.out.but hbw (by omega) (by omega) (by omega) (by omega) (by omega)
            have C7 := cp6.put5' (o := j * 5) (by omega) (x0 := .string es[j].f.s0) (x1 := .string es[j].f.s1) (x2 := .string es[j].f.s2) (x3 := .slice a2 es[j].f.bs.length es[j].f.bs.length) (x4 := .pointer rs) (by simp) (by simp) (by simp) (by simp) (by simp)
            have K7 := K6.put5 (E := w3.heap.size + 1) (Nat.le_succ _) (by omega) (j * 5) (.string es[j].f.s0) (.string es[j].f.s1) (.string es[j].f.s2) (.slice a2 es[j].f.bs.length es[j].f.bs.length) (.pointer rs)
            have R7 := RowAt.new (vs := vs) (o := j * 5) (f := es[j].f) (a := a2) (n := es[j].f.bs.length) (c := es[j].f.bs.length) (p := rs) HVL.out
            have z4' := cell_put5 (eb := w3.heap.size + 1) (o := j * 5) (x0 := .string es[j].f.s0) (x1 := .string es[j].f.s1) (x2 := .string es[j].f.s2) (x3 := .slice a2 es[j].f.bs.length es[j].f.bs.length) (x4 := .pointer rs) (cell_but hbw z4 HA3.out HA4.out) (.inl (by omega))
            obtain ⟨w7, hW7⟩ : ∃ w7, ((((w6.setCell ⟨w3.heap.size + 1, j * 5, none⟩ (.string es[j].f.s0)).setCell ⟨w3.heap.size + 1, j * 5 + 1, none⟩ (.string es[j].f.s1)).setCell ⟨w3.heap.size + 1, j * 5 + 2, none⟩ (.string es[j].f.s2)).setCell ⟨w3.heap.size + 1, j * 5 + 3, none⟩ (.slice a2 es[j].f.bs.length es[j].f.bs.length)).setCell ⟨w3.heap.size + 1, j * 5 + 4, none⟩ (.pointer rs) = w7 := ⟨_, rfl⟩
            rw [hW7]
            rw [show put5 w6 (w3.heap.size + 1) (j * 5) (.string es[j].f.s0) (.string es[j].f.s1) (.string es[j].f.s2) (.slice a2 es[j].f.bs.length es[j].f.bs.length) (.pointer rs) = w7 from hW7] at C7 K7 z4'
            have HC7 := hide C7
            have HK7 := hide K7
            have HR7 := hide R7
            have HP2 := hide hP2
            clear C7 K7 R7 hP2 hB2 hV2 hbt cp6 e0 e1 e2 e3 e4 g0 g1 g2 g3 g4 hW7 z0 z1 z2 z3 z4 zq r0 r1 r2 r3 r4 K6 hsz6
            cases hsig : es[j].sig with
            | none =>
              have hs := HRS.out
              rw [hsig] at hs
              obtain rfl : rs = none := hs
              have hsm := HSM.out
              rw [hsig] at hsm
              have HF8 := hide (HC7.out.finish' hk2 (o := j * 5) (by omega) HR7.out HP2.out (by rw [hsig]; rfl) (fun h => absurd rfl h))
              have HL8 : Hid ((cs ++ es[j].f.bs).length = csum (es.take (j + 1))) := by show _ = _; rw [List.length_append, hsm, hcs.out]; rfl
              clear hsm hsig
              go_wp2
              go_roundw
              case rel => exact ⟨j + 1, _, _, _, by omega, by go_num, HF8.out, HL8.out, HK7.out⟩
              case measure => simp [intOf]; omega
            | some g =>
              have hs := HRS.out
              rw [hsig] at hs
              obtain ⟨pb, po, rfl, hF, r, rfl, hc4⟩ := hs
              obtain ⟨q0', q1', q2', ga, gn, gc, q3', hgB, hgc⟩ := hF.on HK7.out.b
              have q4' := cell_on HK7.out.b hc4
              obtain rfl : gn = g.bs.length := hgB.2.1.symm
              have hsm := HSM.out
              rw [hsig] at hsm
              dsimp only at hsm
              have hle := HLE.out
              have hcs' := hcs.out
              have hl7 : (cs ++ es[j].f.bs).length = cs.length + es[j].f.bs.length := List.length_append
              have HFT : Hid ((cs ++ es[j].f.bs).length + g.bs.length ≤ S) := by show _ ≤ S; omega
              have HL8 : Hid ((cs ++ es[j].f.bs ++ g.bs).length = csum (es.take (j + 1))) := by show _ = _; rw [List.length_append]; omega
              have HSIG := hide hsig
              have HGB := hide hgB
              have HGC := hide hgc
              clear hsm hsig hgB hgc hcs' hle hl7 hF hc4
              go_wp2_with fail
              refine (clos (wz.heap.size + 1) wz.heap.size S (cs ++ es[j].f.bs) g ga g.bs.length gc none w7 HGB.out HGC.out HC7.out.f HC7.out.b HC7.out.c5 HFT.out hSle).mono ?_
              rintro e w8 ⟨a3, rfl, hP3, hB3, hV3, hbt3⟩
              have hsz8 := hbt3.size
              have cp8 := HC7.out.but hbt3 g.bs hB3 hV3
              have K8 := HK7.out.but hbt3 (by omega) (by omega) (by omega) (by omega) (by omega)
              have t1 := cp8.q1
              have t4 := cp8.v.cell HR7.out.2.2.2.2
              have f4 := cp8.v.frozen (j * 5 + 4)
              have hE8 := cp8.e
              have FR := cp8.fresh (Nat.le_of_lt hk2)
              have hb9 := Below.alloc (Below.refl w8.heap.size w8) (Nat.le_refl _) (.cells [.string g.s0, .string g.s1, .string g.s2, .slice a3 g.bs.length g.bs.length, .pointer none].toArray 37)
              have v9 := (VB.new w8 37 [.string g.s0, .string g.s1, .string g.s2, .slice a3 g.bs.length g.bs.length, .pointer none]).other (C := w3.heap.size + 1) (j * 5 + 4) (.pointer (some ⟨w8.heap.size, 0, none⟩)) (by omega)
              have cp10 := (cp8.on hb9).put (o := j * 5 + 4) (by omega) (x := .pointer (some ⟨w8.heap.size, 0, none⟩)) (by simp)
              have HK10 := hide ((K8.on hb9 (by omega)).set (E := w3.heap.size + 1) (Nat.le_succ _) (by omega) (j * 5 + 4) (.pointer (some ⟨w8.heap.size, 0, none⟩)))
              have HF10 := hide (cp10.finish' hk2 (o := j * 5) (by omega) (HR7.out.setp (some ⟨w8.heap.size, 0, none⟩)) (HP2.out.more g.bs) (by rw [HSIG.out]; exact ⟨w8.heap.size, a3, rfl, hE8, v9, hP3⟩) (fun _ => FR))
              have l8 : w3.heap.size + 1 < w8.heap.size := by omega
              have l9 : ¬ w3.heap.size + 1 = w8.heap.size := by omega
              have l10 : ¬ w3.heap.size = w8.heap.size := by omega
              have l11 : w3.heap.size < w8.heap.size := by omega
              clear cp8 K8 FR hb9 v9 cp10 hP3 hB3 hV3 hbt3
              go_wp2
              go_roundw
              case rel =>
                have hf10 := HF10.out
                have hk10 := HK10.out
                rw [World.setCell_alloc_past _ _ _ _ l8] at hf10 hk10
                exact ⟨j + 1, _, _, _, by omega, by go_num, hf10, HL8.out, hk10⟩
              case measure => simp [intOf]; omega
          · obtain rfl : j = k := by omega
            go_wp2
            go_ret
            obtain ⟨s1, s2⟩ := hkp.out.strs (by omega) HS3.out HO3.out
            exact ⟨w3.heap.size, a', some ⟨w3.heap.size + 1, 0, none⟩, c', j, rfl,
              { q0 := by rw [N1.out]; exact hcp.out.q0
                q1 := by rw [N2.out]; exact hcp.out.q1
                s := by rw [N1.out]; exact s1
                o := by rw [N1.out]; exact s2
                nil := rfl
                k := KQ.out
                blk := hcp.out.qb
                el := fun _ => ⟨37, w3.heap.size + 1, 0, (wz.heap.size + 1), wz.heap.size, S, w3.heap.size + 2, cs, vs, ps, rfl, by rw [N1.out, N2.out]; exact hcp.out⟩ }, hkp.out.b⟩

end Go.Proofs.Qxb6628903a
