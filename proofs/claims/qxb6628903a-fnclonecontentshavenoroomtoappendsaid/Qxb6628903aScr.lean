/- zzOther (function 18), zzScribbleElem (function 19): strings stay strings, bytes stay bytes, all else as it was; nothing below K turns. -/
import Derived.Test.Qxb6628903aMem
import Derived.Deep.RegionHeld3
namespace Go.Proofs.Qxb6628903a
open Go.RowKit

/-- w' is w but for strings over strings and bytes over bytes, from block K on -/
structure Kin (K : Nat) (w w' : World) : Prop where
  b : Below K w w'
  str : ∀ a s, w.cell? a = some (.string s) → ∃ s', w'.cell? a = some (.string s')
  byt : ∀ a z, w.cell? a = some (.int .u8 z) → ∃ z', w'.cell? a = some (.int .u8 z')
  sli : ∀ a x n c, w.cell? a = some (.slice x n c) → w'.cell? a = some (.slice x n c)
  ptr : ∀ a p, w.cell? a = some (.pointer p) → w'.cell? a = some (.pointer p)
  fro : ∀ a, w'.frozen? a = w.frozen? a

theorem Kin.refl (K : Nat) (w : World) : Kin K w w := ⟨Below.refl _ _, fun _ s h => ⟨s, h⟩, fun _ z h => ⟨z, h⟩, fun _ _ _ _ h => h, fun _ _ h => h, fun _ => rfl⟩

theorem Kin.trans {K : Nat} {a b c : World} (h : Kin K a b) (k : Kin K b c) : Kin K a c :=
  ⟨h.b.trans k.b, fun x s hx => let ⟨s', h'⟩ := h.str x s hx; k.str x s' h', fun x z hx => let ⟨z', h'⟩ := h.byt x z hx; k.byt x z' h', fun x p n c hx => k.sli x p n c (h.sli x p n c hx), fun x p hx => k.ptr x p (h.ptr x p hx), fun x => (k.fro x).trans (h.fro x)⟩

theorem Kin.drew {K : Nat} {a b : World} (h : Kin K a b) : Kin K a b.drew := ⟨h.b.drew, h.str, h.byt, h.sli, h.ptr, h.fro⟩

theorem Kin.setStr {K : Nat} {w : World} {p : Addr} (hp : K ≤ p.block) {s0 : ByteArray} (h : w.cell? p = some (.string s0)) (s : ByteArray) : Kin K w (w.setCell p (.string s)) := by
  refine ⟨(Below.refl _ _).setCell hp _, fun x s' hx => ?_, fun x z hx => ?_, fun x a n c hx => ?_, fun x q hx => ?_, fun x => World.frozen?_setCell _ _ _ _⟩
  · by_cases e : p = x
    · subst e; exact ⟨s, World.cell?_setCell_same _ _ _ h⟩
    · exact ⟨s', by rw [World.cell?_setCell_other _ _ _ _ e]; exact hx⟩
  · have e : p ≠ x := by intro e; subst e; rw [h] at hx; cases hx
    exact ⟨z, by rw [World.cell?_setCell_other _ _ _ _ e]; exact hx⟩
  · have e : p ≠ x := by intro e; subst e; rw [h] at hx; cases hx
    rw [World.cell?_setCell_other _ _ _ _ e]; exact hx
  · have e : p ≠ x := by intro e; subst e; rw [h] at hx; cases hx
    rw [World.cell?_setCell_other _ _ _ _ e]; exact hx

theorem Kin.setByte {K : Nat} {w : World} {p : Addr} (hp : K ≤ p.block) {z0 : Int} (h : w.cell? p = some (.int .u8 z0)) (z : Int) : Kin K w (w.setCell p (.int .u8 z)) := by
  refine ⟨(Below.refl _ _).setCell hp _, fun x s' hx => ?_, fun x z' hx => ?_, fun x a n c hx => ?_, fun x q hx => ?_, fun x => World.frozen?_setCell _ _ _ _⟩
  · have e : p ≠ x := by intro e; subst e; rw [h] at hx; cases hx
    exact ⟨s', by rw [World.cell?_setCell_other _ _ _ _ e]; exact hx⟩
  · by_cases e : p = x
    · subst e; exact ⟨z, World.cell?_setCell_same _ _ _ h⟩
    · exact ⟨z', by rw [World.cell?_setCell_other _ _ _ _ e]; exact hx⟩
  · have e : p ≠ x := by intro e; subst e; rw [h] at hx; cases hx
    rw [World.cell?_setCell_other _ _ _ _ e]; exact hx
  · have e : p ≠ x := by intro e; subst e; rw [h] at hx; cases hx
    rw [World.cell?_setCell_other _ _ _ _ e]; exact hx

/-- a string that may be written -/
def StrCell (w : World) (b o : Nat) : Prop := (∃ s, w.cell? ⟨b, o, none⟩ = some (.string s)) ∧ w.frozen? ⟨b, o, none⟩ = false

/-- bytes that may be written -/
def ByteRow (K : Nat) (w : World) (a : Option Addr) (n : Nat) : Prop :=
  0 < n → ∃ cb co, a = some ⟨cb, co, none⟩ ∧ K ≤ cb ∧ ∀ i, i < n → (∃ z, w.cell? ⟨cb, co + i, none⟩ = some (.int .u8 z)) ∧ w.frozen? ⟨cb, co + i, none⟩ = false

/-- an element whose strings and bytes may be written -/
structure ScrEl (K : Nat) (w : World) (b o : Nat) : Prop where
  kb : K ≤ b
  c0 : StrCell w b o
  c1 : StrCell w b (o + 1)
  c2 : StrCell w b (o + 2)
  c3 : ∃ a n c, w.cell? ⟨b, o + 3, none⟩ = some (.slice a n c) ∧ n ≤ 1048576 ∧ ByteRow K w a n

theorem StrCell.on {K : Nat} {w w' : World} {b o : Nat} (h : StrCell w b o) (k : Kin K w w') : StrCell w' b o := ⟨let ⟨s, hs⟩ := h.1; k.str _ s hs, (k.fro _).trans h.2⟩

theorem ByteRow.on {K : Nat} {w w' : World} {a : Option Addr} {n : Nat} (h : ByteRow K w a n) (k : Kin K w w') : ByteRow K w' a n := fun hn => by
  obtain ⟨cb, co, ha, hK, hc⟩ := h hn
  exact ⟨cb, co, ha, hK, fun i hi => ⟨let ⟨z, hz⟩ := (hc i hi).1; k.byt _ z hz, (k.fro _).trans (hc i hi).2⟩⟩

theorem ScrEl.on {K : Nat} {w w' : World} {b o : Nat} (h : ScrEl K w b o) (k : Kin K w w') : ScrEl K w' b o := by
  obtain ⟨h1, h2, h3, h4, a, n, c, h5, h6, h7⟩ := h
  exact ⟨h1, h2.on k, h3.on k, h4.on k, a, n, c, k.sli _ _ _ _ h5, h6, h7.on k⟩

theorem other (s : ByteArray) (w : World) : Calls Try.prog 18 #[.string s] w fun e w' => (∃ s', e = .returned (.string s')) ∧ w' = w := by
  cases h : (s.toList == [97]) with
  | true =>
    go_enter Try.func18, Try.ntmps18
    go_wp2
    go_ret
    exact ⟨⟨_, rfl⟩, rfl⟩
  | false =>
    go_enter Try.func18, Try.ntmps18
    go_wp2
    go_ret
    exact ⟨⟨_, rfl⟩, rfl⟩

set_option maxHeartbeats 2000000 in
theorem scrEl (K b o : Nat) (w : World) (h : ScrEl K w b o) : Calls Try.prog 19 #[.pointer (some ⟨b, o, none⟩)] w fun e w' => e = .returned (.tuple #[]) ∧ Kin K w w' := by
  obtain ⟨⟨s0, c0⟩, f0⟩ := h.c0
  obtain ⟨⟨s1, c1⟩, f1⟩ := h.c1
  obtain ⟨⟨s2, c2⟩, f2⟩ := h.c2
  obtain ⟨a, n, c, c3, hn, hrow⟩ := h.c3
  have hK := h.kb
  have C0 := hide c0
  have C1 := hide c1
  have C2 := hide c2
  have C3 := hide c3
  have HR := hide hrow
  clear h hrow
  go_enter Try.func19, Try.ntmps19
  go_wp2_with fail
  refine (other s0 _).mono ?_
  rintro e w1 ⟨⟨t0, rfl⟩, rfl⟩
  go_wp2_with fail
  refine (other s1 _).mono ?_
  rintro e w2 ⟨⟨t1, rfl⟩, rfl⟩
  go_wp2_with fail
  refine (other s2 _).mono ?_
  rintro e w3 ⟨⟨t2, rfl⟩, rfl⟩
  go_wp2_with fail
  rename World => w
  have HK : Hid (Kin K w _) := (Kin.setStr (p := ⟨b, o, none⟩) hK C0.out t0).trans ((Kin.setStr (p := ⟨b, o + 1, none⟩) hK (s0 := s1) (by rw [World.cell?_setCell_other _ _ _ _ (by simp)]; exact C1.out) t1).trans (Kin.setStr (p := ⟨b, o + 2, none⟩) hK (s0 := s2) (by rw [World.cell?_setCell_other _ _ _ _ (by simp), World.cell?_setCell_other _ _ _ _ (by simp)]; exact C2.out) t2))
  clear c0 c1 c2 c3 f0 f1 f2
  go_loopw [2] (fun i wr => ∃ k : Nat, k ≤ n ∧ i = .int .i64 k ∧ Kin K w wr) (fun i _ => n - (intOf i).toNat)
  case atStart => exact ⟨0, by omega, rfl, HK.out⟩
  case round =>
    obtain ⟨k, hk, rfl, hkin⟩ := hrel
    have d3 := hkin.sli _ _ _ _ C3.out
    by_cases hlt : k < n
    · have j1 : (k : Int) < (n : Int) := by omega
      obtain ⟨cb, co, rfl, hcK, hc⟩ := (HR.out.on hkin) (by omega)
      obtain ⟨⟨z, dz⟩, fz⟩ := hc k hlt
      have HKK := hide hkin
      have DZ := hide dz
      clear hc hkin
      go_wp2
      go_region
      go_wp2
      go_roundw
      case rel => exact ⟨k + 1, by omega, by go_num, (HKK.out.trans (Kin.setByte (p := ⟨cb, co + k, none⟩) hcK DZ.out _)).drew⟩
      case measure => simp [intOf]; omega
    · have HKK := hide hkin
      clear hkin
      go_wp2
      go_end0
      exact ⟨rfl, HKK.out⟩

/-- a message whose strings and bytes may all be written -/
structure ScrMsg (K : Nat) (w : World) (q : Nat) (na : Option Addr) (nl nc : Nat) (ea : Option Addr) (el ec : Nat) : Prop where
  c0 : w.cell? ⟨q, 0, none⟩ = some (.slice na nl nc)
  c1 : w.cell? ⟨q, 1, none⟩ = some (.slice ea el ec)
  nb : nl ≤ 1048576
  eb : el ≤ 1048576
  n : 0 < nl → ∃ b o, na = some ⟨b, o, none⟩ ∧ K ≤ b ∧ ∀ i, i < nl → StrCell w b (o + i)
  e : 0 < el → ∃ b o, ea = some ⟨b, o, none⟩ ∧ ∀ i, i < el → ScrEl K w b (o + i * 5) ∧ ∃ p, w.cell? ⟨b, o + i * 5 + 4, none⟩ = some (.pointer p) ∧ (p = none ∨ ∃ sb so, p = some ⟨sb, so, none⟩ ∧ ScrEl K w sb so)

theorem ScrMsg.on {K : Nat} {w w' : World} {q : Nat} {na : Option Addr} {nl nc : Nat} {ea : Option Addr} {el ec : Nat} (h : ScrMsg K w q na nl nc ea el ec) (k : Kin K w w') : ScrMsg K w' q na nl nc ea el ec := by
  refine ⟨k.sli _ _ _ _ h.c0, k.sli _ _ _ _ h.c1, h.nb, h.eb, fun hn => ?_, fun hn => ?_⟩
  · obtain ⟨b, o, ha, hK, hc⟩ := h.n hn
    exact ⟨b, o, ha, hK, fun i hi => (hc i hi).on k⟩
  · obtain ⟨b, o, ha, hc⟩ := h.e hn
    refine ⟨b, o, ha, fun i hi => ?_⟩
    obtain ⟨h1, p, h2, h3⟩ := hc i hi
    refine ⟨h1.on k, p, k.ptr _ _ h2, ?_⟩
    rcases h3 with h3 | ⟨sb, so, h4, h5⟩
    · exact .inl h3
    · exact .inr ⟨sb, so, h4, h5.on k⟩

set_option maxHeartbeats 4000000 in
theorem scribble (K q : Nat) (na : Option Addr) (nl nc : Nat) (ea : Option Addr) (el ec : Nat) (w : World) (h : ScrMsg K w q na nl nc ea el ec) :
    Calls Try.prog 10 #[.pointer (some ⟨q, 0, none⟩)] w fun e w' => e = .returned (.tuple #[]) ∧ Kin K w w' := by
  have HM := hide h
  have l1 := h.nb
  have l2 := h.eb
  clear h
  go_enter Try.func10, Try.ntmps10
  go_wp2
  go_loopw [2] (fun i wr => ∃ k : Nat, k ≤ nl ∧ i = .int .i64 k ∧ Kin K w wr) (fun i _ => nl - (intOf i).toNat)
  case atStart => exact ⟨0, by omega, rfl, Kin.refl _ _⟩
  case round =>
    obtain ⟨k, hk, rfl, hkin⟩ := hrel
    have d0 := hkin.sli _ _ _ _ HM.out.c0
    by_cases hlt : k < nl
    · have j1 : (k : Int) < (nl : Int) := by omega
      obtain ⟨b, o, rfl, hcK, hc⟩ := (HM.out.on hkin).n (by omega)
      obtain ⟨⟨s, ds⟩, fs⟩ := hc k hlt
      have HKK := hide hkin
      have DS := hide ds
      clear hc hkin
      go_wp2
      go_region_with (go_at_call 18; refine (other s _).mono ?_; rintro e w' ⟨⟨t, rfl⟩, rfl⟩)
      all_goals
        go_wp2
        go_roundw
        case rel => exact ⟨k + 1, by omega, by go_num, (HKK.out.trans (Kin.setStr (p := ⟨b, o + k, none⟩) hcK DS.out t)).drew⟩
        case measure => simp [intOf]; omega
    · have HKK := hide hkin
      have d1 := hkin.sli _ _ _ _ HM.out.c1
      clear hkin
      go_wp2
      go_loopw [3] (fun i wr => ∃ k : Nat, k ≤ el ∧ i = .int .i64 k ∧ Kin K w wr) (fun i _ => el - (intOf i).toNat)
      case atStart => exact ⟨0, by omega, rfl, HKK.out⟩
      case round =>
        clear d0 d1
        obtain ⟨k, hk, rfl, hkin⟩ := hrel
        have d1 := hkin.sli _ _ _ _ HM.out.c1
        by_cases hlt2 : k < el
        · have j1 : (k : Int) < (el : Int) := by omega
          obtain ⟨b, o, rfl, hc⟩ := (HM.out.on hkin).e (by omega)
          obtain ⟨hsc, p, dp, hp⟩ := hc k hlt2
          have HSC := hide hsc
          have HK2 := hide hkin
          have DP := hide dp
          have HP := hide hp
          clear hc hkin hsc hp dp
          go_wp2_with fail
          refine (scrEl K b (o + k * 5) _ HSC.out).mono ?_
          rintro e w1 ⟨rfl, hk1⟩
          have d1' := hk1.sli _ _ _ _ d1
          have dp' := hk1.ptr _ _ DP.out
          have HK3 := hide (HK2.out.trans hk1)
          clear d1
          rcases HP.out with rfl | ⟨sb, so, rfl, hss⟩
          · clear hk1
            go_wp2
            go_roundw
            case rel => exact ⟨k + 1, by omega, by go_num, HK3.out⟩
            case measure => simp [intOf]; omega
          · have HSS := hide (hss.on hk1)
            clear hk1 hss
            go_wp2_with fail
            refine (scrEl K sb so _ HSS.out).mono ?_
            rintro e w2 ⟨rfl, hk2⟩
            have HK4 := hide (HK3.out.trans hk2)
            clear hk2 d1' dp'
            go_wp2
            go_roundw
            case rel => exact ⟨k + 1, by omega, by go_num, HK4.out⟩
            case measure => simp [intOf]; omega
        · have HK2 := hide hkin
          clear hkin
          go_wp2
          go_end0
          exact ⟨rfl, HK2.out⟩

end Go.Proofs.Qxb6628903a
