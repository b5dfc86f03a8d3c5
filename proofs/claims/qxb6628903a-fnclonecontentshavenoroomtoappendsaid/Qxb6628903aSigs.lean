/- zzSignaturesHaveNone (function 6): where it says true, no signature has a signature. -/
import Derived.Test.Qxb6628903aMem
namespace Go.Proofs.Qxb6628903a
open Go.RowKit

def SigsPost (ea : Option Addr) (n : Nat) (ne : Bool) (es : List El) (w : World) (e : Ending) (w' : World) : Prop :=
  ∃ b, e = .returned (.bool b) ∧ (b = true → Els w (· = none) ea n ne es) ∧ w' = w

set_option maxHeartbeats 1000000 in
theorem sigs_empty (ea : Option Addr) (ec : Nat) (ne : Bool) (w : World) (h : ea.isNone = ne) : Calls Try.prog 6 #[.slice ea 0 ec] w (SigsPost ea 0 ne [] w) := by
  have H := hide h
  clear h
  go_enter Try.func6, Try.ntmps6
  go_wp2
  refine wp_loop_rounds 1 ?_
  rw [rounds_succ]
  go_wp2
  go_ret
  exact ⟨true, rfl, fun _ => ⟨H.out, rfl, fun h => absurd rfl h⟩, rfl⟩

set_option maxHeartbeats 2000000 in
theorem sigs_full (es : List El) (R : Option Addr → Prop) (b o n ec : Nat) (ne : Bool) (w : World) (hn : es.length = n) (l2 : n ≤ 9223372036854775807) (he : ∀ i (h : i < es.length), ElAt w R b (o + i * 5) (es[i]'h)) (hne : false = ne) :
    Calls Try.prog 6 #[.slice (some ⟨b, o, none⟩) n ec] w (SigsPost (some ⟨b, o, none⟩) n ne es w) := by
  have HE := hide he
  have N2 := hide hn
  have HNE := hide hne
  clear he hn hne
  go_enter Try.func6, Try.ntmps6
  go_wp2
  go_loop [3] (fun i => ∃ k : Nat, k ≤ n ∧ i = .int .i64 k ∧ Hid (∀ j (h : j < es.length), j < k → ElAt w (· = none) b (o + j * 5) (es[j]'h))) (fun i => n - (intOf i).toNat)
  case atStart => exact ⟨0, by omega, rfl, fun j _ hj => absurd hj (Nat.not_lt_zero j)⟩
  case round =>
    obtain ⟨k, hk, rfl, hd⟩ := hrel
    by_cases hlt : k < n
    · have j1 : (k : Int) < (n : Int) := by omega
      have hk2 : k < es.length := by rw [N2.out]; exact hlt
      obtain ⟨hf, rs, r4, hrS⟩ := HE.out k hk2
      have HF := hide hf
      clear hf
      cases hsig : es[k].sig with
      | none =>
        rw [hsig] at hrS
        obtain rfl : rs = none := hrS
        have HD : Hid (∀ j (h : j < es.length), j < k + 1 → ElAt w (· = none) b (o + j * 5) (es[j]'h)) := fun j hj hjk => by
          by_cases e : j = k
          · subst e
            exact ⟨HF.out, none, r4, by rw [hsig]; exact rfl⟩
          · exact hd.out j hj (by omega)
        clear hsig
        go_wp2
        go_round
        case rel => exact ⟨k + 1, by omega, by go_num, HD⟩
        case measure => simp [intOf]; omega
      | some g =>
        rw [hsig] at hrS
        obtain ⟨pb, po, rfl, hfs, r, _, y4⟩ := hrS
        have HFS := hide hfs
        clear hfs
        cases r with
        | none =>
          have HD : Hid (∀ j (h : j < es.length), j < k + 1 → ElAt w (· = none) b (o + j * 5) (es[j]'h)) := fun j hj hjk => by
            by_cases e : j = k
            · subst e
              exact ⟨HF.out, _, r4, by rw [hsig]; exact ⟨pb, po, rfl, HFS.out, none, rfl, y4⟩⟩
            · exact hd.out j hj (by omega)
          clear hsig
          go_wp2
          go_round
          case rel => exact ⟨k + 1, by omega, by go_num, HD⟩
          case measure => simp [intOf]; omega
        | some r =>
          clear hsig
          go_wp2
          go_ret
          exact ⟨false, rfl, (fun h => by cases h), rfl⟩
    · go_wp2
      go_ret
      exact ⟨true, rfl, (fun _ => ⟨HNE.out, N2.out, fun _ => ⟨b, o, rfl, fun i hi => hd.out i hi (by rw [N2.out] at hi; omega)⟩⟩), rfl⟩

theorem sigs (es : List El) (R : Option Addr → Prop) (ea : Option Addr) (n ec : Nat) (ne : Bool) (w : World) (l2 : n ≤ 9223372036854775807) (he : Els w R ea n ne es) :
    Calls Try.prog 6 #[.slice ea n ec] w (SigsPost ea n ne es w) := by
  by_cases h : es = []
  · subst h
    obtain rfl : 0 = n := he.2.1
    exact sigs_empty ea ec ne w he.1
  · obtain ⟨b, o, rfl, hx⟩ := he.2.2 h
    exact sigs_full es R b o n ec ne w he.2.1 l2 hx he.1

end Go.Proofs.Qxb6628903a
