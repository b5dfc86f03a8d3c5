/- slices.Clone[[]string,string] (function 16). -/
import Derived.Test.Qxb6628903aScr
import Derived.Test.Qxb6628903aCopy
namespace Go.Proofs.Qxb6628903a
open Go.RowKit

theorem own_empty (w : World) : (w.alloc (.cells #[] 9)).ownsRow w.heap.size 9 1 (.slice (some ⟨w.heap.size, 0, none⟩) 0 0) 0 [] :=
  ⟨rfl, .inr ⟨w.heap.size, 0, #[], rfl, Nat.le_refl _, heap_alloc_new w _, Nat.le_refl _, Nat.zero_le _, rfl, rfl⟩⟩

/-- a row of strings of the call's own -/
def OwnStrs (K : Nat) (w : World) (a : Option Addr) (n : Nat) : Prop := 0 < n → ∃ b o, a = some ⟨b, o, none⟩ ∧ K ≤ b ∧ ∀ i, i < n → StrCell w b (o + i)

theorem strs_of_row {w : World} {K g n : Nat} {cur : Array Value} {ss : List ByteArray} (hl : ss.length = n) (hh : w.heap[g]? = some (.cells cur 9 (0, 0))) (hK : K ≤ g) (ht : cur.toList.take (n * 1) = ss.map Value.string) :
    Strs w (some ⟨g, 0, none⟩) n false ss ∧ OwnStrs K w (some ⟨g, 0, none⟩) n := by
  have hc : ∀ i, i < n → w.cell? ⟨g, 0 + i, none⟩ = some (.string (ss.getD i ByteArray.empty)) := fun i hi => by
    rw [Nat.zero_add, cell_of_row w g i cur 9 (0, 0) hh]
    have h1 : (cur.toList.take (n * 1))[i]? = (ss.map Value.string)[i]? := by rw [ht]
    rw [List.getElem?_take_of_lt (by omega)] at h1
    simp [List.getElem?_eq_getElem (show i < ss.length by omega)] at h1
    simp [h1, List.getD, List.getElem?_eq_getElem (show i < ss.length by omega)]
  exact ⟨⟨rfl, hl, fun _ => ⟨g, 0, rfl, fun i hi => hc i (by omega)⟩⟩, fun _ => ⟨g, 0, rfl, hK, fun i hi => ⟨⟨_, hc i hi⟩, frozen_of_row w g _ cur 9 hh⟩⟩⟩

set_option maxHeartbeats 1000000 in
theorem slClone_some (x : Addr) (n c : Nat) (ss : List ByteArray) (w : World) (hn : n ≤ 1048576) (h : Strs w (some x) n false ss) :
    Calls Try.prog 16 #[.slice (some x) n c] w fun e w' => ∃ a' c', e = .returned (.slice a' n c') ∧ Strs w' a' n false ss ∧ OwnStrs w.heap.size w' a' n ∧ Below w.heap.size w w' := by
  have hq := nil22
  have HH := hide h
  have HOWN := hide (own_empty w)
  obtain ⟨i0, hi, hz0, hz1, hz2⟩ := info_parts info9
  have hnews : ∀ j u, (ss.map Value.string)[j]? = some u → (w.alloc (.cells #[] 9)).cell? (x.add j) = some u := fun j u hj => by
    have hjl : j < ss.length := by simpa using (List.getElem?_eq_some_iff.1 hj).1
    obtain ⟨b, off, hx, hc⟩ := h.2.2 (by intro e; rw [e] at hjl; simp at hjl)
    obtain rfl : x = ⟨b, off, none⟩ := Option.some.inj hx
    have e : (⟨b, off, none⟩ : Addr).add j = ⟨b, off + j, none⟩ := by unfold Addr.add; split <;> simp_all
    rw [e]
    have := cell_on ((Below.refl w.heap.size w).alloc (Nat.le_refl _) (.cells #[] 9)) (hc j hjl)
    rw [this]
    simp [List.getElem?_eq_getElem hjl] at hj
    simp [List.getD, List.getElem?_eq_getElem hjl, hj]
  have HN := hide hnews
  have HL : Hid ((ss.map Value.string).length = n * 1) := by show _ = _; rw [List.length_map, h.2.1]; omega
  clear h hnews
  go_enter Try.func16, Try.ntmps16
  go_wp2_with (at_builtin; refine wpList_append_own _ rfl _ _ 22 rfl w.heap.size 9 i0 (.string ByteArray.empty) 1 16 Try.underlying22 hi hz0 hz1 hz2 rfl (by decide) _ _ _ rfl HOWN.out x n c (ss.map Value.string) rfl HL.out HN.out ?c2 ?c3 ?c4 ?c5 ?_)
  case c2 => intro u hu; obtain ⟨s, _, rfl⟩ := List.mem_map.1 hu; rfl
  case c3 => unfold maxLen; omega
  case c4 => omega
  case c5 => simp
  · intro v' w1 hown' hgrow hiff
    have HB := hide (Below.grown ((Below.refl w.heap.size w).alloc (Nat.le_refl _) (.cells #[] 9)) hgrow (by simp) (fun k hk => by cases hk; exact Nat.le_refl _))
    rcases hown'.2 with ⟨hv, _⟩ | ⟨g, cap, cur, hv, hbase, hh, _, _, _, ht⟩
    · exact absurd hv hiff
    · have HF := hide (strs_of_row HH.out.2.1 hh hbase ht)
      clear hown' hgrow hiff hh ht hbase
      rw [hv]
      clear hv
      go_wp2
      go_ret
      exact ⟨_, _, rfl, HF.out.1, HF.out.2, HB.out⟩

theorem slClone (a : Option Addr) (n c : Nat) (nn : Bool) (ss : List ByteArray) (w : World) (hn : n ≤ 1048576) (h : Strs w a n nn ss) :
    Calls Try.prog 16 #[.slice a n c] w fun e w' => ∃ a' c', e = .returned (.slice a' n c') ∧ Strs w' a' n nn ss ∧ OwnStrs w.heap.size w' a' n ∧ Below w.heap.size w w' := by
  cases a with
  | some x =>
    obtain rfl : false = nn := h.1
    exact slClone_some x n c ss w hn h
  | none =>
    have hq := nil22
    have HH := hide h
    have hn0 : n = 0 := by
      have := h.2.1
      rcases Nat.eq_zero_or_pos n with e | e
      · exact e
      · obtain ⟨b, off, hx, _⟩ := h.2.2 (by intro hx; rw [hx] at this; simp at this; omega)
        cases hx
    subst hn0
    clear h
    go_enter Try.func16, Try.ntmps16
    go_wp2
    go_ret
    exact ⟨_, _, rfl, HH.out, fun h => absurd h (Nat.lt_irrefl 0), Below.refl _ _⟩

end Go.Proofs.Qxb6628903a
