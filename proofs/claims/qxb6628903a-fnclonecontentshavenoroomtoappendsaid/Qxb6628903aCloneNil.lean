/- Clone (function 8) of a message whose elements are nil; and all of Clone. -/
import Derived.Test.Qxb6628903aClone
namespace Go.Proofs.Qxb6628903a
open Go.RowKit

set_option maxHeartbeats 4000000 in
theorem clone_nil (q0 : Nat) (ss : List ByteArray) (nn : Bool) (na : Option Addr) (nc ec : Nat) (w : World)
    (c0 : w.cell? ⟨q0, 0, none⟩ = some (.slice na ss.length nc)) (c1 : w.cell? ⟨q0, 1, none⟩ = some (.slice none 0 ec)) (hs : Strs w na ss.length nn ss) (l1 : ss.length ≤ 65536) :
    Calls Try.prog 8 #[.pointer (some ⟨q0, 0, none⟩)] w fun e w' => ∃ q na' ea' nc' ec', e = .returned (.pointer (some ⟨q, 0, none⟩)) ∧ Cloned w.heap.size w' q nn true ss [] na' ea' nc' ec' ∧ Below w.heap.size w w' := by
  have h1 := nil31
  have HS := hide hs
  clear hs
  obtain ⟨n1, hn1⟩ : ∃ n, ss.length = n := ⟨_, rfl⟩
  rw [hn1] at l1 c0
  have N1 := hide hn1
  clear hn1
  have hq0 : q0 < w.heap.size := World.block_lt_of_cell? _ _ c0
  go_enter Try.func8, Try.ntmps8
  go_wp2
  go_loopw [3, 19] (fun s i wr => s = .int .i64 0 ∧ i = .int .i64 0 ∧ wr = w) (fun _ _ _ => 0)
  case atStart => exact ⟨rfl, rfl, rfl⟩
  case round =>
    obtain ⟨rfl, rfl, rfl⟩ := hrel
    have hmk : ∀ w, (Instr.makeSlice 35 (.int .i64 0) (.int .i64 0)).run Try.prog w = .ok (.slice (some ⟨w.heap.size, 0, none⟩) 0 0) (w.alloc (.cells #[] 5)) := fun w => by simpa using mk35b 0 (by omega) w
    have hB2 := below2 wr (.cells #[] 5) (.cells [.slice (some ⟨wr.heap.size, 0, none⟩) 0 0].toArray 35)
    obtain ⟨w2, hW⟩ : ∃ w2, (wr.alloc (.cells #[] 5)).alloc (.cells #[.slice (some ⟨wr.heap.size, 0, none⟩) 0 0] 35) = w2 := ⟨_, rfl⟩
    rw [hW] at hB2
    have HW := hide hW
    have HB2 := hide hB2
    clear hB2 hW
    have hq2 : ¬ q0 = wr.heap.size + 1 := by omega
    go_wp2_with fail
    rw [HW.out]
    refine (slClone na n1 nc nn ss w2 (by omega) (by have := HS.out.on HB2.out; rw [N1.out] at this; exact this)).mono ?_
    rintro e w3 ⟨a', c', rfl, hS3, hO3, hb3⟩
    have hb3' := bchain HB2.out hb3
    have d0 := cell_on hb3' c0
    have d1 := cell_on hb3' c1
    have hsz := hb3'.size
    have hq3 : q0 < w3.heap.size := by omega
    have hb4 := Below.alloc (Below.refl w3.heap.size w3) (Nat.le_refl _) (.cells [.slice a' n1 c', .slice none 0 0].toArray 33)
    have V4 := hide (VB.new w3 33 [.slice a' n1 c', .slice none 0 0])
    have HS4 := hide (hS3.on hb4)
    have HO4 : Hid (OwnStrs wr.heap.size (w3.alloc (.cells [.slice a' n1 c', .slice none 0 0].toArray 33)) a' n1) := fun h => by
      obtain ⟨b, o, h1, h2, h3⟩ := (hO3.on hb4) h
      exact ⟨b, o, h1, Nat.le_trans HB2.out.size h2, h3⟩
    have HB4 := hide (bchain hb3' hb4)
    have HSZ := hide hsz
    clear hS3 hO3 hb3 hb3' hb4 hmk hq2
    go_wp2
    go_loopw [96] (fun i wl => i = .int .i64 0 ∧ wl = w3.alloc (.cells [.slice a' n1 c', .slice none 0 0].toArray 33)) (fun _ _ => 0)
    case atStart => exact ⟨rfl, rfl⟩
    case round =>
      obtain ⟨rfl, rfl⟩ := hrel
      go_wp2
      go_ret
      exact ⟨w3.heap.size, a', none, c', 0, rfl,
        { q0 := by rw [N1.out]; exact V4.out.cell rfl
          q1 := V4.out.cell rfl
          s := by rw [N1.out]; exact HS4.out
          o := by rw [N1.out]; exact HO4.out
          nil := rfl
          k := HSZ.out
          blk := ⟨_, _, V4.out⟩
          el := fun h => absurd rfl h }, HB4.out⟩

theorem clone (q0 : Nat) (ss : List ByteArray) (es : List El) (nn ne : Bool) (w : World) (hm : MsgAt w q0 nn ne ss es) (hf : Fit ss es) :
    Calls Try.prog 8 #[.pointer (some ⟨q0, 0, none⟩)] w fun e w' => ∃ q na' ea' nc' ec', e = .returned (.pointer (some ⟨q, 0, none⟩)) ∧ Cloned w.heap.size w' q nn ne ss es na' ea' nc' ec' ∧ Below w.heap.size w w' := by
  obtain ⟨na, nc, ea, ec, c0, c1, hs, he⟩ := hm
  cases ea with
  | some x =>
    obtain rfl : false = ne := he.1
    exact clone_some q0 ss es nn na x nc ec w c0 c1 hs he hf
  | none =>
    obtain rfl : true = ne := he.1
    have hes : es = [] := by
      by_cases h : es = []
      · exact h
      · obtain ⟨b, o, hx, _⟩ := he.2.2 h
        cases hx
    subst hes
    exact clone_nil q0 ss nn na nc ec w c0 c1 hs hf.ns

end Go.Proofs.Qxb6628903a
