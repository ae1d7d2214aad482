/- Whether one of the three signs stands in a text: zzIndexAny, zzContainsAny walked. -/
import Derived.Test.YtmkpkpkcoieeiabDoorProg
import Derived.Test.YtmkpkpkcoieeiabDoorIsU
import Derived.Test.YtmkpkpkcoieeiabDoorFuM
import Derived.Lib.OthersKept
set_option linter.unusedSimpArgs false
set_option linter.unusedVariables false
namespace Go.Proofs.YtmkpkpkcoieeiabDoor.FuZ
open Go Go.RowKit Go.Proofs.YtmkpkpkcoieeiabDoor.FuM Go.Proofs.YtmkpkpkcoieeiabDoorW.PrintWords Go.Proofs.YtmkpkpkcoieeiabDoorW.PrintLast
/-- The three signs. -/
abbrev Sg : ByteArray := ⟨#[92, 44, 61]⟩
theorem sgn (n : Nat) (h : ∀ j, j < 3 → ∃ b, Sg.data.toList[j]? = some b ∧ n ≠ b.toNat) : sg n = false := by
  obtain ⟨b0, h0, k0⟩ := h 0 (by omega)
  obtain ⟨b1, h1, k1⟩ := h 1 (by omega)
  obtain ⟨b2, h2, k2⟩ := h 2 (by omega)
  obtain rfl : (92 : UInt8) = b0 := Option.some.inj h0
  obtain rfl : (44 : UInt8) = b1 := Option.some.inj h1
  obtain rfl : (61 : UInt8) = b2 := Option.some.inj h2
  have e0 : n ≠ 92 := k0
  have e1 : n ≠ 44 := k1
  have e2 : n ≠ 61 := k2
  simp [sg, e0, e1, e2]
theorem Sg_at {j : Nat} (h : j < Sg.size) : (Sg[j]'h).toNat < 128 ∧ (Sg.data.toList[j]? = some (Sg[j]'h)) ∧ sg (Sg[j]'h).toNat = true := by
  have h3 : j < 3 := h
  have : j = 0 ∨ j = 1 ∨ j = 2 := by omega
  rcases this with rfl | rfl | rfl
  · exact ⟨show (92 : UInt8).toNat < 128 by decide, rfl, show sg (92 : UInt8).toNat = true by decide⟩
  · exact ⟨show (44 : UInt8).toNat < 128 by decide, rfl, show sg (44 : UInt8).toNat = true by decide⟩
  · exact ⟨show (61 : UInt8).toNat < 128 by decide, rfl, show sg (61 : UInt8).toNat = true by decide⟩
set_option maxHeartbeats 6400000 in
set_option maxRecDepth 100000 in
theorem index_calls (s : ByteArray) (w : World) :
    Calls Tryd.prog 42 #[.string s, .string Sg] w fun e w' => ∃ r : Int, e = .returned (.int .i64 r) ∧ decide ((0 : Int) ≤ r) = !nos s s.size 0 ∧ Below w.heap.size w w' := by
  go_enter Tryd.func42, Tryd.ntmps42
  go_wp2_with fail
  go_loopw [5] (fun _ wr => ∃ pos f : Nat, Aside0 (wr.heap[w.heap.size]? = some (.stringIter s pos)) ∧ Aside0 (Below w.heap.size w wr) ∧ Aside0 (s.size ≤ pos + f ∧ nos s s.size 0 = nos s f pos)) (fun _ wr => s.size - wr.iterPos w.heap.size)
  case atStart =>
    exact ⟨0, s.size, ⟨World.iter_heap w s 0⟩, ⟨below_alloc (Below.refl _ _) _⟩, ⟨by omega, rfl⟩⟩
  case round =>
    obtain ⟨pos, f, hit, hbw, hn⟩ := hrel
    by_cases hp : pos < s.size
    · have hnx : ∀ ty, (Instr.next (.pointer (some ⟨w.heap.size, 0, none⟩)) true ty).run Tryd.prog wr = _ := fun ty => Lib.run_next_any_at wr w.heap.size s pos ty hit.out hp
      have hsz : w.heap.size < wr.heap.size := (Array.getElem?_eq_some_iff.1 hit.out).1
      have hw := wd_pos s pos
      obtain ⟨g, hg⟩ : ∃ g, f = g + 1 := ⟨f - 1, by have := hn.out.1; omega⟩
      obtain ⟨W2, hW2⟩ : ∃ W2, W2 = wr.iterAt w.heap.size s (pos + (Utf8.decode s pos).2) := ⟨_, rfl⟩
      have hit2 : W2.heap[w.heap.size]? = some (.stringIter s (pos + wd s pos)) := by rw [hW2]; exact Lib.iterAt_heap wr _ s pos _ hit.out
      have hB2 : Below w.heap.size w W2 := by rw [hW2]; exact Lib.below_iterAt hbw.out (Nat.le_refl _) s _
      have hsz2 : w.heap.size < W2.heap.size := (Array.getElem?_eq_some_iff.1 hit2).1
      rw [← hW2] at hnx
      have e4 : nos s f pos = (!sg (rn s pos) && nos s g (pos + wd s pos)) := by rw [hg]; simp only [nos, if_pos hp]
      obtain ⟨c, hc⟩ : ∃ c, c = rn s pos := ⟨_, rfl⟩
      have hc2 : (Utf8.decode s pos).1 = c := hc.symm
      rw [hc2] at hnx
      replace hg := Aside0.mk hg
      replace hW2 := Aside0.mk hW2
      replace hit2 := Aside0.mk hit2
      replace hB2 := Aside0.mk hB2
      replace hc := Aside0.mk hc
      replace hc2 := Aside0.mk hc2
      replace e4 := Aside0.mk e4
      replace hw := Aside0.mk hw
      go_wp2_with fail
      go_loopw [8] (fun _ w3 => ∃ j : Nat, w3 = W2.iter Sg j ∧ Aside0 (∀ i, i < j → ∃ b, Sg.data.toList[i]? = some b ∧ c ≠ b.toNat)) (fun _ w3 => 3 - w3.iterPos W2.heap.size)
      case atStart => exact ⟨0, rfl, ⟨fun i hi => absurd hi (by omega)⟩⟩
      case round =>
        obtain ⟨j, rfl, hj⟩ := hrel
        by_cases hq : j < Sg.size
        · obtain ⟨hb1, hb2, hb3⟩ := Sg_at hq
          have hnx2 : ∀ ty, (Instr.next (.pointer (some ⟨W2.heap.size, 0, none⟩)) true ty).run Tryd.prog (W2.iter Sg j) = _ := fun ty => run_next_ascii W2 Sg j ty hq hb1
          obtain ⟨d, hd⟩ : ∃ d, d = (Sg[j]'hq).toNat := ⟨_, rfl⟩
          rw [← hd] at hnx2
          replace hd := Aside0.mk hd
          clear hnx
          by_cases hcd : c = d
          · have ec : ((c : Int) == (d : Int)) = true := by rw [hcd]; exact beq_self_eq_true _
            replace hcd := Aside0.mk hcd
            go_wp2_with fail
            go_ret
            refine ⟨_, rfl, ?_, below_alloc hB2.out _⟩
            rw [hn.out.2, e4.out, ← hc.out, hcd.out, hd.out, hb3]
            simp
          · have ec : ((c : Int) == (d : Int)) = false := beq_eq_false_iff_ne.mpr (by omega)
            replace hcd := Aside0.mk hcd
            go_wp2_with fail
            go_roundw
            case rel =>
              refine ⟨j + 1, rfl, ⟨fun i hi => ?_⟩⟩
              by_cases hij : i < j
              · exact hj.out i hij
              · obtain rfl : i = j := by omega
                exact ⟨_, hb2, by have := hcd.out; rw [hd.out] at this; exact this⟩
            case measure =>
              have : j < 3 := hq
              simp
              omega
        · have hnx2 : ∀ ty, (Instr.next (.pointer (some ⟨W2.heap.size, 0, none⟩)) true ty).run Tryd.prog (W2.iter Sg j) = _ := fun ty => run_next_end W2 Sg j ty hq
          clear hnx
          go_wp2_with fail
          go_roundw
          case rel =>
            refine ⟨pos + wd s pos, g, ⟨?_⟩, ⟨below_alloc hB2.out _⟩, ⟨?_, ?_⟩⟩
            · exact (Lib.alloc_old W2 _ _ hsz2).trans hit2.out
            · have h1 := hn.out.1
              have h2 := hg.out
              have h3 := hw.out
              omega
            · rw [hn.out.2, e4.out]
              have : sg (rn s pos) = false := by
                rw [← hc.out]
                exact sgn c (fun i hi => hj.out i (by have : ¬ j < 3 := hq; omega))
              simp [this]
          case measure =>
            have h3 := hw.out
            have h4 : (W2.iter Sg j).heap[w.heap.size]? = some (.stringIter s (pos + wd s pos)) := by
              exact (Lib.alloc_old W2 _ _ hsz2).trans hit2.out
            simp only [World.iterPos, h4, hit.out]
            omega
    · have hnx : ∀ ty, (Instr.next (.pointer (some ⟨w.heap.size, 0, none⟩)) true ty).run Tryd.prog wr = _ := fun ty => Lib.run_next_end_at wr w.heap.size s pos ty hit.out hp
      go_wp2_with fail
      go_ret
      refine ⟨_, rfl, ?_, hbw.out⟩
      rw [hn.out.2]
      cases f with
      | zero => rfl
      | succ f => simp [nos, hp]
set_option maxHeartbeats 6400000 in
set_option maxRecDepth 100000 in
theorem contains_calls (s : ByteArray) (w : World) :
    Calls Tryd.prog 31 #[.string s, .string Sg] w fun e w' => e = .returned (.bool (!nos s s.size 0)) ∧ Below w.heap.size w w' := by
  go_enter Tryd.func31, Tryd.ntmps31
  go_wp2_with fail
  refine (index_calls s w).mono ?_
  rintro e w1 ⟨r, rfl, hr, hb⟩
  replace hr := Aside0.mk hr
  replace hb := Aside0.mk hb
  go_wp2_with fail
  go_ret
  exact ⟨by rw [← hr.out]; rfl, hb.out⟩
end Go.Proofs.YtmkpkpkcoieeiabDoor.FuZ
