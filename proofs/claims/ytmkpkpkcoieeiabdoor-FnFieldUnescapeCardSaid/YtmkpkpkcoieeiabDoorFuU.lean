/- UnescapeValue walked: a text unescaped sign by sign, or an error. -/
import Derived.Test.YtmkpkpkcoieeiabDoorFuP
import Derived.Test.YtmkpkpkcoieeiabDoorShelfU
import Derived.Lib.JoinLaws
set_option linter.unusedSimpArgs false
set_option linter.unusedVariables false
namespace Go.Proofs.YtmkpkpkcoieeiabDoor.FuU
open Go Go.RowKit Go.Proofs.YtmkpkpkcoieeiabDoor.FuM Go.Proofs.YtmkpkpkcoieeiabDoorW.PrintWords Go.Proofs.YtmkpkpkcoieeiabDoorW.PrintLast
/-- What UnescapeValue tells: a text, or an error. -/
def URes (r : Option (List UInt8)) (e : Ending) : Prop := match r with
  | some x => e = .returned (.tuple #[.string ⟨x.toArray⟩, .nilIface])
  | none => ∃ t p, e = .returned (.tuple #[.string ⟨#[]⟩, .iface t p])
/-- A buffer with room, made of a row of its own. -/
theorem newbuf_calls (g n : Nat) (w : World) :
    Calls Tryd.prog 32 #[.slice (some ⟨g, 0, none⟩) 0 n] w fun e w' => e = .returned (.pointer (some ⟨w.heap.size, 0, none⟩)) ∧ w' = w.alloc (.cells #[.slice (some ⟨g, 0, none⟩) 0 n, .int .i64 0, .int .i8 0] 86) := by
  go_enter Tryd.func32, Tryd.ntmps32
  go_wp2_with fail
  go_ret
  exact ⟨rfl, rfl⟩
theorem newbuf_is (w : World) (n : Nat) (hn : n ≤ maxLen) : Lib.IsBuffer 86 5 w.heap.size (w.heap.size + 1) [] ((w.alloc (.cells (madeCells #[.int .u8 0] n) 5)).alloc (.cells #[.slice (some ⟨w.heap.size, 0, none⟩) 0 n, .int .i64 0, .int .i8 0] 86)) := by
  refine ⟨by omega, _, 0, ?_, ⟨rfl, Or.inr ⟨w.heap.size, n, madeCells #[.int .u8 0] n, rfl, Nat.le_refl _, ?_, Nat.zero_le _, hn, ?_, ?_⟩⟩, ?_⟩
  · have := heap_alloc_new (w.alloc (.cells (madeCells #[.int .u8 0] n) 5)) (.cells #[.slice (some ⟨w.heap.size, 0, none⟩) 0 n, .int .i64 0, .int .i8 0] 86)
    simpa using this
  · rw [Lib.alloc_old _ _ _ (by simp)]
    exact heap_alloc_new w _
  · rw [size_madeCells, Nat.mul_one]
  · simp
  · simp [Value.ownBlock]
theorem conv_two (c : Int) (W : World) : (convert 53 9 (.slice (some ⟨W.heap.size, 0, none⟩) 2 2)).run Tryd.prog (W.alloc (.cells #[.int .i32 92, .int .i32 c] 21)).drew = .ok (.string (runesBytes [92, c])) (W.alloc (.cells #[.int .i32 92, .int .i32 c] 21)).drew := by
  have hb : (W.alloc (.cells #[.int .i32 92, .int .i32 c] 21)).drew.heap[W.heap.size]? = some (.cells #[.int .i32 92, .int .i32 c] 21 (0, 0)) := heap_alloc_new W _
  have h := run_convert_runes (P := Tryd.prog) (W.alloc (.cells #[.int .i32 92, .int .i32 c] 21)).drew 53 9 21 ⟨W.heap.size, 0, none⟩ 2 2 [92, c] (Nat.le_refl _) Tryd.underlying53 Tryd.underlying21 Tryd.underlying9 (by
    intro j hj
    rw [Lib.addr_add, Nat.zero_add, Lib.cell_of_heap hb]
    have hj2 : j = 0 ∨ j = 1 := by simp at hj; omega
    rcases hj2 with rfl | rfl <;> rfl)
  exact h
theorem uv_step (s : ByteArray) (f p : Nat) (sl : Bool) (acc : List UInt8) (h : p < s.size) : uv s (f + 1) p sl acc = (if sl then (if sg (rn s p) then uv s f (p + wd s p) false (acc ++ en (rn s p)) else none)
       else if rn s p = 92 then uv s f (p + wd s p) true acc
       else if rn s p = 44 ∨ rn s p = 61 then none
       else uv s f (p + wd s p) false (acc ++ en (rn s p))) := if_pos h
theorem en4 (r : Nat) : (en r).length ≤ 4 := by rw [en_length]; exact (Lib.encodeRuneZ_length _).2
set_option maxHeartbeats 6400000 in
set_option maxRecDepth 100000 in
theorem unescape_calls (s : ByteArray) (hs : s.size ≤ 1099511627776) (hpt : pt s = true) (w : World) :
    Calls Tryd.prog 22 #[.string s] w fun e w' => URes (uv s s.size 0 false []) e ∧ Below w.heap.size w w' := by
  have hmk := fun W : World => run_make_room (P := Tryd.prog) 27 5 (.int .u8 0) 1 Tryd.underlying27 (by kernel_rfl) rfl .i64 .i64 s.size (by omega) (by omega) W
  go_enter Tryd.func22, Tryd.ntmps22
  go_wp2_with fail
  refine (FuZ.contains_calls s w).mono ?_
  rintro e w1 ⟨rfl, hb⟩
  replace hb := Aside0.mk hb
  cases hn : nos s s.size 0 with
  | true =>
    have hr := nos_uv s s.size 0 [] hn
    replace hr := Aside0.mk hr
    replace hn := Aside0.mk hn
    replace hpt := Aside0.mk hpt
    go_wp2_with fail
    refine bodyPost_ret (results_list (rs := [.tmp 2, .tmp 3]) rfl (by simp) (.tmp (.tmp .nil))) rfl ?_
    refine ⟨?_, hb.out⟩
    rw [hr.out]
    have h2 : rs s s.size 0 = L s := by simpa [pt] using hpt.out
    rw [h2]
    rfl
  | false =>
    clear hn hpt
    obtain ⟨w2, hw2⟩ : ∃ w2, w2 = w1.alloc (.cells (madeCells #[.int .u8 0] s.size) 5) := ⟨_, rfl⟩
    obtain ⟨w3, hw3⟩ : ∃ w3, w3 = w2.alloc (.cells #[.slice (some ⟨w1.heap.size, 0, none⟩) 0 s.size, .int .i64 0, .int .i8 0] 86) := ⟨_, rfl⟩
    have hI := newbuf_is w1 s.size (by unfold maxLen; omega)
    rw [← hw2, ← hw3] at hI
    replace hmk := hmk w1
    rw [← hw2] at hmk
    have hs2 : w2.heap.size = w1.heap.size + 1 := by rw [hw2]; simp
    have hs3 : w3.heap.size = w1.heap.size + 2 := by rw [hw3]; simp [hs2]
    have hB3 : Below w1.heap.size w1 w3 := by rw [hw3, hw2]; exact below_alloc (below_alloc (Below.refl _ _) _) _
    replace hI := Aside0.mk hI
    replace hw2 := Aside0.mk hw2
    replace hs2 := Aside0.mk hs2
    replace hs3 := Aside0.mk hs3
    replace hB3 := Aside0.mk hB3
    have hnb := newbuf_calls w1.heap.size s.size w2
    rw [← hw3, hs2.out] at hnb
    replace hw3 := Aside0.mk hw3
    replace hnb := Aside0.mk hnb
    replace hs := Aside0.mk hs
    go_wp2_with fail
    refine hnb.out.mono ?_
    rintro e w4 ⟨rfl, rfl⟩
    clear hmk
    go_wp2_with fail
    go_loopw [5] (fun sl wr => ∃ (pos f : Nat) (acc : List UInt8) (b : Bool), sl = .bool b ∧ Aside0 (Lib.IsBuffer 86 5 w1.heap.size (w1.heap.size + 1) (Lib.byteCells acc) wr) ∧ Aside0 (wr.heap[w4.heap.size]? = some (.stringIter s pos)) ∧ Aside0 (Below w1.heap.size w1 wr) ∧ Aside0 (s.size ≤ pos + f ∧ uv s s.size 0 false [] = uv s f pos b acc ∧ acc.length ≤ 4 * pos)) (fun _ wr => s.size - wr.iterPos w4.heap.size)
    case atStart =>
      exact ⟨0, s.size, [], false, rfl, ⟨hI.out.alloc _⟩, ⟨World.iter_heap w4 s 0⟩, ⟨below_alloc hB3.out _⟩, ⟨by omega, rfl, by simp⟩⟩
    case round =>
      obtain ⟨pos, f, acc, b, rfl, hI, hit, hbw, hn⟩ := hrel
      by_cases hp : pos < s.size
      · have hnx : ∀ ty, (Instr.next (.pointer (some ⟨w4.heap.size, 0, none⟩)) true ty).run Tryd.prog wr = _ := fun ty => Lib.run_next_any_at wr w4.heap.size s pos ty hit.out hp
        have hsz : w4.heap.size < wr.heap.size := (Array.getElem?_eq_some_iff.1 hit.out).1
        have hw := wd_pos s pos
        obtain ⟨g, hg⟩ : ∃ g, f = g + 1 := ⟨f - 1, by have := hn.out.1; omega⟩
        obtain ⟨W2, hW2⟩ : ∃ W2, W2 = wr.iterAt w4.heap.size s (pos + (Utf8.decode s pos).2) := ⟨_, rfl⟩
        have hit2 : W2.heap[w4.heap.size]? = some (.stringIter s (pos + wd s pos)) := by rw [hW2]; exact Lib.iterAt_heap wr _ s pos _ hit.out
        have hB2 : Below w1.heap.size w1 W2 := by rw [hW2]; exact Lib.below_iterAt hbw.out (by rw [hs3.out]; omega) s _
        have hI2 : Lib.IsBuffer 86 5 w1.heap.size (w1.heap.size + 1) (Lib.byteCells acc) W2 := by rw [hW2]; exact hI.out.iterAt hit.out _
        have hsz2 : w4.heap.size < W2.heap.size := (Array.getElem?_eq_some_iff.1 hit2).1
        have hk4 := hs3.out
        have hBW : w1.heap.size ≤ W2.heap.size := by omega
        have hne4 : w4.heap.size ≠ w1.heap.size + 1 := by omega
        rw [← hW2] at hnx
        obtain ⟨c, hc⟩ : ∃ c, c = rn s pos := ⟨_, rfl⟩
        have hc2 : (Utf8.decode s pos).1 = c := hc.symm
        rw [hc2] at hnx
        have hc0 : (-2147483648 : Int) ≤ c := by omega
        have hc1 : (c : Int) ≤ 2147483647 := by have := rn_le s pos; omega
        have hlen : (Lib.byteCells acc).length + 4 ≤ 140737488355328 := by rw [Lib.byteCells_length]; have h1 := hn.out.2.2; have h2 := hs.out; omega
        replace hg := Aside0.mk hg
        replace hW2 := Aside0.mk hW2
        replace hit2 := Aside0.mk hit2
        replace hB2 := Aside0.mk hB2
        replace hI2 := Aside0.mk hI2
        replace hsz2 := Aside0.mk hsz2
        replace hc := Aside0.mk hc
        replace hc2 := Aside0.mk hc2
        replace hw := Aside0.mk hw
        replace hc0 := Aside0.mk hc0
        replace hc1 := Aside0.mk hc1
        replace hlen := Aside0.mk hlen
        replace hk4 := Aside0.mk hk4
        replace hBW := Aside0.mk hBW
        replace hne4 := Aside0.mk hne4
        cases b with
        | true =>
          by_cases h92 : c = 92
          · have e92 : ((c : Int) == 92) = true := by rw [h92]; rfl
            have e44 : ((c : Int) == 44) = false := beq_eq_false_iff_ne.mpr (by omega)
            have e61 : ((c : Int) == 61) = false := beq_eq_false_iff_ne.mpr (by omega)
            have hstep : uv s f pos true acc = uv s g (pos + wd s pos) false (acc ++ en (rn s pos)) := by
              rw [hg.out, uv_step s g pos _ acc hp]
              have : sg (rn s pos) = true := by rw [← hc.out, h92]; rfl
              rw [this]
              simp
            replace hstep := Aside0.mk hstep
            replace h92 := Aside0.mk h92
            go_wp2_with fail
            refine (Tryd.Buffer_WriteRune_k w1.heap.size (w1.heap.size + 1) (Lib.byteCells acc) c hc0.out hc1.out W2 hI2.out hBW.out (Lib.byteCells_one _) hlen.out).mono ?_
            rintro e W3 ⟨rfl, h1, b1, k1⟩
            replace h1 := Aside0.mk h1
            replace b1 := Aside0.mk b1
            replace k1 := Aside0.mk k1
            go_wp2_with fail
            go_roundw
            case rel =>
              exact ⟨pos + wd s pos, g, acc ++ en (rn s pos), false, rfl, ⟨by rw [Lib.byteCells_append, ← hc.out]; unfold en; rw [Lib.byteCells_encodeRune]; exact h1.out⟩, ⟨k1.out.iter hit2.out hne4.out⟩, ⟨hB2.out.trans b1.out⟩, ⟨by have h2 := hn.out.1; have h3 := hg.out; have h4 := hw.out; omega, hn.out.2.1.trans hstep.out, by rw [List.length_append]; have h2 := hn.out.2.2; have h3 := en4 (rn s pos); have h4 := hw.out; omega⟩⟩
            case measure =>
              have h3 := hw.out
              have h4 : W3.heap[w4.heap.size]? = some (.stringIter s (pos + wd s pos)) := k1.out.iter hit2.out hne4.out
              simp only [World.iterPos, h4, hit.out]
              omega
          · skip
            by_cases h44 : c = 44
            · have e92 : ((c : Int) == 92) = false := beq_eq_false_iff_ne.mpr (by omega)
              have e44 : ((c : Int) == 44) = true := by rw [h44]; rfl
              have e61 : ((c : Int) == 61) = false := beq_eq_false_iff_ne.mpr (by omega)
              have hstep : uv s f pos true acc = uv s g (pos + wd s pos) false (acc ++ en (rn s pos)) := by
                rw [hg.out, uv_step s g pos _ acc hp]
                have : sg (rn s pos) = true := by rw [← hc.out, h44]; rfl
                rw [this]
                simp
              replace hstep := Aside0.mk hstep
              replace h92 := Aside0.mk h92
              replace h44 := Aside0.mk h44
              go_wp2_with fail
              refine (Tryd.Buffer_WriteRune_k w1.heap.size (w1.heap.size + 1) (Lib.byteCells acc) c hc0.out hc1.out W2 hI2.out hBW.out (Lib.byteCells_one _) hlen.out).mono ?_
              rintro e W3 ⟨rfl, h1, b1, k1⟩
              replace h1 := Aside0.mk h1
              replace b1 := Aside0.mk b1
              replace k1 := Aside0.mk k1
              go_wp2_with fail
              go_roundw
              case rel =>
                exact ⟨pos + wd s pos, g, acc ++ en (rn s pos), false, rfl, ⟨by rw [Lib.byteCells_append, ← hc.out]; unfold en; rw [Lib.byteCells_encodeRune]; exact h1.out⟩, ⟨k1.out.iter hit2.out hne4.out⟩, ⟨hB2.out.trans b1.out⟩, ⟨by have h2 := hn.out.1; have h3 := hg.out; have h4 := hw.out; omega, hn.out.2.1.trans hstep.out, by rw [List.length_append]; have h2 := hn.out.2.2; have h3 := en4 (rn s pos); have h4 := hw.out; omega⟩⟩
              case measure =>
                have h3 := hw.out
                have h4 : W3.heap[w4.heap.size]? = some (.stringIter s (pos + wd s pos)) := k1.out.iter hit2.out hne4.out
                simp only [World.iterPos, h4, hit.out]
                omega
            · skip
              by_cases h61 : c = 61
              · have e92 : ((c : Int) == 92) = false := beq_eq_false_iff_ne.mpr (by omega)
                have e44 : ((c : Int) == 44) = false := beq_eq_false_iff_ne.mpr (by omega)
                have e61 : ((c : Int) == 61) = true := by rw [h61]; rfl
                have hstep : uv s f pos true acc = uv s g (pos + wd s pos) false (acc ++ en (rn s pos)) := by
                  rw [hg.out, uv_step s g pos _ acc hp]
                  have : sg (rn s pos) = true := by rw [← hc.out, h61]; rfl
                  rw [this]
                  simp
                replace hstep := Aside0.mk hstep
                replace h92 := Aside0.mk h92
                replace h44 := Aside0.mk h44
                replace h61 := Aside0.mk h61
                go_wp2_with fail
                refine (Tryd.Buffer_WriteRune_k w1.heap.size (w1.heap.size + 1) (Lib.byteCells acc) c hc0.out hc1.out W2 hI2.out hBW.out (Lib.byteCells_one _) hlen.out).mono ?_
                rintro e W3 ⟨rfl, h1, b1, k1⟩
                replace h1 := Aside0.mk h1
                replace b1 := Aside0.mk b1
                replace k1 := Aside0.mk k1
                go_wp2_with fail
                go_roundw
                case rel =>
                  exact ⟨pos + wd s pos, g, acc ++ en (rn s pos), false, rfl, ⟨by rw [Lib.byteCells_append, ← hc.out]; unfold en; rw [Lib.byteCells_encodeRune]; exact h1.out⟩, ⟨k1.out.iter hit2.out hne4.out⟩, ⟨hB2.out.trans b1.out⟩, ⟨by have h2 := hn.out.1; have h3 := hg.out; have h4 := hw.out; omega, hn.out.2.1.trans hstep.out, by rw [List.length_append]; have h2 := hn.out.2.2; have h3 := en4 (rn s pos); have h4 := hw.out; omega⟩⟩
                case measure =>
                  have h3 := hw.out
                  have h4 : W3.heap[w4.heap.size]? = some (.stringIter s (pos + wd s pos)) := k1.out.iter hit2.out hne4.out
                  simp only [World.iterPos, h4, hit.out]
                  omega
              · skip
                have e92 : ((c : Int) == 92) = false := beq_eq_false_iff_ne.mpr (by omega)
                have e44 : ((c : Int) == 44) = false := beq_eq_false_iff_ne.mpr (by omega)
                have e61 : ((c : Int) == 61) = false := beq_eq_false_iff_ne.mpr (by omega)
                have hstep : uv s f pos true acc = none := by
                  rw [hg.out, uv_step s g pos _ acc hp]
                  have : sg (rn s pos) = false := by rw [← hc.out]; simp [sg, h92, h44, h61]
                  rw [this]
                  simp
                replace hstep := Aside0.mk hstep
                replace h92 := Aside0.mk h92
                replace h44 := Aside0.mk h44
                replace h61 := Aside0.mk h61
                have hcv := conv_two c W2
                go_wp2_with fail
                go_region
                go_wp2_with fail
                refine bodyPost_ret (results_list (rs := [.tmp 2, .tmp 3]) rfl (by simp) (.tmp (.tmp .nil))) rfl ?_
                refine ⟨?_, hb.out.trans (((below_alloc hB2.out _).drew).mono hb.out.size)⟩
                rw [hn.out.2.1, hstep.out]
                exact ⟨_, _, rfl⟩
        | false =>
          by_cases h92 : c = 92
          · have e92 : ((c : Int) == 92) = true := by rw [h92]; rfl
            have e44 : ((c : Int) == 44) = false := beq_eq_false_iff_ne.mpr (by omega)
            have e61 : ((c : Int) == 61) = false := beq_eq_false_iff_ne.mpr (by omega)
            have hstep : uv s f pos false acc = uv s g (pos + wd s pos) true acc := by
              rw [hg.out, uv_step s g pos _ acc hp]
              simp [← hc.out, h92]
            replace hstep := Aside0.mk hstep
            replace h92 := Aside0.mk h92
            go_wp2_with fail
            go_roundw
            case rel =>
              exact ⟨pos + wd s pos, g, acc, true, rfl, hI2, hit2, hB2, ⟨by have h2 := hn.out.1; have h3 := hg.out; have h4 := hw.out; omega, hn.out.2.1.trans hstep.out, by have h2 := hn.out.2.2; have h4 := hw.out; omega⟩⟩
            case measure =>
              have h3 := hw.out
              simp only [World.iterPos, hit2.out, hit.out]
              omega
          · skip
            by_cases h44 : c = 44
            · have e92 : ((c : Int) == 92) = false := beq_eq_false_iff_ne.mpr (by omega)
              have e44 : ((c : Int) == 44) = true := by rw [h44]; rfl
              have e61 : ((c : Int) == 61) = false := beq_eq_false_iff_ne.mpr (by omega)
              have hstep : uv s f pos false acc = none := by
                rw [hg.out, uv_step s g pos _ acc hp]
                simp [← hc.out, h44]
              replace hstep := Aside0.mk hstep
              replace h92 := Aside0.mk h92
              replace h44 := Aside0.mk h44
              go_wp2_with fail
              refine bodyPost_ret (results_list (rs := [.tmp 2, .tmp 3]) rfl (by simp) (.tmp (.tmp .nil))) rfl ?_
              refine ⟨?_, hb.out.trans ((hB2.out).mono hb.out.size)⟩
              rw [hn.out.2.1, hstep.out]
              exact ⟨_, _, rfl⟩
            · skip
              by_cases h61 : c = 61
              · have e92 : ((c : Int) == 92) = false := beq_eq_false_iff_ne.mpr (by omega)
                have e44 : ((c : Int) == 44) = false := beq_eq_false_iff_ne.mpr (by omega)
                have e61 : ((c : Int) == 61) = true := by rw [h61]; rfl
                have hstep : uv s f pos false acc = none := by
                  rw [hg.out, uv_step s g pos _ acc hp]
                  simp [← hc.out, h61]
                replace hstep := Aside0.mk hstep
                replace h92 := Aside0.mk h92
                replace h44 := Aside0.mk h44
                replace h61 := Aside0.mk h61
                go_wp2_with fail
                refine bodyPost_ret (results_list (rs := [.tmp 2, .tmp 3]) rfl (by simp) (.tmp (.tmp .nil))) rfl ?_
                refine ⟨?_, hb.out.trans ((hB2.out).mono hb.out.size)⟩
                rw [hn.out.2.1, hstep.out]
                exact ⟨_, _, rfl⟩
              · skip
                have e92 : ((c : Int) == 92) = false := beq_eq_false_iff_ne.mpr (by omega)
                have e44 : ((c : Int) == 44) = false := beq_eq_false_iff_ne.mpr (by omega)
                have e61 : ((c : Int) == 61) = false := beq_eq_false_iff_ne.mpr (by omega)
                have hstep : uv s f pos false acc = uv s g (pos + wd s pos) false (acc ++ en (rn s pos)) := by
                  rw [hg.out, uv_step s g pos _ acc hp]
                  simp [← hc.out, h92, h44, h61]
                replace hstep := Aside0.mk hstep
                replace h92 := Aside0.mk h92
                replace h44 := Aside0.mk h44
                replace h61 := Aside0.mk h61
                go_wp2_with fail
                refine (Tryd.Buffer_WriteRune_k w1.heap.size (w1.heap.size + 1) (Lib.byteCells acc) c hc0.out hc1.out W2 hI2.out hBW.out (Lib.byteCells_one _) hlen.out).mono ?_
                rintro e W3 ⟨rfl, h1, b1, k1⟩
                replace h1 := Aside0.mk h1
                replace b1 := Aside0.mk b1
                replace k1 := Aside0.mk k1
                go_wp2_with fail
                go_roundw
                case rel =>
                  exact ⟨pos + wd s pos, g, acc ++ en (rn s pos), false, rfl, ⟨by rw [Lib.byteCells_append, ← hc.out]; unfold en; rw [Lib.byteCells_encodeRune]; exact h1.out⟩, ⟨k1.out.iter hit2.out hne4.out⟩, ⟨hB2.out.trans b1.out⟩, ⟨by have h2 := hn.out.1; have h3 := hg.out; have h4 := hw.out; omega, hn.out.2.1.trans hstep.out, by rw [List.length_append]; have h2 := hn.out.2.2; have h3 := en4 (rn s pos); have h4 := hw.out; omega⟩⟩
                case measure =>
                  have h3 := hw.out
                  have h4 : W3.heap[w4.heap.size]? = some (.stringIter s (pos + wd s pos)) := k1.out.iter hit2.out hne4.out
                  simp only [World.iterPos, h4, hit.out]
                  omega
      · have hnx : ∀ ty, (Instr.next (.pointer (some ⟨w4.heap.size, 0, none⟩)) true ty).run Tryd.prog wr = _ := fun ty => Lib.run_next_end_at wr w4.heap.size s pos ty hit.out hp
        have hstep := uv_end s f pos b acc hp
        cases b with
        | true =>
          replace hstep := Aside0.mk hstep
          go_wp2_with fail
          refine bodyPost_ret (results_list (rs := [.tmp 2, .tmp 3]) rfl (by simp) (.tmp (.tmp .nil))) rfl ?_
          refine ⟨?_, hb.out.trans ((hbw.out).mono hb.out.size)⟩
          rw [hn.out.2.1, hstep.out]
          exact ⟨_, _, rfl⟩
        | false =>
          replace hstep := Aside0.mk hstep
          go_wp2_with fail
          refine (Tryd.Buffer_String w1.heap.size (w1.heap.size + 1) acc wr hI.out).mono ?_
          rintro e W3 ⟨rfl, n, rfl⟩
          go_wp2_with fail
          refine bodyPost_ret (results_list (rs := [.tmp 2, .tmp 3]) rfl (by simp) (.tmp (.tmp .nil))) rfl ?_
          refine ⟨?_, hb.out.trans (Below.mono (hbw.out.trans ⟨rfl, rfl, rfl, Nat.le_refl _, fun _ _ => rfl⟩) hb.out.size)⟩
          rw [hn.out.2.1, hstep.out]
          rfl
end Go.Proofs.YtmkpkpkcoieeiabDoor.FuU
