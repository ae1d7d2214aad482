/- Whether one of the three signs stands in a text: zzIndexAny, zzContainsAny walked. -/
import Derived.Test.YtccdnmachpepcaaDoorProg
import Derived.Test.YtccdnmachpepcaaDoorWMore
import Derived.LoopTactic
import Derived.Outline
import Derived.Test.YtccdnmachpepcaaDoorFsA
import Derived.Lib.OthersKept
import Derived.Laws.IdiomStrings
import Derived.Laws.Cover4
import Derived.Lib.Buffer
import Derived.Lib.Builder
import Derived.Test.YtccdnmachpepcaaDoorShelfU
import Derived.Lib.JoinLaws
set_option linter.unusedSimpArgs false
set_option linter.unusedVariables false
namespace Go.Proofs.YtccdnmachpepcaaDoor.FuZ
open Go Go.RowKit Go.Proofs.YtccdnmachpepcaaDoor.FuM Go.Proofs.YtccdnmachpepcaaDoorW.PrintWords Go.Proofs.YtccdnmachpepcaaDoorW.PrintLast
/-- The three signs. -/
abbrev Sg : ByteArray := ⟨#[92, 44, 61]⟩
theorem sgn (n : Nat) (h : ∀ j, j < 3 → ∃ b, Sg.data.toList[j]? = some b ∧ n ≠ b.toNat) : sg n = false := by
  obtain ⟨b0, h0, k0⟩ := h 0 (by omega)
  obtain ⟨b1, h1, k1⟩ := h 1 (by omega)
  obtain ⟨b2, h2, k2⟩ := h 2 (by omega)
  obtain rfl : (92 : UInt8) = b0 := Option.some.inj h0
  obtain rfl : (44 : UInt8) = b1 := Option.some.inj h1
  obtain rfl : (61 : UInt8) = b2 := Option.some.inj h2
  have e0 : n ≠ 92 := k0
  have e1 : n ≠ 44 := k1
  have e2 : n ≠ 61 := k2
  simp [sg, e0, e1, e2]
theorem Sg_at {j : Nat} (h : j < Sg.size) : (Sg[j]'h).toNat < 128 ∧ (Sg.data.toList[j]? = some (Sg[j]'h)) ∧ sg (Sg[j]'h).toNat = true := by
  have h3 : j < 3 := h
  have : j = 0 ∨ j = 1 ∨ j = 2 := by omega
  rcases this with rfl | rfl | rfl
  · exact ⟨show (92 : UInt8).toNat < 128 by decide, rfl, show sg (92 : UInt8).toNat = true by decide⟩
  · exact ⟨show (44 : UInt8).toNat < 128 by decide, rfl, show sg (44 : UInt8).toNat = true by decide⟩
  · exact ⟨show (61 : UInt8).toNat < 128 by decide, rfl, show sg (61 : UInt8).toNat = true by decide⟩
set_option maxHeartbeats 6400000 in
set_option maxRecDepth 100000 in
theorem index_calls (s : ByteArray) (w : World) :
    Calls Tryd.prog 40 #[.string s, .string Sg] w fun e w' => ∃ r : Int, e = .returned (.int .i64 r) ∧ decide ((0 : Int) ≤ r) = !nos s s.size 0 ∧ Below w.heap.size w w' := by
  go_enter Tryd.func40, Tryd.ntmps40
  go_wp2_with fail
  go_loopw [5] (fun _ wr => ∃ pos f : Nat, Aside0 (wr.heap[w.heap.size]? = some (.stringIter s pos)) ∧ Aside0 (Below w.heap.size w wr) ∧ Aside0 (s.size ≤ pos + f ∧ nos s s.size 0 = nos s f pos)) (fun _ wr => s.size - wr.iterPos w.heap.size)
  case atStart =>
    exact ⟨0, s.size, ⟨World.iter_heap w s 0⟩, ⟨below_alloc (Below.refl _ _) _⟩, ⟨by omega, rfl⟩⟩
  case round =>
    obtain ⟨pos, f, hit, hbw, hn⟩ := hrel
    by_cases hp : pos < s.size
    · have hnx : ∀ ty, (Instr.next (.pointer (some ⟨w.heap.size, 0, none⟩)) true ty).run Tryd.prog wr = _ := fun ty => Lib.run_next_any_at wr w.heap.size s pos ty hit.out hp
      have hsz : w.heap.size < wr.heap.size := (Array.getElem?_eq_some_iff.1 hit.out).1
      have hw := wd_pos s pos
      obtain ⟨g, hg⟩ : ∃ g, f = g + 1 := ⟨f - 1, by have := hn.out.1; omega⟩
      obtain ⟨W2, hW2⟩ : ∃ W2, W2 = wr.iterAt w.heap.size s (pos + (Utf8.decode s pos).2) := ⟨_, rfl⟩
      have hit2 : W2.heap[w.heap.size]? = some (.stringIter s (pos + wd s pos)) := by rw [hW2]; exact Lib.iterAt_heap wr _ s pos _ hit.out
      have hB2 : Below w.heap.size w W2 := by rw [hW2]; exact Lib.below_iterAt hbw.out (Nat.le_refl _) s _
      have hsz2 : w.heap.size < W2.heap.size := (Array.getElem?_eq_some_iff.1 hit2).1
      rw [← hW2] at hnx
      have e4 : nos s f pos = (!sg (rn s pos) && nos s g (pos + wd s pos)) := by rw [hg]; simp only [nos, if_pos hp]
      obtain ⟨c, hc⟩ : ∃ c, c = rn s pos := ⟨_, rfl⟩
      have hc2 : (Utf8.decode s pos).1 = c := hc.symm
      rw [hc2] at hnx
      replace hg := Aside0.mk hg
      replace hW2 := Aside0.mk hW2
      replace hit2 := Aside0.mk hit2
      replace hB2 := Aside0.mk hB2
      replace hc := Aside0.mk hc
      replace hc2 := Aside0.mk hc2
      replace e4 := Aside0.mk e4
      replace hw := Aside0.mk hw
      go_wp2_with fail
      go_loopw [8] (fun _ w3 => ∃ j : Nat, w3 = W2.iter Sg j ∧ Aside0 (∀ i, i < j → ∃ b, Sg.data.toList[i]? = some b ∧ c ≠ b.toNat)) (fun _ w3 => 3 - w3.iterPos W2.heap.size)
      case atStart => exact ⟨0, rfl, ⟨fun i hi => absurd hi (by omega)⟩⟩
      case round =>
        obtain ⟨j, rfl, hj⟩ := hrel
        by_cases hq : j < Sg.size
        · obtain ⟨hb1, hb2, hb3⟩ := Sg_at hq
          have hnx2 : ∀ ty, (Instr.next (.pointer (some ⟨W2.heap.size, 0, none⟩)) true ty).run Tryd.prog (W2.iter Sg j) = _ := fun ty => run_next_ascii W2 Sg j ty hq hb1
          obtain ⟨d, hd⟩ : ∃ d, d = (Sg[j]'hq).toNat := ⟨_, rfl⟩
          rw [← hd] at hnx2
          replace hd := Aside0.mk hd
          clear hnx
          by_cases hcd : c = d
          · have ec : ((c : Int) == (d : Int)) = true := by rw [hcd]; exact beq_self_eq_true _
            replace hcd := Aside0.mk hcd
            go_wp2_with fail
            go_ret
            refine ⟨_, rfl, ?_, below_alloc hB2.out _⟩
            rw [hn.out.2, e4.out, ← hc.out, hcd.out, hd.out, hb3]
            simp
          · have ec : ((c : Int) == (d : Int)) = false := beq_eq_false_iff_ne.mpr (by omega)
            replace hcd := Aside0.mk hcd
            go_wp2_with fail
            go_roundw
            case rel =>
              refine ⟨j + 1, rfl, ⟨fun i hi => ?_⟩⟩
              by_cases hij : i < j
              · exact hj.out i hij
              · obtain rfl : i = j := by omega
                exact ⟨_, hb2, by have := hcd.out; rw [hd.out] at this; exact this⟩
            case measure =>
              have : j < 3 := hq
              simp
              omega
        · have hnx2 : ∀ ty, (Instr.next (.pointer (some ⟨W2.heap.size, 0, none⟩)) true ty).run Tryd.prog (W2.iter Sg j) = _ := fun ty => run_next_end W2 Sg j ty hq
          clear hnx
          go_wp2_with fail
          go_roundw
          case rel =>
            refine ⟨pos + wd s pos, g, ⟨?_⟩, ⟨below_alloc hB2.out _⟩, ⟨?_, ?_⟩⟩
            · exact (Lib.alloc_old W2 _ _ hsz2).trans hit2.out
            · have h1 := hn.out.1
              have h2 := hg.out
              have h3 := hw.out
              omega
            · rw [hn.out.2, e4.out]
              have : sg (rn s pos) = false := by
                rw [← hc.out]
                exact sgn c (fun i hi => hj.out i (by have : ¬ j < 3 := hq; omega))
              simp [this]
          case measure =>
            have h3 := hw.out
            have h4 : (W2.iter Sg j).heap[w.heap.size]? = some (.stringIter s (pos + wd s pos)) := by
              exact (Lib.alloc_old W2 _ _ hsz2).trans hit2.out
            simp only [World.iterPos, h4, hit.out]
            omega
    · have hnx : ∀ ty, (Instr.next (.pointer (some ⟨w.heap.size, 0, none⟩)) true ty).run Tryd.prog wr = _ := fun ty => Lib.run_next_end_at wr w.heap.size s pos ty hit.out hp
      go_wp2_with fail
      go_ret
      refine ⟨_, rfl, ?_, hbw.out⟩
      rw [hn.out.2]
      cases f with
      | zero => rfl
      | succ f => simp [nos, hp]
set_option maxHeartbeats 6400000 in
set_option maxRecDepth 100000 in
theorem contains_calls (s : ByteArray) (w : World) :
    Calls Tryd.prog 33 #[.string s, .string Sg] w fun e w' => e = .returned (.bool (!nos s s.size 0)) ∧ Below w.heap.size w w' := by
  go_enter Tryd.func33, Tryd.ntmps33
  go_wp2_with fail
  refine (index_calls s w).mono ?_
  rintro e w1 ⟨r, rfl, hr, hb⟩
  replace hr := Aside0.mk hr
  replace hb := Aside0.mk hb
  go_wp2_with fail
  go_ret
  exact ⟨by rw [← hr.out]; rfl, hb.out⟩
end Go.Proofs.YtccdnmachpepcaaDoor.FuZ

set_option linter.unusedSimpArgs false
set_option linter.unusedVariables false
namespace Go.Proofs.YtccdnmachpepcaaDoor.FuP
open Go Go.RowKit Go.Proofs.YtccdnmachpepcaaDoor.FuM Go.Proofs.YtccdnmachpepcaaDoorW.PrintWords Go.Proofs.YtccdnmachpepcaaDoorW.PrintLast
theorem en_encode (r : Nat) : (Utf8.encode (r : Int)).data.toList = en r := by
  have h := Extern.FmtText.encode_eq r
  unfold en Lib.encodeRune
  rw [← h]
  unfold Extern.FmtText.nums
  rw [List.map_map]
  exact ((List.map_congr_left (g := id) (fun a _ => by simp)).trans (List.map_id _)).symm
/-- The signs from here on. -/
def rl (s : ByteArray) : Nat → Nat → List Int
  | 0, _ => []
  | f + 1, p => if p < s.size then (rn s p : Int) :: rl s f (p + wd s p) else []
theorem runesFrom_rl (s : ByteArray) : ∀ (f p : Nat) (acc : Array Value), Conv.runesFrom s f p acc = acc ++ ((rl s f p).map fun z => Value.int .i32 z).toArray
  | 0, p, acc => by simp [Conv.runesFrom, rl]
  | f + 1, p, acc => by
    unfold Conv.runesFrom rl
    split
    · simp only []
      rw [runesFrom_rl s f _ _]
      apply Array.ext'
      simp [rn, wd]
    · simp
theorem foldl_bytes (x : List Int) : ∀ (b : ByteArray), (x.foldl (fun r n => r ++ Utf8.encode n) b).data.toList = b.data.toList ++ x.flatMap fun n => (Utf8.encode n).data.toList := by
  induction x with
  | nil => intro b; simp
  | cons n t ih =>
    intro b
    rw [List.foldl_cons, ih]
    simp [ByteArray.data_append]
theorem rl_rs (s : ByteArray) : ∀ (f p : Nat), ((rl s f p).flatMap fun n => (Utf8.encode n).data.toList) = rs s f p
  | 0, p => by simp [rl, rs, Lib.runesFrom]
  | f + 1, p => by
    by_cases hp : p < s.size
    · rw [rs_step s f p hp]
      simp only [rl, if_pos hp, List.flatMap_cons]
      rw [en_encode, rl_rs s f]
    · rw [rs_end s _ p hp]
      simp [rl, hp]
theorem rl_length (s : ByteArray) : ∀ (f p : Nat), (rl s f p).length ≤ f
  | 0, p => by simp [rl]
  | f + 1, p => by
    unfold rl
    split
    · have := rl_length s f (p + wd s p); simp; omega
    · simp
theorem pt_eq (s : ByteArray) : decide (runesBytes (rl s s.size 0) = s) = pt s := by
  unfold pt
  apply decide_eq_decide.2
  have e : (runesBytes (rl s s.size 0)).data.toList = rs s s.size 0 := by
    unfold runesBytes
    rw [foldl_bytes, rl_rs]
    simp
  constructor
  · intro h
    rw [← e, h]
  · intro h
    apply ByteArray.ext
    apply Array.ext'
    rw [e, h]
set_option maxHeartbeats 6400000 in
set_option maxRecDepth 100000 in
theorem plain_calls (s : ByteArray) (hs : s.size ≤ 70368744177664) (w : World) :
    Calls Tryd.prog 6 #[.string s] w fun e w' => e = .returned (.bool (pt s)) ∧ Below w.heap.size w w' := by
  obtain ⟨zs, hzs⟩ : ∃ zs, zs = rl s s.size 0 := ⟨_, rfl⟩
  have hl : zs.length ≤ s.size := by rw [hzs]; exact rl_length s s.size 0
  have hr : Conv.runesFrom s s.size 0 #[] = (zs.map fun z => Value.int .i32 z).toArray := by rw [runesFrom_rl, hzs]; simp
  have h1 := run_runes_of_string (P := Tryd.prog) w 9 42 21 s Tryd.underlying9 Tryd.underlying42 Tryd.underlying21 (by rw [hr]; simp; omega)
  rw [hr] at h1
  obtain ⟨cap, hcap⟩ : ∃ cap, cap = grownCap w (zs.map fun z => Value.int .i32 z).toArray.size 0 21 := ⟨_, rfl⟩
  rw [← hcap] at h1
  have hsz : (zs.map fun z => Value.int .i32 z).toArray.size = zs.length := by simp
  rw [hsz] at h1
  obtain ⟨w2, hw2⟩ : ∃ w2, w2 = w.drew.alloc (.cells ((zs.map fun z => Value.int .i32 z).toArray ++ Array.replicate (cap - zs.length) (.int .i32 0)) 21) := ⟨_, rfl⟩
  have hb : w2.heap[w.heap.size]? = some (.cells ((zs.map fun z => Value.int .i32 z).toArray ++ Array.replicate (cap - zs.length) (.int .i32 0)) 21 (0, 0)) := by rw [hw2]; exact heap_alloc_new w.drew _
  rw [← hw2] at h1
  have h2 := run_convert_runes (P := Tryd.prog) w2 42 9 21 ⟨w.heap.size, 0, none⟩ zs.length cap zs (Nat.le_refl _) Tryd.underlying42 Tryd.underlying21 Tryd.underlying9 (by
    intro j hj
    rw [Lib.addr_add, Nat.zero_add, Lib.cell_of_heap hb, Array.getElem?_append_left (by simpa using hj)]
    simp [hj, List.getD])
  rw [List.take_length] at h2
  have hB : Below w.heap.size w w2 := by rw [hw2]; exact (Below.refl _ w).drew.alloc (Nat.le_refl _) _
  have he := pt_eq s
  rw [← hzs] at he
  obtain ⟨S, hS⟩ : ∃ S, S = runesBytes zs := ⟨_, rfl⟩
  rw [← hS] at h2 he
  clear hS hb hcap hr hsz
  replace hw2 := Aside0.mk hw2
  replace hzs := Aside0.mk hzs
  replace hB := Aside0.mk hB
  replace he := Aside0.mk he
  clear hl hs
  go_enter Tryd.func6, Tryd.ntmps6
  go_wp2_with fail
  go_ret
  refine ⟨?_, hB.out⟩
  have e : (S.toList == s.toList) = pt s := by
    rw [← he.out, ByteArray.toList_eq, ByteArray.toList_eq, Bool.eq_iff_iff, beq_iff_eq, decide_eq_true_eq]
    exact ⟨fun h => ByteArray.ext (Array.ext' h), fun h => by rw [h]⟩
  rw [← e]
  rfl
end Go.Proofs.YtccdnmachpepcaaDoor.FuP

set_option linter.unusedSimpArgs false
set_option linter.unusedVariables false
namespace Go.Proofs.YtccdnmachpepcaaDoor.FuU
open Go Go.RowKit Go.Proofs.YtccdnmachpepcaaDoor.FuM Go.Proofs.YtccdnmachpepcaaDoorW.PrintWords Go.Proofs.YtccdnmachpepcaaDoorW.PrintLast
/-- What UnescapeValue tells: a text, or an error. -/
def URes (r : Option (List UInt8)) (e : Ending) : Prop := match r with
  | some x => e = .returned (.tuple #[.string ⟨x.toArray⟩, .nilIface])
  | none => ∃ t p, e = .returned (.tuple #[.string ⟨#[]⟩, .iface t p])
/-- A buffer with room, made of a row of its own. -/
theorem newbuf_calls (g n : Nat) (w : World) :
    Calls Tryd.prog 34 #[.slice (some ⟨g, 0, none⟩) 0 n] w fun e w' => e = .returned (.pointer (some ⟨w.heap.size, 0, none⟩)) ∧ w' = w.alloc (.cells #[.slice (some ⟨g, 0, none⟩) 0 n, .int .i64 0, .int .i8 0] 110) := by
  go_enter Tryd.func34, Tryd.ntmps34
  go_wp2_with fail
  go_ret
  exact ⟨rfl, rfl⟩
theorem newbuf_is (w : World) (n : Nat) (hn : n ≤ maxLen) : Lib.IsBuffer 110 5 w.heap.size (w.heap.size + 1) [] ((w.alloc (.cells (madeCells #[.int .u8 0] n) 5)).alloc (.cells #[.slice (some ⟨w.heap.size, 0, none⟩) 0 n, .int .i64 0, .int .i8 0] 110)) := by
  refine ⟨by omega, _, 0, ?_, ⟨rfl, Or.inr ⟨w.heap.size, n, madeCells #[.int .u8 0] n, rfl, Nat.le_refl _, ?_, Nat.zero_le _, hn, ?_, ?_⟩⟩, ?_⟩
  · have := heap_alloc_new (w.alloc (.cells (madeCells #[.int .u8 0] n) 5)) (.cells #[.slice (some ⟨w.heap.size, 0, none⟩) 0 n, .int .i64 0, .int .i8 0] 110)
    simpa using this
  · rw [Lib.alloc_old _ _ _ (by simp)]
    exact heap_alloc_new w _
  · rw [size_madeCells, Nat.mul_one]
  · simp
  · simp [Value.ownBlock]
theorem conv_two (c : Int) (W : World) : (convert 42 9 (.slice (some ⟨W.heap.size, 0, none⟩) 2 2)).run Tryd.prog (W.alloc (.cells #[.int .i32 92, .int .i32 c] 21)).drew = .ok (.string (runesBytes [92, c])) (W.alloc (.cells #[.int .i32 92, .int .i32 c] 21)).drew := by
  have hb : (W.alloc (.cells #[.int .i32 92, .int .i32 c] 21)).drew.heap[W.heap.size]? = some (.cells #[.int .i32 92, .int .i32 c] 21 (0, 0)) := heap_alloc_new W _
  have h := run_convert_runes (P := Tryd.prog) (W.alloc (.cells #[.int .i32 92, .int .i32 c] 21)).drew 42 9 21 ⟨W.heap.size, 0, none⟩ 2 2 [92, c] (Nat.le_refl _) Tryd.underlying42 Tryd.underlying21 Tryd.underlying9 (by
    intro j hj
    rw [Lib.addr_add, Nat.zero_add, Lib.cell_of_heap hb]
    have hj2 : j = 0 ∨ j = 1 := by simp at hj; omega
    rcases hj2 with rfl | rfl <;> rfl)
  exact h
theorem uv_step (s : ByteArray) (f p : Nat) (sl : Bool) (acc : List UInt8) (h : p < s.size) : uv s (f + 1) p sl acc = (if sl then (if sg (rn s p) then uv s f (p + wd s p) false (acc ++ en (rn s p)) else none)
       else if rn s p = 92 then uv s f (p + wd s p) true acc
       else if rn s p = 44 ∨ rn s p = 61 then none
       else uv s f (p + wd s p) false (acc ++ en (rn s p))) := if_pos h
theorem en4 (r : Nat) : (en r).length ≤ 4 := by rw [en_length]; exact (Lib.encodeRuneZ_length _).2
set_option maxHeartbeats 6400000 in
set_option maxRecDepth 100000 in
theorem unescape_calls (s : ByteArray) (hs : s.size ≤ 1099511627776) (hpt : pt s = true) (w : World) :
    Calls Tryd.prog 29 #[.string s] w fun e w' => URes (uv s s.size 0 false []) e ∧ Below w.heap.size w w' := by
  have hmk := fun W : World => run_make_room (P := Tryd.prog) 65 5 (.int .u8 0) 1 Tryd.underlying65 (by kernel_rfl) rfl .i64 .i64 s.size (by omega) (by omega) W
  go_enter Tryd.func29, Tryd.ntmps29
  go_wp2_with fail
  refine (FuZ.contains_calls s w).mono ?_
  rintro e w1 ⟨rfl, hb⟩
  replace hb := Aside0.mk hb
  cases hn : nos s s.size 0 with
  | true =>
    have hr := nos_uv s s.size 0 [] hn
    replace hr := Aside0.mk hr
    replace hn := Aside0.mk hn
    replace hpt := Aside0.mk hpt
    go_wp2_with fail
    refine bodyPost_ret (results_list (rs := [.tmp 2, .tmp 3]) rfl (by simp) (.tmp (.tmp .nil))) rfl ?_
    refine ⟨?_, hb.out⟩
    rw [hr.out]
    have h2 : rs s s.size 0 = L s := by simpa [pt] using hpt.out
    rw [h2]
    rfl
  | false =>
    clear hn hpt
    obtain ⟨w2, hw2⟩ : ∃ w2, w2 = w1.alloc (.cells (madeCells #[.int .u8 0] s.size) 5) := ⟨_, rfl⟩
    obtain ⟨w3, hw3⟩ : ∃ w3, w3 = w2.alloc (.cells #[.slice (some ⟨w1.heap.size, 0, none⟩) 0 s.size, .int .i64 0, .int .i8 0] 110) := ⟨_, rfl⟩
    have hI := newbuf_is w1 s.size (by unfold maxLen; omega)
    rw [← hw2, ← hw3] at hI
    replace hmk := hmk w1
    rw [← hw2] at hmk
    have hs2 : w2.heap.size = w1.heap.size + 1 := by rw [hw2]; simp
    have hs3 : w3.heap.size = w1.heap.size + 2 := by rw [hw3]; simp [hs2]
    have hB3 : Below w1.heap.size w1 w3 := by rw [hw3, hw2]; exact below_alloc (below_alloc (Below.refl _ _) _) _
    replace hI := Aside0.mk hI
    replace hw2 := Aside0.mk hw2
    replace hs2 := Aside0.mk hs2
    replace hs3 := Aside0.mk hs3
    replace hB3 := Aside0.mk hB3
    have hnb := newbuf_calls w1.heap.size s.size w2
    rw [← hw3, hs2.out] at hnb
    replace hw3 := Aside0.mk hw3
    replace hnb := Aside0.mk hnb
    replace hs := Aside0.mk hs
    go_wp2_with fail
    refine hnb.out.mono ?_
    rintro e w4 ⟨rfl, rfl⟩
    clear hmk
    go_wp2_with fail
    go_loopw [5] (fun sl wr => ∃ (pos f : Nat) (acc : List UInt8) (b : Bool), sl = .bool b ∧ Aside0 (Lib.IsBuffer 110 5 w1.heap.size (w1.heap.size + 1) (Lib.byteCells acc) wr) ∧ Aside0 (wr.heap[w4.heap.size]? = some (.stringIter s pos)) ∧ Aside0 (Below w1.heap.size w1 wr) ∧ Aside0 (s.size ≤ pos + f ∧ uv s s.size 0 false [] = uv s f pos b acc ∧ acc.length ≤ 4 * pos)) (fun _ wr => s.size - wr.iterPos w4.heap.size)
    case atStart =>
      exact ⟨0, s.size, [], false, rfl, ⟨hI.out.alloc _⟩, ⟨World.iter_heap w4 s 0⟩, ⟨below_alloc hB3.out _⟩, ⟨by omega, rfl, by simp⟩⟩
    case round =>
      obtain ⟨pos, f, acc, b, rfl, hI, hit, hbw, hn⟩ := hrel
      by_cases hp : pos < s.size
      · have hnx : ∀ ty, (Instr.next (.pointer (some ⟨w4.heap.size, 0, none⟩)) true ty).run Tryd.prog wr = _ := fun ty => Lib.run_next_any_at wr w4.heap.size s pos ty hit.out hp
        have hsz : w4.heap.size < wr.heap.size := (Array.getElem?_eq_some_iff.1 hit.out).1
        have hw := wd_pos s pos
        obtain ⟨g, hg⟩ : ∃ g, f = g + 1 := ⟨f - 1, by have := hn.out.1; omega⟩
        obtain ⟨W2, hW2⟩ : ∃ W2, W2 = wr.iterAt w4.heap.size s (pos + (Utf8.decode s pos).2) := ⟨_, rfl⟩
        have hit2 : W2.heap[w4.heap.size]? = some (.stringIter s (pos + wd s pos)) := by rw [hW2]; exact Lib.iterAt_heap wr _ s pos _ hit.out
        have hB2 : Below w1.heap.size w1 W2 := by rw [hW2]; exact Lib.below_iterAt hbw.out (by rw [hs3.out]; omega) s _
        have hI2 : Lib.IsBuffer 110 5 w1.heap.size (w1.heap.size + 1) (Lib.byteCells acc) W2 := by rw [hW2]; exact hI.out.iterAt hit.out _
        have hsz2 : w4.heap.size < W2.heap.size := (Array.getElem?_eq_some_iff.1 hit2).1
        have hk4 := hs3.out
        have hBW : w1.heap.size ≤ W2.heap.size := by omega
        have hne4 : w4.heap.size ≠ w1.heap.size + 1 := by omega
        rw [← hW2] at hnx
        obtain ⟨c, hc⟩ : ∃ c, c = rn s pos := ⟨_, rfl⟩
        have hc2 : (Utf8.decode s pos).1 = c := hc.symm
        rw [hc2] at hnx
        have hc0 : (-2147483648 : Int) ≤ c := by omega
        have hc1 : (c : Int) ≤ 2147483647 := by have := rn_le s pos; omega
        have hlen : (Lib.byteCells acc).length + 4 ≤ 140737488355328 := by rw [Lib.byteCells_length]; have h1 := hn.out.2.2; have h2 := hs.out; omega
        replace hg := Aside0.mk hg
        replace hW2 := Aside0.mk hW2
        replace hit2 := Aside0.mk hit2
        replace hB2 := Aside0.mk hB2
        replace hI2 := Aside0.mk hI2
        replace hsz2 := Aside0.mk hsz2
        replace hc := Aside0.mk hc
        replace hc2 := Aside0.mk hc2
        replace hw := Aside0.mk hw
        replace hc0 := Aside0.mk hc0
        replace hc1 := Aside0.mk hc1
        replace hlen := Aside0.mk hlen
        replace hk4 := Aside0.mk hk4
        replace hBW := Aside0.mk hBW
        replace hne4 := Aside0.mk hne4
        cases b with
        | true =>
          by_cases h92 : c = 92
          · have e92 : ((c : Int) == 92) = true := by rw [h92]; rfl
            have e44 : ((c : Int) == 44) = false := beq_eq_false_iff_ne.mpr (by omega)
            have e61 : ((c : Int) == 61) = false := beq_eq_false_iff_ne.mpr (by omega)
            have hstep : uv s f pos true acc = uv s g (pos + wd s pos) false (acc ++ en (rn s pos)) := by
              rw [hg.out, uv_step s g pos _ acc hp]
              have : sg (rn s pos) = true := by rw [← hc.out, h92]; rfl
              rw [this]
              simp
            replace hstep := Aside0.mk hstep
            replace h92 := Aside0.mk h92
            go_wp2_with fail
            refine (Tryd.Buffer_WriteRune_k w1.heap.size (w1.heap.size + 1) (Lib.byteCells acc) c hc0.out hc1.out W2 hI2.out hBW.out (Lib.byteCells_one _) hlen.out).mono ?_
            rintro e W3 ⟨rfl, h1, b1, k1⟩
            replace h1 := Aside0.mk h1
            replace b1 := Aside0.mk b1
            replace k1 := Aside0.mk k1
            go_wp2_with fail
            go_roundw
            case rel =>
              exact ⟨pos + wd s pos, g, acc ++ en (rn s pos), false, rfl, ⟨by rw [Lib.byteCells_append, ← hc.out]; unfold en; rw [Lib.byteCells_encodeRune]; exact h1.out⟩, ⟨k1.out.iter hit2.out hne4.out⟩, ⟨hB2.out.trans b1.out⟩, ⟨by have h2 := hn.out.1; have h3 := hg.out; have h4 := hw.out; omega, hn.out.2.1.trans hstep.out, by rw [List.length_append]; have h2 := hn.out.2.2; have h3 := en4 (rn s pos); have h4 := hw.out; omega⟩⟩
            case measure =>
              have h3 := hw.out
              have h4 : W3.heap[w4.heap.size]? = some (.stringIter s (pos + wd s pos)) := k1.out.iter hit2.out hne4.out
              simp only [World.iterPos, h4, hit.out]
              omega
          · skip
            by_cases h44 : c = 44
            · have e92 : ((c : Int) == 92) = false := beq_eq_false_iff_ne.mpr (by omega)
              have e44 : ((c : Int) == 44) = true := by rw [h44]; rfl
              have e61 : ((c : Int) == 61) = false := beq_eq_false_iff_ne.mpr (by omega)
              have hstep : uv s f pos true acc = uv s g (pos + wd s pos) false (acc ++ en (rn s pos)) := by
                rw [hg.out, uv_step s g pos _ acc hp]
                have : sg (rn s pos) = true := by rw [← hc.out, h44]; rfl
                rw [this]
                simp
              replace hstep := Aside0.mk hstep
              replace h92 := Aside0.mk h92
              replace h44 := Aside0.mk h44
              go_wp2_with fail
              refine (Tryd.Buffer_WriteRune_k w1.heap.size (w1.heap.size + 1) (Lib.byteCells acc) c hc0.out hc1.out W2 hI2.out hBW.out (Lib.byteCells_one _) hlen.out).mono ?_
              rintro e W3 ⟨rfl, h1, b1, k1⟩
              replace h1 := Aside0.mk h1
              replace b1 := Aside0.mk b1
              replace k1 := Aside0.mk k1
              go_wp2_with fail
              go_roundw
              case rel =>
                exact ⟨pos + wd s pos, g, acc ++ en (rn s pos), false, rfl, ⟨by rw [Lib.byteCells_append, ← hc.out]; unfold en; rw [Lib.byteCells_encodeRune]; exact h1.out⟩, ⟨k1.out.iter hit2.out hne4.out⟩, ⟨hB2.out.trans b1.out⟩, ⟨by have h2 := hn.out.1; have h3 := hg.out; have h4 := hw.out; omega, hn.out.2.1.trans hstep.out, by rw [List.length_append]; have h2 := hn.out.2.2; have h3 := en4 (rn s pos); have h4 := hw.out; omega⟩⟩
              case measure =>
                have h3 := hw.out
                have h4 : W3.heap[w4.heap.size]? = some (.stringIter s (pos + wd s pos)) := k1.out.iter hit2.out hne4.out
                simp only [World.iterPos, h4, hit.out]
                omega
            · skip
              by_cases h61 : c = 61
              · have e92 : ((c : Int) == 92) = false := beq_eq_false_iff_ne.mpr (by omega)
                have e44 : ((c : Int) == 44) = false := beq_eq_false_iff_ne.mpr (by omega)
                have e61 : ((c : Int) == 61) = true := by rw [h61]; rfl
                have hstep : uv s f pos true acc = uv s g (pos + wd s pos) false (acc ++ en (rn s pos)) := by
                  rw [hg.out, uv_step s g pos _ acc hp]
                  have : sg (rn s pos) = true := by rw [← hc.out, h61]; rfl
                  rw [this]
                  simp
                replace hstep := Aside0.mk hstep
                replace h92 := Aside0.mk h92
                replace h44 := Aside0.mk h44
                replace h61 := Aside0.mk h61
                go_wp2_with fail
                refine (Tryd.Buffer_WriteRune_k w1.heap.size (w1.heap.size + 1) (Lib.byteCells acc) c hc0.out hc1.out W2 hI2.out hBW.out (Lib.byteCells_one _) hlen.out).mono ?_
                rintro e W3 ⟨rfl, h1, b1, k1⟩
                replace h1 := Aside0.mk h1
                replace b1 := Aside0.mk b1
                replace k1 := Aside0.mk k1
                go_wp2_with fail
                go_roundw
                case rel =>
                  exact ⟨pos + wd s pos, g, acc ++ en (rn s pos), false, rfl, ⟨by rw [Lib.byteCells_append, ← hc.out]; unfold en; rw [Lib.byteCells_encodeRune]; exact h1.out⟩, ⟨k1.out.iter hit2.out hne4.out⟩, ⟨hB2.out.trans b1.out⟩, ⟨by have h2 := hn.out.1; have h3 := hg.out; have h4 := hw.out; omega, hn.out.2.1.trans hstep.out, by rw [List.length_append]; have h2 := hn.out.2.2; have h3 := en4 (rn s pos); have h4 := hw.out; omega⟩⟩
                case measure =>
                  have h3 := hw.out
                  have h4 : W3.heap[w4.heap.size]? = some (.stringIter s (pos + wd s pos)) := k1.out.iter hit2.out hne4.out
                  simp only [World.iterPos, h4, hit.out]
                  omega
              · skip
                have e92 : ((c : Int) == 92) = false := beq_eq_false_iff_ne.mpr (by omega)
                have e44 : ((c : Int) == 44) = false := beq_eq_false_iff_ne.mpr (by omega)
                have e61 : ((c : Int) == 61) = false := beq_eq_false_iff_ne.mpr (by omega)
                have hstep : uv s f pos true acc = none := by
                  rw [hg.out, uv_step s g pos _ acc hp]
                  have : sg (rn s pos) = false := by rw [← hc.out]; simp [sg, h92, h44, h61]
                  rw [this]
                  simp
                replace hstep := Aside0.mk hstep
                replace h92 := Aside0.mk h92
                replace h44 := Aside0.mk h44
                replace h61 := Aside0.mk h61
                have hcv := conv_two c W2
                go_wp2_with fail
                go_region
                go_wp2_with fail
                refine bodyPost_ret (results_list (rs := [.tmp 2, .tmp 3]) rfl (by simp) (.tmp (.tmp .nil))) rfl ?_
                refine ⟨?_, hb.out.trans (((below_alloc hB2.out _).drew).mono hb.out.size)⟩
                rw [hn.out.2.1, hstep.out]
                exact ⟨_, _, rfl⟩
        | false =>
          by_cases h92 : c = 92
          · have e92 : ((c : Int) == 92) = true := by rw [h92]; rfl
            have e44 : ((c : Int) == 44) = false := beq_eq_false_iff_ne.mpr (by omega)
            have e61 : ((c : Int) == 61) = false := beq_eq_false_iff_ne.mpr (by omega)
            have hstep : uv s f pos false acc = uv s g (pos + wd s pos) true acc := by
              rw [hg.out, uv_step s g pos _ acc hp]
              simp [← hc.out, h92]
            replace hstep := Aside0.mk hstep
            replace h92 := Aside0.mk h92
            go_wp2_with fail
            go_roundw
            case rel =>
              exact ⟨pos + wd s pos, g, acc, true, rfl, hI2, hit2, hB2, ⟨by have h2 := hn.out.1; have h3 := hg.out; have h4 := hw.out; omega, hn.out.2.1.trans hstep.out, by have h2 := hn.out.2.2; have h4 := hw.out; omega⟩⟩
            case measure =>
              have h3 := hw.out
              simp only [World.iterPos, hit2.out, hit.out]
              omega
          · skip
            by_cases h44 : c = 44
            · have e92 : ((c : Int) == 92) = false := beq_eq_false_iff_ne.mpr (by omega)
              have e44 : ((c : Int) == 44) = true := by rw [h44]; rfl
              have e61 : ((c : Int) == 61) = false := beq_eq_false_iff_ne.mpr (by omega)
              have hstep : uv s f pos false acc = none := by
                rw [hg.out, uv_step s g pos _ acc hp]
                simp [← hc.out, h44]
              replace hstep := Aside0.mk hstep
              replace h92 := Aside0.mk h92
              replace h44 := Aside0.mk h44
              go_wp2_with fail
              refine bodyPost_ret (results_list (rs := [.tmp 2, .tmp 3]) rfl (by simp) (.tmp (.tmp .nil))) rfl ?_
              refine ⟨?_, hb.out.trans ((hB2.out).mono hb.out.size)⟩
              rw [hn.out.2.1, hstep.out]
              exact ⟨_, _, rfl⟩
            · skip
              by_cases h61 : c = 61
              · have e92 : ((c : Int) == 92) = false := beq_eq_false_iff_ne.mpr (by omega)
                have e44 : ((c : Int) == 44) = false := beq_eq_false_iff_ne.mpr (by omega)
                have e61 : ((c : Int) == 61) = true := by rw [h61]; rfl
                have hstep : uv s f pos false acc = none := by
                  rw [hg.out, uv_step s g pos _ acc hp]
                  simp [← hc.out, h61]
                replace hstep := Aside0.mk hstep
                replace h92 := Aside0.mk h92
                replace h44 := Aside0.mk h44
                replace h61 := Aside0.mk h61
                go_wp2_with fail
                refine bodyPost_ret (results_list (rs := [.tmp 2, .tmp 3]) rfl (by simp) (.tmp (.tmp .nil))) rfl ?_
                refine ⟨?_, hb.out.trans ((hB2.out).mono hb.out.size)⟩
                rw [hn.out.2.1, hstep.out]
                exact ⟨_, _, rfl⟩
              · skip
                have e92 : ((c : Int) == 92) = false := beq_eq_false_iff_ne.mpr (by omega)
                have e44 : ((c : Int) == 44) = false := beq_eq_false_iff_ne.mpr (by omega)
                have e61 : ((c : Int) == 61) = false := beq_eq_false_iff_ne.mpr (by omega)
                have hstep : uv s f pos false acc = uv s g (pos + wd s pos) false (acc ++ en (rn s pos)) := by
                  rw [hg.out, uv_step s g pos _ acc hp]
                  simp [← hc.out, h92, h44, h61]
                replace hstep := Aside0.mk hstep
                replace h92 := Aside0.mk h92
                replace h44 := Aside0.mk h44
                replace h61 := Aside0.mk h61
                go_wp2_with fail
                refine (Tryd.Buffer_WriteRune_k w1.heap.size (w1.heap.size + 1) (Lib.byteCells acc) c hc0.out hc1.out W2 hI2.out hBW.out (Lib.byteCells_one _) hlen.out).mono ?_
                rintro e W3 ⟨rfl, h1, b1, k1⟩
                replace h1 := Aside0.mk h1
                replace b1 := Aside0.mk b1
                replace k1 := Aside0.mk k1
                go_wp2_with fail
                go_roundw
                case rel =>
                  exact ⟨pos + wd s pos, g, acc ++ en (rn s pos), false, rfl, ⟨by rw [Lib.byteCells_append, ← hc.out]; unfold en; rw [Lib.byteCells_encodeRune]; exact h1.out⟩, ⟨k1.out.iter hit2.out hne4.out⟩, ⟨hB2.out.trans b1.out⟩, ⟨by have h2 := hn.out.1; have h3 := hg.out; have h4 := hw.out; omega, hn.out.2.1.trans hstep.out, by rw [List.length_append]; have h2 := hn.out.2.2; have h3 := en4 (rn s pos); have h4 := hw.out; omega⟩⟩
                case measure =>
                  have h3 := hw.out
                  have h4 : W3.heap[w4.heap.size]? = some (.stringIter s (pos + wd s pos)) := k1.out.iter hit2.out hne4.out
                  simp only [World.iterPos, h4, hit.out]
                  omega
      · have hnx : ∀ ty, (Instr.next (.pointer (some ⟨w4.heap.size, 0, none⟩)) true ty).run Tryd.prog wr = _ := fun ty => Lib.run_next_end_at wr w4.heap.size s pos ty hit.out hp
        have hstep := uv_end s f pos b acc hp
        cases b with
        | true =>
          replace hstep := Aside0.mk hstep
          go_wp2_with fail
          refine bodyPost_ret (results_list (rs := [.tmp 2, .tmp 3]) rfl (by simp) (.tmp (.tmp .nil))) rfl ?_
          refine ⟨?_, hb.out.trans ((hbw.out).mono hb.out.size)⟩
          rw [hn.out.2.1, hstep.out]
          exact ⟨_, _, rfl⟩
        | false =>
          replace hstep := Aside0.mk hstep
          go_wp2_with fail
          refine (Tryd.Buffer_String w1.heap.size (w1.heap.size + 1) acc wr hI.out).mono ?_
          rintro e W3 ⟨rfl, n, rfl⟩
          go_wp2_with fail
          refine bodyPost_ret (results_list (rs := [.tmp 2, .tmp 3]) rfl (by simp) (.tmp (.tmp .nil))) rfl ?_
          refine ⟨?_, hb.out.trans (Below.mono (hbw.out.trans ⟨rfl, rfl, rfl, Nat.le_refl _, fun _ _ => rfl⟩) hb.out.size)⟩
          rw [hn.out.2.1, hstep.out]
          rfl
end Go.Proofs.YtccdnmachpepcaaDoor.FuU
