/- Maps from texts to texts: the functions on sets of labels walked. -/
import Derived.Test.YtmipenoiodjbhaaProg
import Derived.Test.YtmipenoiodjbhaaMapGen
import Derived.Test.YtmipenoiodjbhaaSetS
import Derived.Test.YtmipenoiodjbhaaXFnLabelSetsx3
namespace Go.Proofs.Ytmipenoiodjbhaa.MapS
open Go.RowKit Go.Maps Go.Proofs.YtmipenoiodjbhaaW.PrintWords Go.Proofs.Ytmipenoiodjbhaa.SetGen Go.Proofs.Ytmipenoiodjbhaa.MapGen Go.Proofs.Ytmipenoiodjbhaa.XFnLabelSets
open Go.Proofs.Ytmipenoiodjbhaa.SetS (S_below take_succ_of meas C_one srt srt_length canon canon_eq R_in infoE)

theorem kstr : Try.prog.underlying 9 = some .string := Try.underlying9
theorem zeroS (w : World) : (zeroValue 9).run Try.prog w = .ok (.string E0) w := by kernel_rfl
abbrev M (w : World) (b N : Nat) (f : ByteArray → Option ByteArray) : Prop := Mp Try.prog 9 w b N f
abbrev MR (w : World) (b r N : Nat) (f : ByteArray → Option ByteArray) (done : List ByteArray) : Prop := Mr Try.prog 9 w b r N f done
theorem M_below {w w' : World} {b N : Nat} {f : ByteArray → Option ByteArray} (h : M w b N f) (hb : Below w.heap.size w w') : M w' b N f := h.kept (grown_of_below hb none) (by simp)
/-- A set of labels, of pairs: of one key the last pair counts. -/
def fn (l : List S44) : ByteArray → Option ByteArray := l.foldl (fun g p q => if q = p.f0 then some p.f1 else g q) (fun _ => none)
theorem fn_snoc (l : List S44) (p : S44) : fn (l ++ [p]) = fun q => if q = p.f0 then some p.f1 else fn l q := by unfold fn; rw [List.foldl_append]; rfl
theorem at_of {l : List S44} {k : Nat} {x : S44} (h : rd_T44 l (k : Int) = x) (hk : k < l.length) : l[k]? = some x := by
  rw [← h]
  simp [rd_T44, hk]
theorem take_succ {l : List S44} {k : Nat} {x : S44} (h : l[k]? = some x) : l.take (k + 1) = l.take k ++ [x] := by
  rw [List.take_add_one, h]; rfl

set_option maxHeartbeats 600000 in
set_option maxRecDepth 100000 in
theorem labelSet_calls (A : Option Addr) (l : List S44) (c : Nat) (w : World) (hr : k44.C w A l.length l) (hl : l.length ≤ 4294967296) (hok : ∀ p ∈ l, p.f0.size ≤ maxLen ∧ p.f1.size ≤ maxLen) :
    Calls Try.prog 46 #[.slice A l.length c] w fun e w' => e = .returned (.map (some w.heap.size)) ∧ M w' w.heap.size l.length (fn l) ∧ Below w.heap.size w w' := by
  have hlx := Aside0.mk hl
  have hokx := Aside0.mk hok
  have hu44 := Try.underlying44
  clear hok
  go_enter Try.func46, Try.ntmps46
  go_wp2_with (first
    | (refine MapGen.wp_make (k := 9) _ rfl 62 rfl ?_; intro w1 hMw1 hgw1 hzw1; have hMw1 := Aside0.mk hMw1; have hgw1 := Aside0.mk hgw1; have hzw1 := Aside0.mk hzw1)
    | go_in)
  go_loopw [9] (fun i wr => ∃ k : Nat, k ≤ l.length ∧ i = .int .i64 k ∧ M wr w.heap.size k (fn (l.take k)) ∧ Below w.heap.size w wr) (fun i _ => l.length - (intOf i).toNat)
  case atStart => exact ⟨0, Nat.zero_le _, rfl, hMw1.out, Below.grown (Below.refl _ _) hgw1.out (Nat.le_refl _) (fun j hj => by cases hj)⟩
  case round =>
    obtain ⟨k, hk, rfl, hMk, hB⟩ := hrel
    have hrk := Kd.C_below hr hB
    by_cases c3 : (k : Int) < (l.length : Int)
    · obtain ⟨x, hx⟩ : ∃ x, rd_T44 l (k : Int) = x := ⟨_, rfl⟩
      have hxl : l[k]? = some x := at_of hx (by omega)
      have hxm := hokx.out x (List.mem_of_getElem? hxl)
      have p := Int.natCast_nonneg k
      obtain ⟨ad, e1, hcell, hcell2⟩ := at_T44 hrk (k : Int) p c3
      rw [hx, Int.toNat_natCast] at hcell hcell2
      cases e1
      have hxl := Aside0.mk hxl
      have c3b := decide_eq_true c3
      have hk2 := Aside0.mk (show k + 1 ≤ l.length by omega)
      obtain ⟨s, v, rfl⟩ : ∃ s v, x = ⟨s, v⟩ := ⟨x.f0, x.f1, rfl⟩
      have hxm := Aside0.mk hxm
      replace p := eq_true p
      replace c3 := eq_true c3
      have hMx := Aside0.mk (hMk.kept (World.grownBy_alloc wr (.cells #[.string s, .string v] 44) none) (by simp))
      have hBx := Aside0.mk hB
      clear hMk hB hrk hx
      go_wp2_with (first
        | (at_mapUpdate; refine MapGen.wp_put _ kstr rfl _ _ _ 62 rfl Try.underlying62 w.heap.size k (fn (l.take k)) rfl hMx.out (by have := hk2.out; have := hlx.out; unfold maxLen; omega) s v hxm.out.1 hxm.out.2 rfl rfl ?_; intro w3 hM3 hg3; have hM3 := Aside0.mk hM3; have hg3 := Aside0.mk hg3)
        | go_in)
      have hgg := alloc_then hg3.out
      go_roundw
      case measure => have := hk2.out; first | exact meas this | (rw [show (k : Int) + 1 = ((k + 1 : Nat) : Int) from rfl]; exact meas this)
      case rel =>
        refine ⟨k + 1, hk2.out, by go_num, ?_, Below.grown hBx.out hgg hBx.out.size (fun j hj => by cases hj; exact Nat.le_refl _)⟩
        rw [take_succ hxl.out, fn_snoc]
        exact hM3.out
    · have c3b := decide_eq_false c3
      obtain rfl : k = l.length := by omega
      rw [List.take_length] at hMk
      have hMx := Aside0.mk hMk
      have hBx := Aside0.mk hB
      clear hMk hB hrk
      go_wp2
      go_ret
      exact ⟨rfl, hMx.out, hBx.out⟩

def KeysPost (f : ByteArray → Option ByteArray) (w : World) (e : Ending) (w' : World) : Prop := ∃ (v : Value) (xs : List ByteArray), xs.Nodup ∧ (∀ x, x ∈ xs ↔ (f x).isSome) ∧ e = .returned v ∧ Kd.string.R 9 w' w.heap.size (fun _ => True) v (srt xs) ∧ Below w.heap.size w w'
set_option maxHeartbeats 600000 in
set_option maxRecDepth 100000 in
theorem keys_calls (b N : Nat) (f : ByteArray → Option ByteArray) (w : World) (hM : M w b N f) (hN : N ≤ 8589934592) :
    Calls Try.prog 87 #[.map (some b)] w (KeysPost f w) := by
  have hMx := Aside0.mk hM
  have hNx := Aside0.mk hN
  have hbb := Aside0.mk hM.lt
  clear hM hN
  obtain ⟨i0, hi, hz0, hz1, hz2⟩ := info_parts infoE
  have hi := Aside0.mk hi
  have hz0 := Aside0.mk hz0
  have hz1 := Aside0.mk hz1
  have hz2 := Aside0.mk hz2
  go_enter Try.func87, Try.ntmps87
  go_wp2_with (first
    | (at_range; refine MapGen.wp_range _ kstr rfl _ 61 rfl Try.underlying61 b N f rfl hMx.out ?_; intro w2 hGw2 hgw2 hzw2; have hGw2 := Aside0.mk hGw2; have hgw2 := Aside0.mk hgw2; have hzw2 := Aside0.mk hzw2)
    | go_in)
  go_frame
  go_loopw [3, 4] (fun v _ wr => ∃ done, MR wr b w.heap.size N f done ∧ wr.ownsRow w.heap.size 9 1 v done.length (done.map Value.string) ∧ Below w.heap.size w wr) (fun _ _ wr => wr.rangeLeft b w.heap.size)
  case atStart => exact ⟨[], hGw2.out, World.ownsRow_nil _ _ _ _, Below.grown (Below.refl _ _) hgw2.out (Nat.le_refl _) (fun j hj => by cases hj)⟩
  case round =>
    obtain ⟨done, hG, hrow, hB⟩ := hrel
    have hG := Aside0.mk hG
    have hrow := Aside0.mk hrow
    have hB := Aside0.mk hB
    go_wp2_with (first
      | (at_next; refine MapGen.wp_next _ kstr rfl _ rfl b w.heap.size N f done rfl hG.out ?_ ?_)
      | go_in)
    · intro hall
      have hlen := hG.out.length kstr
      have hn := hG.out.nodup
      have hm : ∀ x, x ∈ done ↔ (f x).isSome := fun x => ⟨hn.2 x, hall x⟩
      rcases hrow.out.2 with ⟨rfl, hnil⟩ | ⟨g, cap, cur, rfl, hbase, hb, h1, h2, h3, h4⟩
      · have hd : done = [] := by simpa using hnil
        subst hd
        have hn := Aside0.mk hn.1
        have hm := Aside0.mk hm
        clear hall hlen hnil
        go_wp2_with fail
        refine (Try.slices_Sort_string_none none 0 _).mono ?_
        rintro e w4 ⟨rfl, rfl⟩
        go_wp2_with fail
        go_ret
        have h0 : srt ([] : List ByteArray) = [] := List.eq_nil_of_length_eq_zero (srt_length [])
        exact ⟨_, [], hn.out, hm.out, rfl, (by rw [h0]; exact Kd.R_nil _ _ _ _ _), hB.out⟩
      · have hn := Aside0.mk hn.1
        have hm := Aside0.mk hm
        have hbase := Aside0.mk hbase
        have hb := Aside0.mk hb
        have h1 := Aside0.mk h1
        have h2 := Aside0.mk h2
        have h3 := Aside0.mk h3
        have h4 := Aside0.mk h4
        have hlen := Aside0.mk hlen
        clear hall
        have hh := Aside0.mk (holds_of_block (ss := done.map fun s => s.data.toList) hb.out (by
          have := h4.out
          rw [Nat.mul_one] at this
          rw [List.length_map, this, List.map_map]
          rfl))
        have hcs := Aside0.mk (Try.slices_Sort_string g 0 cap (done.map fun s => s.data.toList) wr hh.out (Array.getElem?_eq_some_iff.1 hb.out).1 (by rw [List.length_map]; have := hlen.out; have := hNx.out; omega))
        have hcs := Aside0.mk (show Calls Try.prog 97 #[.slice (some ⟨g, 0, none⟩) done.length cap] wr _ from by have := hcs.out; rw [List.length_map] at this; exact this)
        go_wp2_with fail
        refine hcs.out.mono ?_
        rintro e w4 ⟨rfl, nn, os, rfl⟩
        go_wp2_with fail
        go_ret
        have e2 := srt_length done
        refine ⟨_, done, hn.out, hm.out, rfl, ?_, Below.grown hB.out (grownBy_sorted _) hB.out.size (fun j hj => by cases hj; exact hbase.out)⟩
        have e3 : ((done.map fun s => s.data.toList).mergeSort fun x y => decide (x ≤ y)).length = (done.map fun s => s.data.toList).length := List.length_mergeSort _
        have := ownsRow_sorted (n := nn) (os := os) (ss := done.map fun s => s.data.toList) e3 hbase.out hb.out (by rw [List.length_map]; exact h1.out) h2.out h3.out
        rw [List.length_map] at this
        refine Kd.R_of_own ?_ (fun _ _ => trivial)
        rw [e2]
        unfold encs srt
        rw [List.map_map]
        exact this
    · intro x v3 w3 hok hfx hvs hxd hG3 hlt hg3 hs3 hen
      clear hs3
      have hlen := hG3.length kstr
      rw [List.length_append, List.length_singleton] at hlen
      have hlen := Aside0.mk (show done.length + 1 ≤ 8589934592 by have := hNx.out; omega)
      have hne := hG.out.row_ne hrow.out
      have hrow3 := Aside0.mk (World.ownsRow.kept hrow.out hg3 (.inr (fun h => hne h.symm)))
      have hB3 := Aside0.mk (Below.grown hB.out hg3 hB.out.size (fun j hj => by cases hj; exact Nat.le_refl _))
      have hG3 := Aside0.mk hG3
      have hlt := Aside0.mk hlt
      have hne := Aside0.mk hne
      clear hfx hvs hxd hg3
      go_wp2_with (first
        | (at_builtin; refine wpList_append_own _ rfl _ _ 27 rfl w.heap.size 9 i0 _ 1 16 Try.underlying27 hi.out hz0.out hz1.out hz2.out rfl (by decide) _ _ _ rfl (hrow3.out.alloc _) ⟨w3.heap.size, 0, none⟩ 1 1 [.string x] rfl rfl (cell_one_new _ _ _) (fun u hu => by rw [List.mem_singleton.1 hu]; rfl) (by have := hlen.out; unfold maxLen; omega) (by have := hlen.out; omega) (Nat.le_trans hB3.out.size (by simp)) ?_; intro v' w4 hown4 hg4 hnil4; have hown4 := Aside0.mk hown4; have hg4 := Aside0.mk hg4; clear hnil4)
        | go_in)
      have hgg := alloc_then hg4.out
      have hbv : some b ≠ Value.ownBlock _ := fun e1 => by have := (hrow.out.lt b e1.symm).1; have := hbb.out; omega
      go_roundw
      case rel => exact ⟨done ++ [x], hG3.out.kept hgg hbv hne.out, by rw [List.length_append, List.map_append]; exact hown4.out, Below.grown hB3.out hgg hB3.out.size (fun j hj => (hrow.out.lt j hj).1)⟩
      case measure => rw [hG3.out.left hgg hbv hne.out]; exact hlt.out

/-- g, and of the keys in l what f says. -/
def ov (g f : ByteArray → Option ByteArray) (l : List ByteArray) : ByteArray → Option ByteArray := fun q => if q ∈ l then f q else g q
theorem ov_snoc (g f : ByteArray → Option ByteArray) (l : List ByteArray) (x v : ByteArray) (h : f x = some v) (q : ByteArray) : (if q = x then some v else ov g f l q) = ov g f (l ++ [x]) q := by
  unfold ov
  by_cases e : q = x
  · subst e; simp [h]
  · simp [e]
theorem ov_nil (g f : ByteArray → Option ByteArray) (q : ByteArray) : ov g f [] q = g q := by simp [ov]
/-- f over g. -/
def over (g f : ByteArray → Option ByteArray) : ByteArray → Option ByteArray := fun q => if (f q).isSome then f q else g q
theorem ov_all (g f : ByteArray → Option ByteArray) (l : List ByteArray) (h : ∀ x, x ∈ l ↔ (f x).isSome) (q : ByteArray) : ov g f l q = over g f q := by
  unfold ov over
  by_cases e : q ∈ l
  · simp [e, (h q).1 e]
  · have : ¬ (f q).isSome = true := fun e2 => e ((h q).2 e2)
    simp [e, this]
set_option maxHeartbeats 600000 in
set_option maxRecDepth 100000 in
theorem merge_calls (b1 N1 : Nat) (f1 : ByteArray → Option ByteArray) (b2 N2 : Nat) (f2 : ByteArray → Option ByteArray) (w : World) (hM1 : M w b1 N1 f1) (hM2 : M w b2 N2 f2) (hN1 : N1 ≤ 4294967296) (hN2 : N2 ≤ 4294967296) :
    Calls Try.prog 45 #[.map (some b1), .map (some b2)] w fun e w' => e = .returned (.map (some w.heap.size)) ∧ M w' w.heap.size (N1 + N2) (over f1 f2) ∧ Below w.heap.size w w' := by
  have hMx1 := Aside0.mk hM1
  have hMx2 := Aside0.mk hM2
  have hNx1 := Aside0.mk hN1
  have hNx2 := Aside0.mk hN2
  have hbb1 := Aside0.mk hM1.lt
  have hbb2 := Aside0.mk hM2.lt
  clear hM1 hM2 hN1 hN2
  go_enter Try.func45, Try.ntmps45
  go_wp2_with (first
    | (refine MapGen.wp_make (k := 9) _ rfl 62 rfl ?_; intro w1 hMw1 hgw1 hzw1; have hMw1 := Aside0.mk hMw1; have hgw1 := Aside0.mk hgw1; have hzw1 := Aside0.mk hzw1)
    | (at_range; refine MapGen.wp_range _ kstr rfl _ 62 rfl Try.underlying62 b1 N1 f1 rfl (M_below hMx1.out (Below.grown (Below.refl _ _) hgw1.out (Nat.le_refl _) (fun j hj => by cases hj))) ?_; intro w2 hGw2 hgw2 hzw2; have hGw2 := Aside0.mk hGw2; have hgw2 := Aside0.mk hgw2; have hzw2 := Aside0.mk hzw2)
    | go_in)
  go_frame
  go_loopw [6, 7] (fun _ _ wr => ∃ done, MR wr b1 w1.heap.size N1 f1 done ∧ M wr w.heap.size (0 + done.length) (ov (fun _ => none) f1 done) ∧ Below w.heap.size w wr) (fun _ _ wr => wr.rangeLeft b1 w1.heap.size)
  case atStart => exact ⟨[], hGw2.out, by rw [List.length_nil]; exact (hMw1.out.kept hgw2.out (by simp)).congr (f' := ov (fun _ => none) f1 []) (fun q => (ov_nil (fun _ => none) f1 q).symm), Below.grown (Below.grown (Below.refl _ _) hgw1.out (Nat.le_refl _) (fun j hj => by cases hj)) hgw2.out (Nat.le_of_lt hzw1.out) (fun j hj => by cases hj)⟩
  case round =>
    obtain ⟨done, hG, hMd, hB⟩ := hrel
    have hG := Aside0.mk hG
    have hMd := Aside0.mk hMd
    have hB := Aside0.mk hB
    go_wp2_with (first
      | (at_next; refine MapGen.wp_next _ kstr rfl _ rfl b1 w1.heap.size N1 f1 done rfl hG.out ?_ ?_)
      | go_in)
    · intro hall
      have hlen := hG.out.length kstr
      have hn := hG.out.nodup
      have hm : ∀ x, x ∈ done ↔ (f1 x).isSome := fun x => ⟨hn.2 x, hall x⟩
      have hMe := Aside0.mk ((hMd.out.mono (Nat.add_le_add_left hlen _)).congr (ov_all _ _ _ hm))
      clear hall hlen hn hm
      have hMe2 := Aside0.mk ((hMe.out.mono (Nat.le_of_eq (Nat.zero_add N1))).congr (f' := f1) (fun q => by unfold over; rcases h : f1 q with _ | _ <;> simp))
      have hBe := Aside0.mk hB.out
      obtain ⟨we, hwe⟩ : ∃ x : World, x = wr := ⟨_, rfl⟩
      subst hwe
      clear hMe hMd hG
      go_wp2_with (first
        | (at_range; refine MapGen.wp_range _ kstr rfl _ 62 rfl Try.underlying62 b2 N2 f2 rfl (M_below hMx2.out hBe.out) ?_; intro w5 hGw5 hgw5 hzw5; have hGw5 := Aside0.mk hGw5; have hgw5 := Aside0.mk hgw5; have hzw5 := Aside0.mk hzw5)
        | go_in)
      go_frame
      go_loopw [8, 9] (fun _ _ wr => ∃ done, MR wr b2 we.heap.size N2 f2 done ∧ M wr w.heap.size (N1 + done.length) (ov f1 f2 done) ∧ Below w.heap.size w wr) (fun _ _ wr => wr.rangeLeft b2 we.heap.size)
      case atStart => exact ⟨[], hGw5.out, by rw [List.length_nil, Nat.add_zero]; exact (hMe2.out.kept hgw5.out (by simp)).congr (f' := ov f1 f2 []) (fun q => (ov_nil f1 f2 q).symm), Below.grown hBe.out hgw5.out hBe.out.size (fun j hj => by cases hj)⟩
      case round =>
        obtain ⟨done, hG, hMd, hB⟩ := hrel
        have hG := Aside0.mk hG
        have hMd := Aside0.mk hMd
        have hB := Aside0.mk hB
        go_wp2_with (first
          | (at_next; refine MapGen.wp_next _ kstr rfl _ rfl b2 we.heap.size N2 f2 done rfl hG.out ?_ ?_)
          | go_in)
        · intro hall
          have hlen := hG.out.length kstr
          have hn := hG.out.nodup
          have hm : ∀ x, x ∈ done ↔ (f2 x).isSome := fun x => ⟨hn.2 x, hall x⟩
          have hMe := Aside0.mk ((hMd.out.mono (Nat.add_le_add_left hlen _)).congr (ov_all _ _ _ hm))
          clear hall hlen hn hm
          go_wp2
          go_ret
          exact ⟨rfl, hMe.out.congr (fun q => by unfold over; by_cases h : (f2 q).isSome <;> simp [h]), hB.out⟩
        · intro x v3 w3 hok hfx hvs hxd hG3 hlt hg3 hs3 hen
          clear hs3
          have hlen := hG3.length kstr
          rw [List.length_append, List.length_singleton] at hlen
          have hlen := (show N1 + done.length < maxLen by have := hNx1.out; have := hNx2.out; unfold maxLen; omega)
          have hMi := Aside0.mk (hMd.out.kept hg3 (by have := hMe2.out.lt; simp; omega))
          have hG3 := Aside0.mk hG3
          have hlt := Aside0.mk hlt
          have hg3 := Aside0.mk hg3
          have hfx := Aside0.mk hfx
          clear hxd
          go_wp2_with (first
            | (at_mapUpdate; refine MapGen.wp_put _ kstr rfl _ _ _ 62 rfl Try.underlying62 w.heap.size (N1 + done.length) (ov f1 f2 done) rfl hMi.out hlen x v3 hok hvs rfl rfl ?_; intro w4 hM4 hg4; have hM4 := Aside0.mk hM4; have hg4 := Aside0.mk hg4; go_frame)
            | go_in)
          obtain ⟨r1, r2, r3⟩ := map_round hG3.out hlt.out hg3.out hg4.out hbb2.out (Nat.le_refl _) hMe2.out.lt hB.out
          go_roundw
          case rel => exact ⟨done ++ [x], r1, by rw [List.length_append]; exact hM4.out.congr (ov_snoc _ _ _ _ _ hfx.out), r3⟩
          case measure => exact r2
    · intro x v3 w3 hok hfx hvs hxd hG3 hlt hg3 hs3 hen
      clear hs3
      have hlen := hG3.length kstr
      rw [List.length_append, List.length_singleton] at hlen
      have hlen := (show 0 + done.length < maxLen by have := hNx1.out; have := hNx2.out; unfold maxLen; omega)
      have hMi := Aside0.mk (hMd.out.kept hg3 (by have := hzw1.out; simp; omega))
      have hG3 := Aside0.mk hG3
      have hlt := Aside0.mk hlt
      have hg3 := Aside0.mk hg3
      have hfx := Aside0.mk hfx
      clear hxd
      go_wp2_with (first
        | (at_mapUpdate; refine MapGen.wp_put _ kstr rfl _ _ _ 62 rfl Try.underlying62 w.heap.size (0 + done.length) (ov (fun _ => none) f1 done) rfl hMi.out hlen x v3 hok hvs rfl rfl ?_; intro w4 hM4 hg4; have hM4 := Aside0.mk hM4; have hg4 := Aside0.mk hg4; go_frame)
        | go_in)
      obtain ⟨r1, r2, r3⟩ := map_round hG3.out hlt.out hg3.out hg4.out hbb1.out (Nat.le_refl _) hzw1.out hB.out
      go_roundw
      case rel => exact ⟨done ++ [x], r1, by rw [List.length_append]; exact hM4.out.congr (ov_snoc _ _ _ _ _ hfx.out), r3⟩
      case measure => exact r2

def TestPost (w : World) (r : Bool) (e : Ending) (w' : World) : Prop := e = .returned (.bool r) ∧ Below w.heap.size w w'
theorem toL (s : ByteArray) : s.toList = s.data.toList := ByteArray.toList_eq s
theorem toL_inj {a b : ByteArray} (h : a.toList = b.toList) : a = b := Go.WideShapes.bytes_inj (by rw [← toL, ← toL, h])
theorem toL_ne {a b : ByteArray} (h : a ≠ b) : (a.toList == b.toList) = false := beq_eq_false_iff_ne.2 (fun e => h (toL_inj e))

set_option maxHeartbeats 600000 in
set_option maxRecDepth 100000 in
theorem equals_calls (b1 N1 : Nat) (f1 : ByteArray → Option ByteArray) (b2 N2 : Nat) (f2 : ByteArray → Option ByteArray) (r : Bool) (w : World) (hM1 : M w b1 N1 f1) (hM2 : M w b2 N2 f2) (hr : r = true ↔ ∀ x, f1 x = f2 x) :
    Calls Try.prog 47 #[.map (some b1), .map (some b2)] w (TestPost w r) := by
  have hMx1 := Aside0.mk hM1
  have hMx2 := Aside0.mk hM2
  have hbb1 := Aside0.mk hM1.lt
  have hbb2 := Aside0.mk hM2.lt
  have hrx := Aside0.mk hr
  clear hM1 hM2 hr
  go_enter Try.func47, Try.ntmps47
  go_wp2_with (first
    | (at_len; refine MapGen.wp_len _ kstr rfl _ 62 rfl Try.underlying62 b1 N1 f1 rfl hMx1.out ?_; intro xs1 hnxs1 hmxs1 hbxs1; have hnxs1 := Aside0.mk hnxs1; have hmxs1 := Aside0.mk hmxs1; clear hbxs1)
    | (at_len; refine MapGen.wp_len _ kstr rfl _ 62 rfl Try.underlying62 b2 N2 f2 rfl hMx2.out ?_; intro xs2 hnxs2 hmxs2 hbxs2; have hnxs2 := Aside0.mk hnxs2; have hmxs2 := Aside0.mk hmxs2; clear hbxs2)
    | (at_range; refine MapGen.wp_range _ kstr rfl _ 62 rfl Try.underlying62 b1 N1 f1 rfl hMx1.out ?_; intro w2 hGw2 hgw2 hzw2; have hGw2 := Aside0.mk hGw2; have hgw2 := Aside0.mk hgw2; have hzw2 := Aside0.mk hzw2)
    | go_in)
  · go_ret
    have hl : xs1.length ≠ xs2.length := by
      intro e
      simp_all
    have hq : r = false := by
      rcases h : r with _ | _
      · rfl
      · exact absurd ((List.perm_ext_iff_of_nodup hnxs1.out hnxs2.out).2 (fun x => by rw [hmxs1.out, hmxs2.out, hrx.out.1 h])).length_eq hl
    exact ⟨by rw [hq]; rfl, Below.refl _ _⟩
  · rename ((xs1.length : Int) != (xs2.length : Int)) = false => hcmp
    have hlx := Aside0.mk (show xs1.length = xs2.length by simp at hcmp; omega)
    clear hcmp
    go_frame
    go_loopw [5, 6] (fun _ _ wr => ∃ done, MR wr b1 w.heap.size N1 f1 done ∧ (∀ y ∈ done, f1 y = f2 y) ∧ Below w.heap.size w wr) (fun _ _ wr => wr.rangeLeft b1 w.heap.size)
    case atStart => exact ⟨[], hGw2.out, by simp, Below.grown (Below.refl _ _) hgw2.out (Nat.le_refl _) (fun j hj => by cases hj)⟩
    case round =>
      obtain ⟨done, hG, hall, hB⟩ := hrel
      have hG := Aside0.mk hG
      have hall := Aside0.mk hall
      have hB := Aside0.mk hB
      go_wp2_with (first
        | (at_next; refine MapGen.wp_next _ kstr rfl _ rfl b1 w.heap.size N1 f1 done rfl hG.out ?_ ?_)
        | go_in)
      · intro hend
        have hend := Aside0.mk hend
        go_wp2
        go_ret
        have hq : r = true := hrx.out.2 (fun x => by
          rcases h : f1 x with _ | u
          · rcases h2 : f2 x with _ | u2
            · rfl
            · exfalso
              have hsub : ∀ y ∈ xs1, y ∈ xs2 := fun y hy => by
                have h3 := (hmxs1.out y).1 hy
                rw [hall.out y (hend.out y h3)] at h3
                exact (hmxs2.out y).2 h3
              have hx2 : x ∈ xs2 := (hmxs2.out x).2 (by rw [h2]; rfl)
              have hx1 : x ∉ xs1 := fun h3 => by have := (hmxs1.out x).1 h3; rw [h] at this; cases this
              have := nodup_length (l := x :: xs1) (m := xs2) (List.nodup_cons.2 ⟨hx1, hnxs1.out⟩) (fun y hy => by
                rcases List.mem_cons.1 hy with rfl | hy
                · exact hx2
                · exact hsub y hy)
              simp only [List.length_cons] at this
              have := hlx.out
              omega
          · rw [← h]; exact hall.out x (hend.out x (by rw [h]; rfl)))
        exact ⟨by rw [hq]; rfl, hB.out⟩
      · intro x v3 w3 hok hfx hvs hxd hG3 hlt hg3 hs3 hen
        clear hs3 hvs hxd
        have hB3 := Aside0.mk (Below.grown hB.out hg3 hB.out.size (fun j hj => by cases hj; exact Nat.le_refl _))
        have hM3 := Aside0.mk (M_below hMx2.out hB3.out)
        have hG3 := Aside0.mk hG3
        have hlt := Aside0.mk hlt
        have hfx := Aside0.mk hfx
        clear hg3
        rcases hf : f2 x with _ | u
        · have hfx2 := Aside0.mk hf
          clear hf
          go_wp2_with (first
            | (at_lookup; refine MapGen.wp_look2_none _ kstr rfl _ _ 62 rfl Try.underlying62 (zeroS _) b2 N2 f2 rfl hM3.out x hok hfx2.out rfl ?_)
            | go_in)
          go_ret
          have hq : r = false := by
            rcases h : r with _ | _
            · rfl
            · have h1 := (hrx.out.1 h) x
              rw [hfx.out, hfx2.out] at h1
              cases h1
          exact ⟨by rw [hq]; rfl, hB3.out⟩
        · by_cases huv : u = v3
          · subst huv
            have hfx2 := Aside0.mk hf
            clear hf
            go_wp2_with (first
              | (at_lookup; refine MapGen.wp_look2_some _ kstr rfl _ _ 62 rfl Try.underlying62 (zeroS _) b2 N2 f2 rfl hM3.out x u hok hfx2.out rfl ?_)
              | go_in)
            go_roundw
            case rel =>
              refine ⟨done ++ [x], hG3.out, fun y hy => ?_, hB3.out⟩
              rcases List.mem_append.1 hy with h | h
              · exact hall.out y h
              · rw [List.mem_singleton.1 h]
                rw [hfx.out, hfx2.out]
            case measure => exact hlt.out
          · have hne := toL_ne huv
            have hne2 : (!(u.toList == v3.toList)) = true := by rw [hne]; rfl
            have hfx2 := Aside0.mk hf
            have huv := Aside0.mk huv
            clear hf
            go_wp2_with (first
              | (at_lookup; refine MapGen.wp_look2_some _ kstr rfl _ _ 62 rfl Try.underlying62 (zeroS _) b2 N2 f2 rfl hM3.out x u hok hfx2.out rfl ?_)
              | go_in)
            go_ret
            have hq : r = false := by
              rcases h : r with _ | _
              · rfl
              · have h1 := (hrx.out.1 h) x
                rw [hfx.out, hfx2.out] at h1
                exact absurd (by simpa using h1.symm) huv.out
            exact ⟨by rw [hq]; rfl, hB3.out⟩

set_option maxHeartbeats 600000 in
set_option maxRecDepth 100000 in
theorem conflicts_calls (b1 N1 : Nat) (f1 : ByteArray → Option ByteArray) (b2 N2 : Nat) (f2 : ByteArray → Option ByteArray) (r : Bool) (w : World) (hM1 : M w b1 N1 f1) (hM2 : M w b2 N2 f2) (hr : r = true ↔ ∃ x a c, f1 x = some a ∧ f2 x = some c ∧ a ≠ c) :
    Calls Try.prog 48 #[.map (some b1), .map (some b2)] w (TestPost w r) := by
  have hr2 : r = true ↔ ∃ x a c, f2 x = some a ∧ f1 x = some c ∧ a ≠ c := hr.trans ⟨fun ⟨x, a, c, h1, h2, h3⟩ => ⟨x, c, a, h2, h1, fun e => h3 e.symm⟩, fun ⟨x, a, c, h1, h2, h3⟩ => ⟨x, c, a, h2, h1, fun e => h3 e.symm⟩⟩
  have hrx2 := Aside0.mk hr2
  clear hr2
  have hMx1 := Aside0.mk hM1
  have hMx2 := Aside0.mk hM2
  have hbb1 := Aside0.mk hM1.lt
  have hbb2 := Aside0.mk hM2.lt
  have hrx := Aside0.mk hr
  clear hM1 hM2 hr
  go_enter Try.func48, Try.ntmps48
  go_wp2_with (first
    | (at_len; refine MapGen.wp_len _ kstr rfl _ 62 rfl Try.underlying62 b2 N2 f2 rfl hMx2.out ?_; intro xs2 hnxs2 hmxs2 hbxs2; have hnxs2 := Aside0.mk hnxs2; have hmxs2 := Aside0.mk hmxs2; clear hbxs2)
    | (at_len; refine MapGen.wp_len _ kstr rfl _ 62 rfl Try.underlying62 b1 N1 f1 rfl hMx1.out ?_; intro xs1 hnxs1 hmxs1 hbxs1; have hnxs1 := Aside0.mk hnxs1; have hmxs1 := Aside0.mk hmxs1; clear hbxs1)
    | (at_range; refine MapGen.wp_range _ kstr rfl _ 62 rfl Try.underlying62 b1 N1 f1 rfl hMx1.out ?_; intro w2 hGw2 hgw2 hzw2; have hGw2 := Aside0.mk hGw2; have hgw2 := Aside0.mk hgw2; have hzw2 := Aside0.mk hzw2)
    | (at_range; refine MapGen.wp_range _ kstr rfl _ 62 rfl Try.underlying62 b2 N2 f2 rfl hMx2.out ?_; intro w2 hGw2 hgw2 hzw2; have hGw2 := Aside0.mk hGw2; have hgw2 := Aside0.mk hgw2; have hzw2 := Aside0.mk hzw2)
    | go_in)
  · first | (rename xs2.length < xs1.length => hcmp; clear hcmp) | (rename xs1.length ≤ xs2.length => hcmp; clear hcmp) | (rename ¬ xs2.length < xs1.length => hcmp; clear hcmp) | skip
    go_frame
    go_loopw [7, 8] (fun _ _ wr => ∃ done, MR wr b2 w.heap.size N2 f2 done ∧ (∀ y ∈ done, (f1 y = none ∨ f1 y = f2 y)) ∧ Below w.heap.size w wr) (fun _ _ wr => wr.rangeLeft b2 w.heap.size)
    case atStart => exact ⟨[], hGw2.out, by simp, Below.grown (Below.refl _ _) hgw2.out (Nat.le_refl _) (fun j hj => by cases hj)⟩
    case round =>
      obtain ⟨done, hG, hall, hB⟩ := hrel
      have hG := Aside0.mk hG
      have hall := Aside0.mk hall
      have hB := Aside0.mk hB
      go_wp2_with (first
        | (at_next; refine MapGen.wp_next _ kstr rfl _ rfl b2 w.heap.size N2 f2 done rfl hG.out ?_ ?_)
        | go_in)
      · intro hend
        have hend := Aside0.mk hend
        go_wp2
        go_ret
        have hq : r = false := by
          rcases h : r with _ | _
          · rfl
          · obtain ⟨x, a, c, h1, h2, h3⟩ := hrx2.out.1 h
            rcases hall.out x (hend.out x (by rw [h1]; rfl)) with h4 | h4
            · rw [h4] at h2; cases h2
            · rw [h1, h2] at h4
              exact absurd (by simpa using h4.symm) h3
        exact ⟨by rw [hq]; rfl, hB.out⟩
      · intro x v3 w3 hok hfx hvs hxd hG3 hlt hg3 hs3 hen
        clear hs3 hvs hxd
        have hB3 := Aside0.mk (Below.grown hB.out hg3 hB.out.size (fun j hj => by cases hj; exact Nat.le_refl _))
        have hM3 := Aside0.mk (M_below hMx1.out hB3.out)
        have hG3 := Aside0.mk hG3
        have hlt := Aside0.mk hlt
        have hfx := Aside0.mk hfx
        clear hg3
        rcases hf : f1 x with _ | u
        · have hfx2 := Aside0.mk hf
          clear hf
          go_wp2_with (first
            | (at_lookup; refine MapGen.wp_look2_none _ kstr rfl _ _ 62 rfl Try.underlying62 (zeroS _) b1 N1 f1 rfl hM3.out x hok hfx2.out rfl ?_)
            | go_in)
          go_roundw
          case rel =>
            refine ⟨done ++ [x], hG3.out, fun y hy => ?_, hB3.out⟩
            rcases List.mem_append.1 hy with h | h
            · exact hall.out y h
            · rw [List.mem_singleton.1 h]
              exact .inl hfx2.out
          case measure => exact hlt.out
        · by_cases huv : u = v3
          · subst huv
            have hfx2 := Aside0.mk hf
            clear hf
            go_wp2_with (first
              | (at_lookup; refine MapGen.wp_look2_some _ kstr rfl _ _ 62 rfl Try.underlying62 (zeroS _) b1 N1 f1 rfl hM3.out x u hok hfx2.out rfl ?_)
              | go_in)
            go_roundw
            case rel =>
              refine ⟨done ++ [x], hG3.out, fun y hy => ?_, hB3.out⟩
              rcases List.mem_append.1 hy with h | h
              · exact hall.out y h
              · rw [List.mem_singleton.1 h]
                exact .inr (by rw [hfx2.out, hfx.out])
            case measure => exact hlt.out
          · have hne := toL_ne huv
            have hne2 : (!(u.toList == v3.toList)) = true := by rw [hne]; rfl
            have hfx2 := Aside0.mk hf
            have huv := Aside0.mk huv
            clear hf
            go_wp2_with (first
              | (at_lookup; refine MapGen.wp_look2_some _ kstr rfl _ _ 62 rfl Try.underlying62 (zeroS _) b1 N1 f1 rfl hM3.out x u hok hfx2.out rfl ?_)
              | go_in)
            go_ret
            have hq : r = true := by
              exact hrx2.out.2 ⟨x, v3, u, hfx.out, hfx2.out, fun e => huv.out e.symm⟩
            exact ⟨by rw [hq]; rfl, hB3.out⟩
  · first | (rename xs2.length < xs1.length => hcmp; clear hcmp) | (rename xs1.length ≤ xs2.length => hcmp; clear hcmp) | (rename ¬ xs2.length < xs1.length => hcmp; clear hcmp) | skip
    go_frame
    go_loopw [7, 8] (fun _ _ wr => ∃ done, MR wr b1 w.heap.size N1 f1 done ∧ (∀ y ∈ done, (f2 y = none ∨ f2 y = f1 y)) ∧ Below w.heap.size w wr) (fun _ _ wr => wr.rangeLeft b1 w.heap.size)
    case atStart => exact ⟨[], hGw2.out, by simp, Below.grown (Below.refl _ _) hgw2.out (Nat.le_refl _) (fun j hj => by cases hj)⟩
    case round =>
      obtain ⟨done, hG, hall, hB⟩ := hrel
      have hG := Aside0.mk hG
      have hall := Aside0.mk hall
      have hB := Aside0.mk hB
      go_wp2_with (first
        | (at_next; refine MapGen.wp_next _ kstr rfl _ rfl b1 w.heap.size N1 f1 done rfl hG.out ?_ ?_)
        | go_in)
      · intro hend
        have hend := Aside0.mk hend
        go_wp2
        go_ret
        have hq : r = false := by
          rcases h : r with _ | _
          · rfl
          · obtain ⟨x, a, c, h1, h2, h3⟩ := hrx.out.1 h
            rcases hall.out x (hend.out x (by rw [h1]; rfl)) with h4 | h4
            · rw [h4] at h2; cases h2
            · rw [h1, h2] at h4
              exact absurd (by simpa using h4.symm) h3
        exact ⟨by rw [hq]; rfl, hB.out⟩
      · intro x v3 w3 hok hfx hvs hxd hG3 hlt hg3 hs3 hen
        clear hs3 hvs hxd
        have hB3 := Aside0.mk (Below.grown hB.out hg3 hB.out.size (fun j hj => by cases hj; exact Nat.le_refl _))
        have hM3 := Aside0.mk (M_below hMx2.out hB3.out)
        have hG3 := Aside0.mk hG3
        have hlt := Aside0.mk hlt
        have hfx := Aside0.mk hfx
        clear hg3
        rcases hf : f2 x with _ | u
        · have hfx2 := Aside0.mk hf
          clear hf
          go_wp2_with (first
            | (at_lookup; refine MapGen.wp_look2_none _ kstr rfl _ _ 62 rfl Try.underlying62 (zeroS _) b2 N2 f2 rfl hM3.out x hok hfx2.out rfl ?_)
            | go_in)
          go_roundw
          case rel =>
            refine ⟨done ++ [x], hG3.out, fun y hy => ?_, hB3.out⟩
            rcases List.mem_append.1 hy with h | h
            · exact hall.out y h
            · rw [List.mem_singleton.1 h]
              exact .inl hfx2.out
          case measure => exact hlt.out
        · by_cases huv : u = v3
          · subst huv
            have hfx2 := Aside0.mk hf
            clear hf
            go_wp2_with (first
              | (at_lookup; refine MapGen.wp_look2_some _ kstr rfl _ _ 62 rfl Try.underlying62 (zeroS _) b2 N2 f2 rfl hM3.out x u hok hfx2.out rfl ?_)
              | go_in)
            go_roundw
            case rel =>
              refine ⟨done ++ [x], hG3.out, fun y hy => ?_, hB3.out⟩
              rcases List.mem_append.1 hy with h | h
              · exact hall.out y h
              · rw [List.mem_singleton.1 h]
                exact .inr (by rw [hfx2.out, hfx.out])
            case measure => exact hlt.out
          · have hne := toL_ne huv
            have hne2 : (!(u.toList == v3.toList)) = true := by rw [hne]; rfl
            have hfx2 := Aside0.mk hf
            have huv := Aside0.mk huv
            clear hf
            go_wp2_with (first
              | (at_lookup; refine MapGen.wp_look2_some _ kstr rfl _ _ 62 rfl Try.underlying62 (zeroS _) b2 N2 f2 rfl hM3.out x u hok hfx2.out rfl ?_)
              | go_in)
            go_ret
            have hq : r = true := by
              exact hrx.out.2 ⟨x, v3, u, hfx.out, hfx2.out, fun e => huv.out e.symm⟩
            exact ⟨by rw [hq]; rfl, hB3.out⟩

def pr (f : ByteArray → Option ByteArray) (ks : List ByteArray) : List S44 := ks.map fun x => ⟨x, (f x).getD E0⟩
def PairsPost (f : ByteArray → Option ByteArray) (w : World) (e : Ending) (w' : World) : Prop := ∃ (v : Value) (xs : List ByteArray), xs.Nodup ∧ (∀ x, x ∈ xs ↔ (f x).isSome) ∧ e = .returned v ∧ k44.R 44 w' w.heap.size (fun _ => True) v (pr f (srt xs)) ∧ Below w.heap.size w w'
theorem srt_mem (l : List ByteArray) (x : ByteArray) : x ∈ srt l ↔ x ∈ l := by
  have h := (List.mergeSort_perm (l.map fun s => s.data.toList) (fun x y => decide (x ≤ y))).map (fun b => (⟨b.toArray⟩ : ByteArray))
  have e : (l.map fun s => s.data.toList).map (fun b => (⟨b.toArray⟩ : ByteArray)) = l := by
    rw [List.map_map]
    exact (List.map_congr_left (fun x _ => Go.WideShapes.bytes_inj (by simp))).trans (List.map_id _)
  rw [e] at h
  exact h.mem_iff
set_option maxHeartbeats 600000 in
set_option maxRecDepth 100000 in
theorem pairs_calls (b N : Nat) (f : ByteArray → Option ByteArray) (w : World) (hM : M w b N f) (hN : N ≤ 4294967296) :
    Calls Try.prog 44 #[.map (some b)] w (PairsPost f w) := by
  have hMx := Aside0.mk hM
  have hNx := Aside0.mk hN
  obtain ⟨n0, D0, ho0, hn0, ys, hy1, hy2, hy3⟩ := hM.keys kstr
  have hys : ys.length ≤ 4294967296 := by have := ho0.size_le; omega
  have hysx := Aside0.mk (show ∀ xs : List ByteArray, xs.Nodup → (∀ x, x ∈ xs ↔ (f x).isSome) → xs.length ≤ 4294967296 from fun xs h1 h2 => by
    rw [((List.perm_ext_iff_of_nodup h1 hy1).2 (fun x => by rw [h2, hy2])).length_eq]; exact hys)
  clear hM hN ho0 hn0 hy1 hy2 hy3 hys
  go_enter Try.func44, Try.ntmps44
  go_wp2_with fail
  refine (keys_calls b N f _ hMx.out (by have := hNx.out; omega)).mono ?_
  rintro e w1 ⟨v, xs, hn, hm, rfl, hR, hB⟩
  obtain ⟨ks, hks⟩ : ∃ ks, ks = srt xs := ⟨_, rfl⟩
  rw [← hks] at hR
  obtain ⟨A, c, rfl, hc, hC⟩ := Kd.R_reads hR
  have hkl := Aside0.mk (show ks.length ≤ 4294967296 by rw [hks, srt_length]; exact hysx.out xs hn hm)
  have hksx := Aside0.mk hks
  have hn := Aside0.mk hn
  have hm := Aside0.mk hm
  have hB := Aside0.mk hB
  have hC := Aside0.mk hC
  clear hks hR hc
  go_wp2
  go_loopw [3, 9] (fun v i wr => ∃ k : Nat, k ≤ ks.length ∧ i = .int .i64 k ∧ k44.R 44 wr w1.heap.size (fun _ => True) v (pr f (ks.take k)) ∧ Below w1.heap.size w1 wr) (fun _ i _ => ks.length - (intOf i).toNat)
  case atStart => exact ⟨0, Nat.zero_le _, rfl, Kd.R_nil _ _ _ _ _, Below.refl _ _⟩
  case round =>
    obtain ⟨k, hk, rfl, hRk, hBk1⟩ := hrel
    have hBk := below_then hB.out hB.out.size hBk1
    have hkb := hkl.out
    have hrk := Kd.C_below hC.out hBk1
    by_cases c3 : (k : Int) < (ks.length : Int)
    · obtain ⟨x, hx⟩ : ∃ x, rdOf ByteArray.empty ks (k : Int) = x := ⟨_, rfl⟩
      have hxl : ks[k]? = some x := by
        rw [← hx]
        simp [rdOf, show k < ks.length by omega]
      have hxm : (f x).isSome := by
        have := List.mem_of_getElem? hxl
        rw [hksx.out, srt_mem] at this
        exact (hm.out x).1 this
      obtain ⟨u, hu⟩ := Option.isSome_iff_exists.1 hxm
      have hsz := hMx.out.vals hu
      have p := Int.natCast_nonneg k
      obtain ⟨ad, e1, hcell⟩ := Kd.at_string hrk (k : Int) p c3
      rw [hx, Int.toNat_natCast] at hcell
      cases e1
      have hxl := Aside0.mk hxl
      have c3b := decide_eq_true c3
      have hk2 := Aside0.mk (show k + 1 ≤ ks.length by omega)
      replace p := eq_true p
      replace c3 := eq_true c3
      have hRx := Aside0.mk hRk
      have hBx := Aside0.mk hBk
      have hBx1 := Aside0.mk hBk1
      have hMr := Aside0.mk (M_below hMx.out hBk)
      have hux := Aside0.mk hu
      have hpl := Aside0.mk (show ((pr f (ks.take k)).length + 1) * 32 ≤ 140737488355328 by
        unfold pr
        rw [List.length_map, List.length_take]
        have := hkl.out
        omega)
      clear hRk hBk hBk1 hrk hx hxm hu
      go_wp2_with (first
        | (at_lookup; refine MapGen.wp_look _ kstr rfl _ _ 61 rfl Try.underlying61 (zeroS _) b N f rfl hMr.out x hsz.1 rfl ?_; rw [hux.out])
        | (at_builtin; refine Kd.R_append k44 (w0 := w1) w1.heap.size rfl (.tmp 13) (.tmp 19) 38 44 (.agg #[(.string ⟨#[]⟩), (.string ⟨#[]⟩)]) 32 rfl Try.underlying38 info44 rfl (by decide) (by omega) _ (pr f (ks.take k)) (⟨x, u⟩ : S44) [.string x, .string u] (fun _ => True) (fun _ => False) rfl rfl (k44_mkM _ _ _ (⟨x, u⟩ : S44)) (fun _ hk => hk.elim) (fun _ _ => trivial) hRx.out hBx1.out hBx1.out.size hpl.out ?_; intro v1 w4 ho hb hg hat; have ho := Aside0.mk ho; have hb := Aside0.mk hb; have hg := Aside0.mk hg; clear hat)
        | go_in)
      go_roundw
      case measure => have := hk2.out; first | exact meas this | (rw [show (k : Int) + 1 = ((k + 1 : Nat) : Int) from rfl]; exact meas this)
      case rel =>
        refine ⟨k + 1, hk2.out, by go_num, ?_, hb.out⟩
        · have e1 : pr f (ks.take (k + 1)) = pr f (ks.take k) ++ [⟨x, u⟩] := by
            rw [take_succ_of hxl.out]
            unfold pr
            rw [List.map_append]
            simp [hux.out]
          rw [e1]
          exact ho.out
    · have c3b := decide_eq_false c3
      obtain rfl : k = ks.length := by omega
      rw [List.take_length] at hRk
      have hRx := Aside0.mk hRk
      have hBx := Aside0.mk hBk
      clear hRk hBk hBk1 hrk
      go_wp2
      go_ret
      exact ⟨_, xs, hn.out, hm.out, rfl, by rw [← hksx.out]; exact Kd.R_lower hRx.out hB.out.size, hBx.out⟩
end Go.Proofs.Ytmipenoiodjbhaa.MapS
