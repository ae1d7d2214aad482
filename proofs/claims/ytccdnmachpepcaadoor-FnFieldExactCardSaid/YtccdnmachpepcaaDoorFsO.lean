/- sort.StringSlice's Sort on a row of the call's own. -/
import Derived.Test.YtccdnmachpepcaaDoorShelfU
import Derived.Test.YtccdnmachpepcaaDoorFsA
import Derived.Sort.OwnSorted
set_option linter.unusedSimpArgs false
set_option linter.unusedVariables false
namespace Go.Proofs.YtccdnmachpepcaaDoor.FsO
open Go Go.RowKit Go.Sort Go.Proofs.YtccdnmachpepcaaDoor.FsT Go.Proofs.YtccdnmachpepcaaDoorW.PrintWords Go.Proofs.YtccdnmachpepcaaDoorW.PrintLast
/-- Texts, rising. -/
def srt (l : List ByteArray) : List ByteArray := ((l.map fun s => s.data.toList).mergeSort fun x y => decide (x ≤ y)).map B
theorem srt_length (l : List ByteArray) : (srt l).length = l.length := by unfold srt; rw [List.length_map, List.length_mergeSort, List.length_map]
theorem B_data (s : ByteArray) : B s.data.toList = s := by unfold B; cases s; simp
theorem srt_mem (l : List ByteArray) : ∀ x, x ∈ srt l ↔ x ∈ l := by
  intro x
  unfold srt
  have hp := List.mergeSort_perm (l.map fun s => s.data.toList) fun x y => decide (x ≤ y)
  constructor
  · intro h
    obtain ⟨y, hy, rfl⟩ := List.mem_map.1 h
    obtain ⟨z, hz, rfl⟩ := List.mem_map.1 (hp.mem_iff.1 hy)
    rw [B_data]; exact hz
  · intro h
    exact List.mem_map.2 ⟨x.data.toList, hp.mem_iff.2 (List.mem_map.2 ⟨x, h, rfl⟩), B_data x⟩
theorem srt_small (l : List ByteArray) (h : l.length ≤ 1) : srt l = l := by
  rcases l with _ | ⟨a, _ | ⟨b, l⟩⟩
  · exact List.eq_nil_of_length_eq_zero (srt_length [])
  · unfold srt
    simp [B_data]
  · simp at h
theorem encS_eq (l : List UInt8) : encS l = encStr l := rfl
theorem reL (rv : Value) : Reaches Tryd.prog 75 rv "Len" 91 := Finds.reaches (fun _ _ => by kernel_rfl) Tryd.func91 (by kernel_rfl) rv
theorem reLe (rv : Value) : Reaches Tryd.prog 75 rv "Less" 92 := Finds.reaches (fun _ _ => by kernel_rfl) Tryd.func92 (by kernel_rfl) rv
theorem reS (rv : Value) : Reaches Tryd.prog 75 rv "Swap" 93 := Finds.reaches (fun _ _ => by kernel_rfl) Tryd.func93 (by kernel_rfl) rv
theorem sorted_eq (ss : List (List UInt8)) (d' : Array (List UInt8)) (hP : PermIn 0 ss.toArray.size ss.toArray d') (hS : SortedIn ltStr 0 ss.toArray.size d') : d' = (ss.mergeSort fun x y => decide (x ≤ y)).toArray := by
  have h := sorted_unique_holds swo_ltStr (fun x y h1 h2 => by simp only [ltStr, decide_eq_false_iff_not, List.not_lt] at h1 h2; exact List.le_antisymm h2 h1) ss.toArray _ hP hS
  have e : (fun x y : List UInt8 => !ltStr y x) = fun x y => decide (x ≤ y) := by
    funext x y
    show (!decide (y < x)) = decide (x ≤ y)
    by_cases h : x ≤ y
    · have h' : ¬ y < x := List.not_lt.2 h
      simp [h, h']
    · have h' : y < x := List.not_le.1 h
      simp [h, h']
  rw [e] at h
  rw [← h]
theorem run_calls (g cap : Nat) (ss : List (List UInt8)) (h2 : 2 ≤ ss.length) (hsz : ss.length < 4611686018427387904) (w : World) (hH : Holds encStr w g 0 ss.toArray) (hg : g < w.heap.size) :
    Calls Tryd.prog 31 #[.iface 75 (.slice (some ⟨g, 0, none⟩) ss.length cap)] w fun e w' => e = .returned (.tuple #[]) ∧ ∃ n os, w' = grow (putRow encStr (Sort.ahead w n) g 0 (ss.mergeSort fun x y => decide (x ≤ y)).toArray) os := by
  have hz : ss.toArray.size = ss.length := by simp
  have h := Tryd.sort_Sort_sorted (α := List UInt8) 75 (.slice (some ⟨g, 0, none⟩) ss.toArray.size cap) _ _ _ (reL _) (reLe _) (reS _) encS ltStr swo_ltStr g 0 ss.toArray (by omega) (by omega) w (Tryd.StringSlice_Len _ _ _ _) (Tryd.StringSlice_LessM g 0 cap ss.toArray w hH hg (by omega)) (Tryd.StringSlice_SwapM g 0 cap _ (by omega)) hH hg
  rw [hz] at h
  refine h.mono ?_
  rintro e w1 ⟨rfl, d', n, os, hP, hS, rfl⟩
  rw [← hz] at hP hS
  rw [sorted_eq ss d' hP hS]
  exact ⟨rfl, n, os, rfl⟩
set_option maxHeartbeats 2000000 in
theorem sort_calls (v : Value) (l : List ByteArray) (hl : l.length ≤ 4398046511104) (base : Nat) (ok : Nat → Prop) (w : World) (hR : Row w base ok v l) :
    Calls Tryd.prog 26 #[v] w fun e w' => e = .returned (.tuple #[]) ∧ Row w' base ok v (srt l) ∧ w.grownBy w' v.ownBlock := by
  by_cases h1 : l.length ≤ 1
  · obtain ⟨A, c, rfl⟩ := Kd.R_slice hR
    have hs := Aside0.mk (srt_small l h1)
    have hc := Aside0.mk (Tryd.sort_Sort_tiny (α := List UInt8) 75 (.slice A l.length c) _ (reL _) l.length h1)
    have hx := Aside0.mk (Tryd.StringSlice_Len A l.length c)
    replace hR := Aside0.mk hR
    clear h1
    go_enter Tryd.func26, Tryd.ntmps26
    go_wp2_with fail
    refine (hc.out _ (hx.out _)).mono ?_
    rintro e w1 ⟨rfl, q, rfl⟩
    go_wp2_with fail
    go_end0
    refine ⟨rfl, ?_, ?_⟩
    · rw [hs.out]; exact Kd.R_move hR.out (fun _ _ => rfl)
    · exact ⟨rfl, rfl, rfl, Nat.le_refl _, fun k hk hne => rfl⟩
  · have hown := Kd.own_of_R hR
    rcases hown.2 with ⟨rfl, h0⟩ | ⟨g, cap, cur, rfl, hbase, hb, q1, q2, q3, q4⟩
    · omega
    · have hlen : (l.map fun s => s.data.toList).length = l.length := List.length_map _
      have hh := holds_of_block (ss := l.map fun s => s.data.toList) hb (by
        rw [Nat.mul_one] at q4
        rw [hlen, q4]
        unfold encs
        rw [List.map_map]
        rfl)
      have hc := run_calls g cap (l.map fun s => s.data.toList) (by rw [hlen]; omega) (by rw [hlen]; omega) w hh (Array.getElem?_eq_some_iff.1 hb).1
      rw [hlen] at hc
      have e2 := srt_length l
      have e3 : ((l.map fun s => s.data.toList).mergeSort fun x y => decide (x ≤ y)).length = (l.map fun s => s.data.toList).length := List.length_mergeSort _
      have hrow := fun (nn : Nat) os => ownsRow_sorted (n := nn) (os := os) (ss := l.map fun s => s.data.toList) e3 hbase hb (by rw [hlen]; exact q1) q2 q3
      have hok := hR.1
      replace hc := Aside0.mk hc
      replace hrow := Aside0.mk hrow
      replace hok := Aside0.mk hok
      replace e2 := Aside0.mk e2
      replace hlen := Aside0.mk hlen
      clear hR hown hb q1 q2 q3 q4 hh e3 h1 hbase
      go_enter Tryd.func26, Tryd.ntmps26
      go_wp2_with fail
      refine hc.out.mono ?_
      rintro e w1 ⟨rfl, nn, os, rfl⟩
      go_wp2_with fail
      go_end0
      refine ⟨rfl, ?_, grownBy_sorted _⟩
      refine Kd.R_of_own ?_ hok.out
      have := hrow.out nn os
      rw [hlen.out] at this
      rw [e2.out]
      unfold encs srt
      rw [List.map_map]
      exact this
end Go.Proofs.YtccdnmachpepcaaDoor.FsO
