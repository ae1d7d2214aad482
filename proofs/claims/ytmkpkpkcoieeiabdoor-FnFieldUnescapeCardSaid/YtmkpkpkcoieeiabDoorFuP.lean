/- plainText walked: whether a text is UTF-8. -/
import Derived.Test.YtmkpkpkcoieeiabDoorFuZ
import Derived.Laws.IdiomStrings
import Derived.Laws.Cover4
set_option linter.unusedSimpArgs false
set_option linter.unusedVariables false
namespace Go.Proofs.YtmkpkpkcoieeiabDoor.FuP
open Go Go.RowKit Go.Proofs.YtmkpkpkcoieeiabDoor.FuM Go.Proofs.YtmkpkpkcoieeiabDoorW.PrintWords Go.Proofs.YtmkpkpkcoieeiabDoorW.PrintLast
theorem en_encode (r : Nat) : (Utf8.encode (r : Int)).data.toList = en r := by
  have h := Extern.FmtText.encode_eq r
  unfold en Lib.encodeRune
  rw [← h]
  unfold Extern.FmtText.nums
  rw [List.map_map]
  exact ((List.map_congr_left (g := id) (fun a _ => by simp)).trans (List.map_id _)).symm
/-- The signs from here on. -/
def rl (s : ByteArray) : Nat → Nat → List Int
  | 0, _ => []
  | f + 1, p => if p < s.size then (rn s p : Int) :: rl s f (p + wd s p) else []
theorem runesFrom_rl (s : ByteArray) : ∀ (f p : Nat) (acc : Array Value), Conv.runesFrom s f p acc = acc ++ ((rl s f p).map fun z => Value.int .i32 z).toArray
  | 0, p, acc => by simp [Conv.runesFrom, rl]
  | f + 1, p, acc => by
    unfold Conv.runesFrom rl
    split
    · simp only []
      rw [runesFrom_rl s f _ _]
      apply Array.ext'
      simp [rn, wd]
    · simp
theorem foldl_bytes (x : List Int) : ∀ (b : ByteArray), (x.foldl (fun r n => r ++ Utf8.encode n) b).data.toList = b.data.toList ++ x.flatMap fun n => (Utf8.encode n).data.toList := by
  induction x with
  | nil => intro b; simp
  | cons n t ih =>
    intro b
    rw [List.foldl_cons, ih]
    simp [ByteArray.data_append]
theorem rl_rs (s : ByteArray) : ∀ (f p : Nat), ((rl s f p).flatMap fun n => (Utf8.encode n).data.toList) = rs s f p
  | 0, p => by simp [rl, rs, Lib.runesFrom]
  | f + 1, p => by
    by_cases hp : p < s.size
    · rw [rs_step s f p hp]
      simp only [rl, if_pos hp, List.flatMap_cons]
      rw [en_encode, rl_rs s f]
    · rw [rs_end s _ p hp]
      simp [rl, hp]
theorem rl_length (s : ByteArray) : ∀ (f p : Nat), (rl s f p).length ≤ f
  | 0, p => by simp [rl]
  | f + 1, p => by
    unfold rl
    split
    · have := rl_length s f (p + wd s p); simp; omega
    · simp
theorem pt_eq (s : ByteArray) : decide (runesBytes (rl s s.size 0) = s) = pt s := by
  unfold pt
  apply decide_eq_decide.2
  have e : (runesBytes (rl s s.size 0)).data.toList = rs s s.size 0 := by
    unfold runesBytes
    rw [foldl_bytes, rl_rs]
    simp
  constructor
  · intro h
    rw [← e, h]
  · intro h
    apply ByteArray.ext
    apply Array.ext'
    rw [e, h]
set_option maxHeartbeats 6400000 in
set_option maxRecDepth 100000 in
theorem plain_calls (s : ByteArray) (hs : s.size ≤ 70368744177664) (w : World) :
    Calls Tryd.prog 10 #[.string s] w fun e w' => e = .returned (.bool (pt s)) ∧ Below w.heap.size w w' := by
  obtain ⟨zs, hzs⟩ : ∃ zs, zs = rl s s.size 0 := ⟨_, rfl⟩
  have hl : zs.length ≤ s.size := by rw [hzs]; exact rl_length s s.size 0
  have hr : Conv.runesFrom s s.size 0 #[] = (zs.map fun z => Value.int .i32 z).toArray := by rw [runesFrom_rl, hzs]; simp
  have h1 := run_runes_of_string (P := Tryd.prog) w 9 53 21 s Tryd.underlying9 Tryd.underlying53 Tryd.underlying21 (by rw [hr]; simp; omega)
  rw [hr] at h1
  obtain ⟨cap, hcap⟩ : ∃ cap, cap = grownCap w (zs.map fun z => Value.int .i32 z).toArray.size 0 21 := ⟨_, rfl⟩
  rw [← hcap] at h1
  have hsz : (zs.map fun z => Value.int .i32 z).toArray.size = zs.length := by simp
  rw [hsz] at h1
  obtain ⟨w2, hw2⟩ : ∃ w2, w2 = w.drew.alloc (.cells ((zs.map fun z => Value.int .i32 z).toArray ++ Array.replicate (cap - zs.length) (.int .i32 0)) 21) := ⟨_, rfl⟩
  have hb : w2.heap[w.heap.size]? = some (.cells ((zs.map fun z => Value.int .i32 z).toArray ++ Array.replicate (cap - zs.length) (.int .i32 0)) 21 (0, 0)) := by rw [hw2]; exact heap_alloc_new w.drew _
  rw [← hw2] at h1
  have h2 := run_convert_runes (P := Tryd.prog) w2 53 9 21 ⟨w.heap.size, 0, none⟩ zs.length cap zs (Nat.le_refl _) Tryd.underlying53 Tryd.underlying21 Tryd.underlying9 (by
    intro j hj
    rw [Lib.addr_add, Nat.zero_add, Lib.cell_of_heap hb, Array.getElem?_append_left (by simpa using hj)]
    simp [hj, List.getD])
  rw [List.take_length] at h2
  have hB : Below w.heap.size w w2 := by rw [hw2]; exact (Below.refl _ w).drew.alloc (Nat.le_refl _) _
  have he := pt_eq s
  rw [← hzs] at he
  obtain ⟨S, hS⟩ : ∃ S, S = runesBytes zs := ⟨_, rfl⟩
  rw [← hS] at h2 he
  clear hS hb hcap hr hsz
  replace hw2 := Aside0.mk hw2
  replace hzs := Aside0.mk hzs
  replace hB := Aside0.mk hB
  replace he := Aside0.mk he
  clear hl hs
  go_enter Tryd.func10, Tryd.ntmps10
  go_wp2_with fail
  go_ret
  refine ⟨?_, hB.out⟩
  have e : (S.toList == s.toList) = pt s := by
    rw [← he.out, ByteArray.toList_eq, ByteArray.toList_eq, Bool.eq_iff_iff, beq_iff_eq, decide_eq_true_eq]
    exact ⟨fun h => ByteArray.ext (Array.ext' h), fun h => by rw [h]⟩
  rw [← e]
  rfl
end Go.Proofs.YtmkpkpkcoieeiabDoor.FuP
