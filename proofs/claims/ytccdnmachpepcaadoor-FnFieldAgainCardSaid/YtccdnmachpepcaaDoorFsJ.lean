/- splitTerm walked: a piece cut at its first operator. -/
import Derived.Test.YtccdnmachpepcaaDoorXHpx1
import Derived.Test.YtccdnmachpepcaaDoorFsB
import Derived.Test.YtccdnmachpepcaaDoorFsA
import Derived.Test.YtccdnmachpepcaaDoorShelfU
import Derived.Sort.OwnSorted
set_option linter.unusedSimpArgs false
set_option linter.unusedVariables false
namespace Go.Proofs.YtccdnmachpepcaaDoor.FsC
open Go.RowKit Go.Proofs.YtccdnmachpepcaaDoorW.PrintWords Go.Proofs.YtccdnmachpepcaaDoorW.PrintLast Go.Proofs.YtccdnmachpepcaaDoorW.PrintMore Go.Proofs.YtccdnmachpepcaaDoor.XHp
attribute [local go_sem] max2_int min2_int max_two min_two max_three min_three max_four min_four   -- for this text's walks alone
/-- The operator that stands at a byte: the first of '!=', '==' and '='. -/
def opAt (s : ByteArray) (i : Nat) : Option ByteArray :=
  if (s.data.toList.drop i).take 2 = [33, 61] then some ⟨#[33, 61]⟩ else if (s.data.toList.drop i).take 2 = [61, 61] then some ⟨#[61, 61]⟩ else if (s.data.toList.drop i).take 1 = [61] then some ⟨#[61]⟩ else none
/-- A text cut at its first operator from a byte on. -/
def cutFrom (s : ByteArray) : Nat → Nat → ByteArray × ByteArray × ByteArray × Bool
  | 0, _ => (⟨#[]⟩, ⟨#[]⟩, ⟨#[]⟩, false)
  | n + 1, i => match opAt s i with
    | some op => (s.extract 0 i, op, s.extract (i + op.size) s.size, true)
    | none => cutFrom s n (i + 1)
theorem cutFrom_at (s : ByteArray) (i : Nat) (op : ByteArray) (hi : i < s.size) (ho : opAt s i = some op) : ∀ (d j : Nat), j + d = i → (∀ x, j ≤ x → x < i → opAt s x = none) →
    cutFrom s (s.size - j) j = (s.extract 0 i, op, s.extract (i + op.size) s.size, true) := by
  intro d
  induction d with
  | zero =>
    intro j hj _
    obtain rfl : j = i := by omega
    rw [show s.size - j = (s.size - j - 1) + 1 from by omega]
    unfold cutFrom
    rw [ho]
  | succ d ih =>
    intro j hj hn
    rw [show s.size - j = (s.size - (j + 1)) + 1 from by omega]
    unfold cutFrom
    rw [hn j (Nat.le_refl _) (by omega)]
    exact ih (j + 1) (by omega) (fun x h1 h2 => hn x (by omega) h2)
theorem cutFrom_none (s : ByteArray) : ∀ (n j : Nat), (∀ x, j ≤ x → x < j + n → opAt s x = none) → cutFrom s n j = (⟨#[]⟩, ⟨#[]⟩, ⟨#[]⟩, false) := by
  intro n
  induction n with
  | zero => intro j _; rfl
  | succ n ih =>
    intro j hn
    unfold cutFrom
    rw [hn j (Nat.le_refl _) (by omega)]
    exact ih (j + 1) (fun x h1 h2 => hn x (by omega) (by omega))
theorem hp_eq (s op : ByteArray) : strings_HasPrefix.f s op = some (decide (s.data.toList.take op.size = op.data.toList)) := by
  have hs : s.size = s.data.toList.length := by simp
  have ho : op.size = op.data.toList.length := by simp
  unfold strings_HasPrefix.f stringslite_HasPrefix.f
  by_cases h : (s.size : Int) ≥ (op.size : Int)
  · rw [if_pos h, if_pos (by omega), if_pos (by omega)]
    simp only [Option.bind_some, ByteArray.toList_eq, Lib.extract_data, Int.toNat_natCast, List.drop_zero, Nat.sub_zero]
    congr 1
    by_cases e : s.data.toList.take op.size = op.data.toList
    · rw [decide_eq_true e]; simpa using e
    · rw [decide_eq_false e]; simpa using e
  · rw [if_neg h]
    have : ¬ s.data.toList.take op.size = op.data.toList := by
      intro e
      have := congrArg List.length e
      rw [List.length_take] at this
      omega
    rw [decide_eq_false this]; rfl
theorem decode_cont (s : ByteArray) (pos : Nat) (h : pos < s.size) : 1 ≤ (Utf8.decode s pos).2 ∧ pos + (Utf8.decode s pos).2 ≤ s.size ∧ ∀ k, 1 ≤ k → k < (Utf8.decode s pos).2 → 128 ≤ (s.get! (pos + k)).toNat := by
  simp only [Utf8.decode]
  repeat' split
  all_goals simp_all
  all_goals (try omega)
  all_goals refine ⟨by omega, fun k h1 h2 => ?_⟩
  all_goals have hk : k = 1 ∨ k = 2 ∨ k = 3 := by omega
  all_goals rcases hk with hk | hk | hk
  all_goals subst hk
  all_goals omega
theorem opAt_high (s : ByteArray) (i : Nat) (h : i < s.size) (hb : 128 ≤ (s.get! i).toNat) : opAt s i = none := by
  have hl : i < s.data.toList.length := by simpa using h
  have e : s.data.toList[i]'hl = s.get! i := by rw [Array.getElem_toList]; exact (Go.get_at s i h).symm
  obtain ⟨b, hq⟩ : ∃ b, s.data.toList[i]'hl = b := ⟨_, rfl⟩
  rw [← e, hq] at hb
  have h1 : ¬ b = 33 := by rintro rfl; simp at hb
  have h2 : ¬ b = 61 := by rintro rfl; simp at hb
  unfold opAt
  rw [List.drop_eq_getElem_cons hl, hq]
  have n1 : ¬ (b :: s.data.toList.drop (i + 1)).take 2 = [33, 61] := by simp [h1]
  have n2 : ¬ (b :: s.data.toList.drop (i + 1)).take 2 = [61, 61] := by simp [h2]
  have n3 : ¬ (b :: s.data.toList.drop (i + 1)).take 1 = [61] := by simp [h2]
  rw [if_neg n1, if_neg n2, if_neg n3]
theorem wid {x : Int} (h0 : -9223372036854775808 ≤ x) (h1 : x ≤ 9223372036854775807) : wrap64 x = x := by unfold wrap64; omega
theorem ipos {w : World} {k : Nat} {s : ByteArray} {p : Nat} (h : w.heap[k]? = some (.stringIter s p)) : w.iterPos k = p := by simp [World.iterPos, h]
def meas : Value → Nat
  | .int _ q => 3 - q.toNat
  | _ => 0
theorem st_calls (s : ByteArray) (hs : s.size < 4611686018427387904) (w : World) :
    Calls Tryd.prog 27 #[.string s] w fun e w' => e = .returned (.tuple #[.string (cutFrom s s.size 0).1, .string (cutFrom s s.size 0).2.1, .string (cutFrom s s.size 0).2.2.1, .bool (cutFrom s s.size 0).2.2.2]) ∧ Below w.heap.size w w' := by
  go_enter Tryd.func27, Tryd.ntmps27
  go_wp2_with fail
  go_loopw [6] (fun _ w' => ∃ pos : Nat, pos ≤ s.size ∧ Aside0 (w'.heap[w.heap.size]? = some (.stringIter s pos)) ∧ Aside0 (Below w.heap.size w w') ∧ Aside0 (∀ x, 0 ≤ x → x < pos → opAt s x = none)) (fun _ w' => s.size - w'.iterPos w.heap.size)
  case atStart => exact ⟨0, by omega, ⟨by simpa using World.iter_heap w s 0⟩, ⟨below_alloc (Below.refl _ _) _⟩, ⟨fun x h1 h2 => by omega⟩⟩
  case round =>
    obtain ⟨pos, hle, hI, hB, hN⟩ := hrel
    by_cases hp : pos < s.size
    · have hnx := fun ty => Lib.run_next_any_at (P := Tryd.prog) wr w.heap.size s pos ty hI.out hp
      have q0 : (0 : Int) ≤ (pos : Int) := by omega
      have q1 : (pos : Int) ≤ (s.size : Int) := by omega
      go_wp2_with fail
      have hlt0 : w.heap.size < wr.heap.size := (Array.getElem?_eq_some_iff.1 hI.out).1
      have dc := decode_cont s pos hp
      generalize hW1 : wr.iterAt w.heap.size s (pos + (Utf8.decode s pos).2) = W1
      have I1 : W1.heap[w.heap.size]? = some (.stringIter s (pos + (Utf8.decode s pos).2)) := by rw [← hW1]; exact Lib.iterAt_heap _ _ _ _ _ hI.out
      have B1 : Below w.heap.size w W1 := by rw [← hW1]; exact Lib.below_iterAt hB.out (Nat.le_refl _) _ _
      have I2 := Aside0.mk (blk_alloc I1 (.cells #[.string ⟨#[33, 61]⟩, .string ⟨#[61, 61]⟩, .string ⟨#[61]⟩] 9))
      have B2 := Aside0.mk (below_alloc B1 (.cells #[.string ⟨#[33, 61]⟩, .string ⟨#[61, 61]⟩, .string ⟨#[61]⟩] 9))
      have R2 := Aside0.mk (heap_alloc_new W1 (.cells #[.string ⟨#[33, 61]⟩, .string ⟨#[61, 61]⟩, .string ⟨#[61]⟩] 9))
      generalize W1.alloc (.cells #[.string ⟨#[33, 61]⟩, .string ⟨#[61, 61]⟩, .string ⟨#[61]⟩] 9) = W2 at *
      have HB := hB
      clear hnx hW1 I1 B1 hB
      have er : (s.extract pos s.size).data.toList = s.data.toList.drop pos := Lib.extract_to_end s pos
      generalize hrest : s.extract pos s.size = rest at *
      go_loopw [20] (fun n wz => ∃ j : Nat, n = .int .i64 j ∧ j ≤ 3 ∧ Aside0 (wz.heap[w.heap.size]? = some (.stringIter s (pos + (Utf8.decode s pos).2))) ∧ Aside0 (wz.heap[W1.heap.size]? = some (.cells #[.string ⟨#[33, 61]⟩, .string ⟨#[61, 61]⟩, .string ⟨#[61]⟩] 9 (0, 0))) ∧ Aside0 (Below w.heap.size w wz) ∧ Aside0 ((0 < j → ¬ rest.data.toList.take 2 = [33, 61]) ∧ (1 < j → ¬ rest.data.toList.take 2 = [61, 61]) ∧ (2 < j → ¬ rest.data.toList.take 1 = [61]))) (fun n _ => meas n)
      case atStart => exact ⟨0, rfl, by omega, I2, R2, B2, ⟨fun h => by omega, fun h => by omega, fun h => by omega⟩⟩
      case round =>
        obtain ⟨j, rfl, hj, hi, hr, hb, hc⟩ := hrel
        rcases (show j = 0 ∨ j = 1 ∨ j = 2 ∨ j = 3 from by omega) with rfl | rfl | rfl | rfl
        · have g := (blk_cell hr.out 0).trans rfl
          replace g : wr.cell? ⟨W1.heap.size, 0, none⟩ = some (.string ⟨#[33, 61]⟩) := g
          go_wp2_with fail
          by_cases h : rest.data.toList.take 2 = [33, 61]
          · have hp_ : strings_HasPrefix.f rest (⟨#[33, 61]⟩ : ByteArray) = some true := (hp_eq rest _).trans (congrArg some (decide_eq_true h))
            have hlen : pos + 2 ≤ s.size := by
              have h1 := congrArg List.length h
              rw [er] at h1
              simp at h1
              omega
            have hwr : IntKind.i64.wrap ((pos : Int) + 2) = ((pos + 2 : Nat) : Int) := (i64_w _).trans ((wid (by omega) (by omega)).trans (by omega))
            have q2 : (0 : Int) ≤ ((pos + 2 : Nat) : Int) := by omega
            have q3 : ((pos + 2 : Nat) : Int) ≤ (s.size : Int) := by omega
            (with_reducible refine (strings_HasPrefix.calls _ _ _ _ hp_).mono ?_)
            rintro e w3 ⟨rfl, ⟨m, rfl⟩⟩
            go_wp2_with fail
            go_region
            go_wp2_with fail
            have hat : opAt s pos = some (⟨#[33, 61]⟩ : ByteArray) := by unfold opAt; rw [← er, if_pos h]
            have hcut := cutFrom_at s pos _ hp hat pos 0 (by omega) (fun x h1 h2 => hN.out x h1 h2)
            rw [Nat.sub_zero] at hcut
            rw [hcut]
            refine bodyPost_ret (results_list (rs := [.tmp 2, .tmp 3, .tmp 4, .tmp 5]) rfl (by simp) (.tmp (.tmp (.tmp (.tmp .nil))))) rfl ?_
            exact ⟨rfl, below_drew1 (pw_below_drewN hb.out m)⟩
          · have hp_ : strings_HasPrefix.f rest (⟨#[33, 61]⟩ : ByteArray) = some false := (hp_eq rest _).trans (congrArg some (decide_eq_false h))
            (with_reducible refine (strings_HasPrefix.calls _ _ _ _ hp_).mono ?_)
            rintro e w3 ⟨rfl, ⟨m, rfl⟩⟩
            go_wp2_with fail
            exact ⟨⟨1, rfl, by omega, ⟨blk_drewN hi.out m⟩, ⟨blk_drewN hr.out m⟩, ⟨pw_below_drewN hb.out m⟩, ⟨⟨fun _ => h, fun q => by omega, fun q => by omega⟩⟩⟩, by decide⟩
        · have g := (blk_cell hr.out 1).trans rfl
          replace g : wr.cell? ⟨W1.heap.size, 1, none⟩ = some (.string ⟨#[61, 61]⟩) := g
          go_wp2_with fail
          by_cases h : rest.data.toList.take 2 = [61, 61]
          · have hp_ : strings_HasPrefix.f rest (⟨#[61, 61]⟩ : ByteArray) = some true := (hp_eq rest _).trans (congrArg some (decide_eq_true h))
            have hlen : pos + 2 ≤ s.size := by
              have h1 := congrArg List.length h
              rw [er] at h1
              simp at h1
              omega
            have hwr : IntKind.i64.wrap ((pos : Int) + 2) = ((pos + 2 : Nat) : Int) := (i64_w _).trans ((wid (by omega) (by omega)).trans (by omega))
            have q2 : (0 : Int) ≤ ((pos + 2 : Nat) : Int) := by omega
            have q3 : ((pos + 2 : Nat) : Int) ≤ (s.size : Int) := by omega
            (with_reducible refine (strings_HasPrefix.calls _ _ _ _ hp_).mono ?_)
            rintro e w3 ⟨rfl, ⟨m, rfl⟩⟩
            go_wp2_with fail
            go_region
            go_wp2_with fail
            have hat : opAt s pos = some (⟨#[61, 61]⟩ : ByteArray) := by unfold opAt; rw [← er, if_neg (hc.out.1 (by omega)), if_pos h]
            have hcut := cutFrom_at s pos _ hp hat pos 0 (by omega) (fun x h1 h2 => hN.out x h1 h2)
            rw [Nat.sub_zero] at hcut
            rw [hcut]
            refine bodyPost_ret (results_list (rs := [.tmp 2, .tmp 3, .tmp 4, .tmp 5]) rfl (by simp) (.tmp (.tmp (.tmp (.tmp .nil))))) rfl ?_
            exact ⟨rfl, below_drew1 (pw_below_drewN hb.out m)⟩
          · have hp_ : strings_HasPrefix.f rest (⟨#[61, 61]⟩ : ByteArray) = some false := (hp_eq rest _).trans (congrArg some (decide_eq_false h))
            (with_reducible refine (strings_HasPrefix.calls _ _ _ _ hp_).mono ?_)
            rintro e w3 ⟨rfl, ⟨m, rfl⟩⟩
            go_wp2_with fail
            exact ⟨⟨2, rfl, by omega, ⟨blk_drewN hi.out m⟩, ⟨blk_drewN hr.out m⟩, ⟨pw_below_drewN hb.out m⟩, ⟨⟨fun _ => hc.out.1 (by omega), fun _ => h, fun q => by omega⟩⟩⟩, by decide⟩
        · have g := (blk_cell hr.out 2).trans rfl
          replace g : wr.cell? ⟨W1.heap.size, 2, none⟩ = some (.string ⟨#[61]⟩) := g
          go_wp2_with fail
          by_cases h : rest.data.toList.take 1 = [61]
          · have hp_ : strings_HasPrefix.f rest (⟨#[61]⟩ : ByteArray) = some true := (hp_eq rest _).trans (congrArg some (decide_eq_true h))
            have hlen : pos + 1 ≤ s.size := by
              have h1 := congrArg List.length h
              rw [er] at h1
              simp at h1
              omega
            have hwr : IntKind.i64.wrap ((pos : Int) + 1) = ((pos + 1 : Nat) : Int) := (i64_w _).trans ((wid (by omega) (by omega)).trans (by omega))
            have q2 : (0 : Int) ≤ ((pos + 1 : Nat) : Int) := by omega
            have q3 : ((pos + 1 : Nat) : Int) ≤ (s.size : Int) := by omega
            (with_reducible refine (strings_HasPrefix.calls _ _ _ _ hp_).mono ?_)
            rintro e w3 ⟨rfl, ⟨m, rfl⟩⟩
            go_wp2_with fail
            go_region
            go_wp2_with fail
            have hat : opAt s pos = some (⟨#[61]⟩ : ByteArray) := by unfold opAt; rw [← er, if_neg (hc.out.1 (by omega)), if_neg (hc.out.2.1 (by omega)), if_pos h]
            have hcut := cutFrom_at s pos _ hp hat pos 0 (by omega) (fun x h1 h2 => hN.out x h1 h2)
            rw [Nat.sub_zero] at hcut
            rw [hcut]
            refine bodyPost_ret (results_list (rs := [.tmp 2, .tmp 3, .tmp 4, .tmp 5]) rfl (by simp) (.tmp (.tmp (.tmp (.tmp .nil))))) rfl ?_
            exact ⟨rfl, below_drew1 (pw_below_drewN hb.out m)⟩
          · have hp_ : strings_HasPrefix.f rest (⟨#[61]⟩ : ByteArray) = some false := (hp_eq rest _).trans (congrArg some (decide_eq_false h))
            (with_reducible refine (strings_HasPrefix.calls _ _ _ _ hp_).mono ?_)
            rintro e w3 ⟨rfl, ⟨m, rfl⟩⟩
            go_wp2_with fail
            exact ⟨⟨3, rfl, by omega, ⟨blk_drewN hi.out m⟩, ⟨blk_drewN hr.out m⟩, ⟨pw_below_drewN hb.out m⟩, ⟨⟨fun _ => hc.out.1 (by omega), fun _ => hc.out.2.1 (by omega), fun _ => h⟩⟩⟩, by decide⟩
        · go_wp2_with fail
          refine ⟨⟨pos + (Utf8.decode s pos).2, dc.2.1, hi, hb, ⟨fun x h1 h2 => ?_⟩⟩, ?_⟩
          · by_cases hx : x < pos
            · exact hN.out x h1 hx
            · by_cases he : x = pos
              · subst he
                unfold opAt
                rw [← er, if_neg (hc.out.1 (by omega)), if_neg (hc.out.2.1 (by omega)), if_neg (hc.out.2.2 (by omega))]
              · have h3 := dc.2.2 (x - pos) (by omega) (by omega)
                rw [show pos + (x - pos) = x from by omega] at h3
                exact opAt_high s x (by omega) h3
          · rw [ipos hi.out, ipos hI.out]; omega
    · have hnx := fun ty => Lib.run_next_end_at (P := Tryd.prog) wr w.heap.size s pos ty hI.out hp
      have er : cutFrom s s.size 0 = (⟨#[]⟩, ⟨#[]⟩, ⟨#[]⟩, false) := cutFrom_none s s.size 0 (fun x h1 h2 => hN.out x h1 (by omega))
      go_wp2_with fail
      rw [er]
      refine bodyPost_ret (results_list (rs := [.tmp 2, .tmp 3, .tmp 4, .tmp 5]) rfl (by simp) (.tmp (.tmp (.tmp (.tmp .nil))))) rfl ?_
      exact ⟨rfl, hB.out⟩
end Go.Proofs.YtccdnmachpepcaaDoor.FsC

set_option linter.unusedSimpArgs false
set_option linter.unusedVariables false
namespace Go.Proofs.YtccdnmachpepcaaDoor.FsO
open Go Go.RowKit Go.Sort Go.Proofs.YtccdnmachpepcaaDoor.FsT Go.Proofs.YtccdnmachpepcaaDoorW.PrintWords Go.Proofs.YtccdnmachpepcaaDoorW.PrintLast
/-- Texts, rising. -/
def srt (l : List ByteArray) : List ByteArray := ((l.map fun s => s.data.toList).mergeSort fun x y => decide (x ≤ y)).map B
theorem srt_length (l : List ByteArray) : (srt l).length = l.length := by unfold srt; rw [List.length_map, List.length_mergeSort, List.length_map]
theorem B_data (s : ByteArray) : B s.data.toList = s := by unfold B; cases s; simp
theorem srt_mem (l : List ByteArray) : ∀ x, x ∈ srt l ↔ x ∈ l := by
  intro x
  unfold srt
  have hp := List.mergeSort_perm (l.map fun s => s.data.toList) fun x y => decide (x ≤ y)
  constructor
  · intro h
    obtain ⟨y, hy, rfl⟩ := List.mem_map.1 h
    obtain ⟨z, hz, rfl⟩ := List.mem_map.1 (hp.mem_iff.1 hy)
    rw [B_data]; exact hz
  · intro h
    exact List.mem_map.2 ⟨x.data.toList, hp.mem_iff.2 (List.mem_map.2 ⟨x, h, rfl⟩), B_data x⟩
theorem srt_small (l : List ByteArray) (h : l.length ≤ 1) : srt l = l := by
  rcases l with _ | ⟨a, _ | ⟨b, l⟩⟩
  · exact List.eq_nil_of_length_eq_zero (srt_length [])
  · unfold srt
    simp [B_data]
  · simp at h
theorem encS_eq (l : List UInt8) : encS l = encStr l := rfl
theorem reL (rv : Value) : Reaches Tryd.prog 75 rv "Len" 91 := Finds.reaches (fun _ _ => by kernel_rfl) Tryd.func91 (by kernel_rfl) rv
theorem reLe (rv : Value) : Reaches Tryd.prog 75 rv "Less" 92 := Finds.reaches (fun _ _ => by kernel_rfl) Tryd.func92 (by kernel_rfl) rv
theorem reS (rv : Value) : Reaches Tryd.prog 75 rv "Swap" 93 := Finds.reaches (fun _ _ => by kernel_rfl) Tryd.func93 (by kernel_rfl) rv
theorem sorted_eq (ss : List (List UInt8)) (d' : Array (List UInt8)) (hP : PermIn 0 ss.toArray.size ss.toArray d') (hS : SortedIn ltStr 0 ss.toArray.size d') : d' = (ss.mergeSort fun x y => decide (x ≤ y)).toArray := by
  have h := sorted_unique_holds swo_ltStr (fun x y h1 h2 => by simp only [ltStr, decide_eq_false_iff_not, List.not_lt] at h1 h2; exact List.le_antisymm h2 h1) ss.toArray _ hP hS
  have e : (fun x y : List UInt8 => !ltStr y x) = fun x y => decide (x ≤ y) := by
    funext x y
    show (!decide (y < x)) = decide (x ≤ y)
    by_cases h : x ≤ y
    · have h' : ¬ y < x := List.not_lt.2 h
      simp [h, h']
    · have h' : y < x := List.not_le.1 h
      simp [h, h']
  rw [e] at h
  rw [← h]
theorem run_calls (g cap : Nat) (ss : List (List UInt8)) (h2 : 2 ≤ ss.length) (hsz : ss.length < 4611686018427387904) (w : World) (hH : Holds encStr w g 0 ss.toArray) (hg : g < w.heap.size) :
    Calls Tryd.prog 31 #[.iface 75 (.slice (some ⟨g, 0, none⟩) ss.length cap)] w fun e w' => e = .returned (.tuple #[]) ∧ ∃ n os, w' = grow (putRow encStr (Sort.ahead w n) g 0 (ss.mergeSort fun x y => decide (x ≤ y)).toArray) os := by
  have hz : ss.toArray.size = ss.length := by simp
  have h := Tryd.sort_Sort_sorted (α := List UInt8) 75 (.slice (some ⟨g, 0, none⟩) ss.toArray.size cap) _ _ _ (reL _) (reLe _) (reS _) encS ltStr swo_ltStr g 0 ss.toArray (by omega) (by omega) w (Tryd.StringSlice_Len _ _ _ _) (Tryd.StringSlice_LessM g 0 cap ss.toArray w hH hg (by omega)) (Tryd.StringSlice_SwapM g 0 cap _ (by omega)) hH hg
  rw [hz] at h
  refine h.mono ?_
  rintro e w1 ⟨rfl, d', n, os, hP, hS, rfl⟩
  rw [← hz] at hP hS
  rw [sorted_eq ss d' hP hS]
  exact ⟨rfl, n, os, rfl⟩
set_option maxHeartbeats 2000000 in
theorem sort_calls (v : Value) (l : List ByteArray) (hl : l.length ≤ 4398046511104) (base : Nat) (ok : Nat → Prop) (w : World) (hR : Row w base ok v l) :
    Calls Tryd.prog 26 #[v] w fun e w' => e = .returned (.tuple #[]) ∧ Row w' base ok v (srt l) ∧ w.grownBy w' v.ownBlock := by
  by_cases h1 : l.length ≤ 1
  · obtain ⟨A, c, rfl⟩ := Kd.R_slice hR
    have hs := Aside0.mk (srt_small l h1)
    have hc := Aside0.mk (Tryd.sort_Sort_tiny (α := List UInt8) 75 (.slice A l.length c) _ (reL _) l.length h1)
    have hx := Aside0.mk (Tryd.StringSlice_Len A l.length c)
    replace hR := Aside0.mk hR
    clear h1
    go_enter Tryd.func26, Tryd.ntmps26
    go_wp2_with fail
    refine (hc.out _ (hx.out _)).mono ?_
    rintro e w1 ⟨rfl, q, rfl⟩
    go_wp2_with fail
    go_end0
    refine ⟨rfl, ?_, ?_⟩
    · rw [hs.out]; exact Kd.R_move hR.out (fun _ _ => rfl)
    · exact ⟨rfl, rfl, rfl, Nat.le_refl _, fun k hk hne => rfl⟩
  · have hown := Kd.own_of_R hR
    rcases hown.2 with ⟨rfl, h0⟩ | ⟨g, cap, cur, rfl, hbase, hb, q1, q2, q3, q4⟩
    · omega
    · have hlen : (l.map fun s => s.data.toList).length = l.length := List.length_map _
      have hh := holds_of_block (ss := l.map fun s => s.data.toList) hb (by
        rw [Nat.mul_one] at q4
        rw [hlen, q4]
        unfold encs
        rw [List.map_map]
        rfl)
      have hc := run_calls g cap (l.map fun s => s.data.toList) (by rw [hlen]; omega) (by rw [hlen]; omega) w hh (Array.getElem?_eq_some_iff.1 hb).1
      rw [hlen] at hc
      have e2 := srt_length l
      have e3 : ((l.map fun s => s.data.toList).mergeSort fun x y => decide (x ≤ y)).length = (l.map fun s => s.data.toList).length := List.length_mergeSort _
      have hrow := fun (nn : Nat) os => ownsRow_sorted (n := nn) (os := os) (ss := l.map fun s => s.data.toList) e3 hbase hb (by rw [hlen]; exact q1) q2 q3
      have hok := hR.1
      replace hc := Aside0.mk hc
      replace hrow := Aside0.mk hrow
      replace hok := Aside0.mk hok
      replace e2 := Aside0.mk e2
      replace hlen := Aside0.mk hlen
      clear hR hown hb q1 q2 q3 q4 hh e3 h1 hbase
      go_enter Tryd.func26, Tryd.ntmps26
      go_wp2_with fail
      refine hc.out.mono ?_
      rintro e w1 ⟨rfl, nn, os, rfl⟩
      go_wp2_with fail
      go_end0
      refine ⟨rfl, ?_, grownBy_sorted _⟩
      refine Kd.R_of_own ?_ hok.out
      have := hrow.out nn os
      rw [hlen.out] at this
      rw [e2.out]
      unfold encs srt
      rw [List.map_map]
      exact this
end Go.Proofs.YtccdnmachpepcaaDoor.FsO
