/- splitTerm walked: a piece cut at its first operator. -/
import Derived.Test.YtccdnmachpepcaaDoorXHpx1
import Derived.Test.YtccdnmachpepcaaDoorFsB
import Derived.Test.YtccdnmachpepcaaDoorFsA
set_option linter.unusedSimpArgs false
set_option linter.unusedVariables false
namespace Go.Proofs.YtccdnmachpepcaaDoor.FsC
open Go.RowKit Go.Proofs.YtccdnmachpepcaaDoorW.PrintWords Go.Proofs.YtccdnmachpepcaaDoorW.PrintLast Go.Proofs.YtccdnmachpepcaaDoorW.PrintMore Go.Proofs.YtccdnmachpepcaaDoor.XHp
attribute [local go_sem] max2_int min2_int max_two min_two max_three min_three max_four min_four   -- for this text's walks alone
/-- The operator that stands at a byte: the first of '!=', '==' and '='. -/
def opAt (s : ByteArray) (i : Nat) : Option ByteArray :=
  if (s.data.toList.drop i).take 2 = [33, 61] then some ⟨#[33, 61]⟩ else if (s.data.toList.drop i).take 2 = [61, 61] then some ⟨#[61, 61]⟩ else if (s.data.toList.drop i).take 1 = [61] then some ⟨#[61]⟩ else none
/-- A text cut at its first operator from a byte on. -/
def cutFrom (s : ByteArray) : Nat → Nat → ByteArray × ByteArray × ByteArray × Bool
  | 0, _ => (⟨#[]⟩, ⟨#[]⟩, ⟨#[]⟩, false)
  | n + 1, i => match opAt s i with
    | some op => (s.extract 0 i, op, s.extract (i + op.size) s.size, true)
    | none => cutFrom s n (i + 1)
theorem cutFrom_at (s : ByteArray) (i : Nat) (op : ByteArray) (hi : i < s.size) (ho : opAt s i = some op) : ∀ (d j : Nat), j + d = i → (∀ x, j ≤ x → x < i → opAt s x = none) →
    cutFrom s (s.size - j) j = (s.extract 0 i, op, s.extract (i + op.size) s.size, true) := by
  intro d
  induction d with
  | zero =>
    intro j hj _
    obtain rfl : j = i := by omega
    rw [show s.size - j = (s.size - j - 1) + 1 from by omega]
    unfold cutFrom
    rw [ho]
  | succ d ih =>
    intro j hj hn
    rw [show s.size - j = (s.size - (j + 1)) + 1 from by omega]
    unfold cutFrom
    rw [hn j (Nat.le_refl _) (by omega)]
    exact ih (j + 1) (by omega) (fun x h1 h2 => hn x (by omega) h2)
theorem cutFrom_none (s : ByteArray) : ∀ (n j : Nat), (∀ x, j ≤ x → x < j + n → opAt s x = none) → cutFrom s n j = (⟨#[]⟩, ⟨#[]⟩, ⟨#[]⟩, false) := by
  intro n
  induction n with
  | zero => intro j _; rfl
  | succ n ih =>
    intro j hn
    unfold cutFrom
    rw [hn j (Nat.le_refl _) (by omega)]
    exact ih (j + 1) (fun x h1 h2 => hn x (by omega) (by omega))
theorem hp_eq (s op : ByteArray) : strings_HasPrefix.f s op = some (decide (s.data.toList.take op.size = op.data.toList)) := by
  have hs : s.size = s.data.toList.length := by simp
  have ho : op.size = op.data.toList.length := by simp
  unfold strings_HasPrefix.f stringslite_HasPrefix.f
  by_cases h : (s.size : Int) ≥ (op.size : Int)
  · rw [if_pos h, if_pos (by omega), if_pos (by omega)]
    simp only [Option.bind_some, ByteArray.toList_eq, Lib.extract_data, Int.toNat_natCast, List.drop_zero, Nat.sub_zero]
    congr 1
    by_cases e : s.data.toList.take op.size = op.data.toList
    · rw [decide_eq_true e]; simpa using e
    · rw [decide_eq_false e]; simpa using e
  · rw [if_neg h]
    have : ¬ s.data.toList.take op.size = op.data.toList := by
      intro e
      have := congrArg List.length e
      rw [List.length_take] at this
      omega
    rw [decide_eq_false this]; rfl
theorem decode_cont (s : ByteArray) (pos : Nat) (h : pos < s.size) : 1 ≤ (Utf8.decode s pos).2 ∧ pos + (Utf8.decode s pos).2 ≤ s.size ∧ ∀ k, 1 ≤ k → k < (Utf8.decode s pos).2 → 128 ≤ (s.get! (pos + k)).toNat := by
  simp only [Utf8.decode]
  repeat' split
  all_goals simp_all
  all_goals (try omega)
  all_goals refine ⟨by omega, fun k h1 h2 => ?_⟩
  all_goals have hk : k = 1 ∨ k = 2 ∨ k = 3 := by omega
  all_goals rcases hk with hk | hk | hk
  all_goals subst hk
  all_goals omega
theorem opAt_high (s : ByteArray) (i : Nat) (h : i < s.size) (hb : 128 ≤ (s.get! i).toNat) : opAt s i = none := by
  have hl : i < s.data.toList.length := by simpa using h
  have e : s.data.toList[i]'hl = s.get! i := by rw [Array.getElem_toList]; exact (Go.get_at s i h).symm
  obtain ⟨b, hq⟩ : ∃ b, s.data.toList[i]'hl = b := ⟨_, rfl⟩
  rw [← e, hq] at hb
  have h1 : ¬ b = 33 := by rintro rfl; simp at hb
  have h2 : ¬ b = 61 := by rintro rfl; simp at hb
  unfold opAt
  rw [List.drop_eq_getElem_cons hl, hq]
  have n1 : ¬ (b :: s.data.toList.drop (i + 1)).take 2 = [33, 61] := by simp [h1]
  have n2 : ¬ (b :: s.data.toList.drop (i + 1)).take 2 = [61, 61] := by simp [h2]
  have n3 : ¬ (b :: s.data.toList.drop (i + 1)).take 1 = [61] := by simp [h2]
  rw [if_neg n1, if_neg n2, if_neg n3]
theorem wid {x : Int} (h0 : -9223372036854775808 ≤ x) (h1 : x ≤ 9223372036854775807) : wrap64 x = x := by unfold wrap64; omega
theorem ipos {w : World} {k : Nat} {s : ByteArray} {p : Nat} (h : w.heap[k]? = some (.stringIter s p)) : w.iterPos k = p := by simp [World.iterPos, h]
def meas : Value → Nat
  | .int _ q => 3 - q.toNat
  | _ => 0
theorem st_calls (s : ByteArray) (hs : s.size < 4611686018427387904) (w : World) :
    Calls Tryd.prog 27 #[.string s] w fun e w' => e = .returned (.tuple #[.string (cutFrom s s.size 0).1, .string (cutFrom s s.size 0).2.1, .string (cutFrom s s.size 0).2.2.1, .bool (cutFrom s s.size 0).2.2.2]) ∧ Below w.heap.size w w' := by
  go_enter Tryd.func27, Tryd.ntmps27
  go_wp2_with fail
  go_loopw [6] (fun _ w' => ∃ pos : Nat, pos ≤ s.size ∧ Aside0 (w'.heap[w.heap.size]? = some (.stringIter s pos)) ∧ Aside0 (Below w.heap.size w w') ∧ Aside0 (∀ x, 0 ≤ x → x < pos → opAt s x = none)) (fun _ w' => s.size - w'.iterPos w.heap.size)
  case atStart => exact ⟨0, by omega, ⟨by simpa using World.iter_heap w s 0⟩, ⟨below_alloc (Below.refl _ _) _⟩, ⟨fun x h1 h2 => by omega⟩⟩
  case round =>
    obtain ⟨pos, hle, hI, hB, hN⟩ := hrel
    by_cases hp : pos < s.size
    · have hnx := fun ty => Lib.run_next_any_at (P := Tryd.prog) wr w.heap.size s pos ty hI.out hp
      have q0 : (0 : Int) ≤ (pos : Int) := by omega
      have q1 : (pos : Int) ≤ (s.size : Int) := by omega
      go_wp2_with fail
      have hlt0 : w.heap.size < wr.heap.size := (Array.getElem?_eq_some_iff.1 hI.out).1
      have dc := decode_cont s pos hp
      generalize hW1 : wr.iterAt w.heap.size s (pos + (Utf8.decode s pos).2) = W1
      have I1 : W1.heap[w.heap.size]? = some (.stringIter s (pos + (Utf8.decode s pos).2)) := by rw [← hW1]; exact Lib.iterAt_heap _ _ _ _ _ hI.out
      have B1 : Below w.heap.size w W1 := by rw [← hW1]; exact Lib.below_iterAt hB.out (Nat.le_refl _) _ _
      have I2 := Aside0.mk (blk_alloc I1 (.cells #[.string ⟨#[33, 61]⟩, .string ⟨#[61, 61]⟩, .string ⟨#[61]⟩] 9))
      have B2 := Aside0.mk (below_alloc B1 (.cells #[.string ⟨#[33, 61]⟩, .string ⟨#[61, 61]⟩, .string ⟨#[61]⟩] 9))
      have R2 := Aside0.mk (heap_alloc_new W1 (.cells #[.string ⟨#[33, 61]⟩, .string ⟨#[61, 61]⟩, .string ⟨#[61]⟩] 9))
      generalize W1.alloc (.cells #[.string ⟨#[33, 61]⟩, .string ⟨#[61, 61]⟩, .string ⟨#[61]⟩] 9) = W2 at *
      have HB := hB
      clear hnx hW1 I1 B1 hB
      have er : (s.extract pos s.size).data.toList = s.data.toList.drop pos := Lib.extract_to_end s pos
      generalize hrest : s.extract pos s.size = rest at *
      go_loopw [20] (fun n wz => ∃ j : Nat, n = .int .i64 j ∧ j ≤ 3 ∧ Aside0 (wz.heap[w.heap.size]? = some (.stringIter s (pos + (Utf8.decode s pos).2))) ∧ Aside0 (wz.heap[W1.heap.size]? = some (.cells #[.string ⟨#[33, 61]⟩, .string ⟨#[61, 61]⟩, .string ⟨#[61]⟩] 9 (0, 0))) ∧ Aside0 (Below w.heap.size w wz) ∧ Aside0 ((0 < j → ¬ rest.data.toList.take 2 = [33, 61]) ∧ (1 < j → ¬ rest.data.toList.take 2 = [61, 61]) ∧ (2 < j → ¬ rest.data.toList.take 1 = [61]))) (fun n _ => meas n)
      case atStart => exact ⟨0, rfl, by omega, I2, R2, B2, ⟨fun h => by omega, fun h => by omega, fun h => by omega⟩⟩
      case round =>
        obtain ⟨j, rfl, hj, hi, hr, hb, hc⟩ := hrel
        rcases (show j = 0 ∨ j = 1 ∨ j = 2 ∨ j = 3 from by omega) with rfl | rfl | rfl | rfl
        · have g := (blk_cell hr.out 0).trans rfl
          replace g : wr.cell? ⟨W1.heap.size, 0, none⟩ = some (.string ⟨#[33, 61]⟩) := g
          go_wp2_with fail
          by_cases h : rest.data.toList.take 2 = [33, 61]
          · have hp_ : strings_HasPrefix.f rest (⟨#[33, 61]⟩ : ByteArray) = some true := (hp_eq rest _).trans (congrArg some (decide_eq_true h))
            have hlen : pos + 2 ≤ s.size := by
              have h1 := congrArg List.length h
              rw [er] at h1
              simp at h1
              omega
            have hwr : IntKind.i64.wrap ((pos : Int) + 2) = ((pos + 2 : Nat) : Int) := (i64_w _).trans ((wid (by omega) (by omega)).trans (by omega))
            have q2 : (0 : Int) ≤ ((pos + 2 : Nat) : Int) := by omega
            have q3 : ((pos + 2 : Nat) : Int) ≤ (s.size : Int) := by omega
            (with_reducible refine (strings_HasPrefix.calls _ _ _ _ hp_).mono ?_)
            rintro e w3 ⟨rfl, ⟨m, rfl⟩⟩
            go_wp2_with fail
            go_region
            go_wp2_with fail
            have hat : opAt s pos = some (⟨#[33, 61]⟩ : ByteArray) := by unfold opAt; rw [← er, if_pos h]
            have hcut := cutFrom_at s pos _ hp hat pos 0 (by omega) (fun x h1 h2 => hN.out x h1 h2)
            rw [Nat.sub_zero] at hcut
            rw [hcut]
            refine bodyPost_ret (results_list (rs := [.tmp 2, .tmp 3, .tmp 4, .tmp 5]) rfl (by simp) (.tmp (.tmp (.tmp (.tmp .nil))))) rfl ?_
            exact ⟨rfl, below_drew1 (pw_below_drewN hb.out m)⟩
          · have hp_ : strings_HasPrefix.f rest (⟨#[33, 61]⟩ : ByteArray) = some false := (hp_eq rest _).trans (congrArg some (decide_eq_false h))
            (with_reducible refine (strings_HasPrefix.calls _ _ _ _ hp_).mono ?_)
            rintro e w3 ⟨rfl, ⟨m, rfl⟩⟩
            go_wp2_with fail
            exact ⟨⟨1, rfl, by omega, ⟨blk_drewN hi.out m⟩, ⟨blk_drewN hr.out m⟩, ⟨pw_below_drewN hb.out m⟩, ⟨⟨fun _ => h, fun q => by omega, fun q => by omega⟩⟩⟩, by decide⟩
        · have g := (blk_cell hr.out 1).trans rfl
          replace g : wr.cell? ⟨W1.heap.size, 1, none⟩ = some (.string ⟨#[61, 61]⟩) := g
          go_wp2_with fail
          by_cases h : rest.data.toList.take 2 = [61, 61]
          · have hp_ : strings_HasPrefix.f rest (⟨#[61, 61]⟩ : ByteArray) = some true := (hp_eq rest _).trans (congrArg some (decide_eq_true h))
            have hlen : pos + 2 ≤ s.size := by
              have h1 := congrArg List.length h
              rw [er] at h1
              simp at h1
              omega
            have hwr : IntKind.i64.wrap ((pos : Int) + 2) = ((pos + 2 : Nat) : Int) := (i64_w _).trans ((wid (by omega) (by omega)).trans (by omega))
            have q2 : (0 : Int) ≤ ((pos + 2 : Nat) : Int) := by omega
            have q3 : ((pos + 2 : Nat) : Int) ≤ (s.size : Int) := by omega
            (with_reducible refine (strings_HasPrefix.calls _ _ _ _ hp_).mono ?_)
            rintro e w3 ⟨rfl, ⟨m, rfl⟩⟩
            go_wp2_with fail
            go_region
            go_wp2_with fail
            have hat : opAt s pos = some (⟨#[61, 61]⟩ : ByteArray) := by unfold opAt; rw [← er, if_neg (hc.out.1 (by omega)), if_pos h]
            have hcut := cutFrom_at s pos _ hp hat pos 0 (by omega) (fun x h1 h2 => hN.out x h1 h2)
            rw [Nat.sub_zero] at hcut
            rw [hcut]
            refine bodyPost_ret (results_list (rs := [.tmp 2, .tmp 3, .tmp 4, .tmp 5]) rfl (by simp) (.tmp (.tmp (.tmp (.tmp .nil))))) rfl ?_
            exact ⟨rfl, below_drew1 (pw_below_drewN hb.out m)⟩
          · have hp_ : strings_HasPrefix.f rest (⟨#[61, 61]⟩ : ByteArray) = some false := (hp_eq rest _).trans (congrArg some (decide_eq_false h))
            (with_reducible refine (strings_HasPrefix.calls _ _ _ _ hp_).mono ?_)
            rintro e w3 ⟨rfl, ⟨m, rfl⟩⟩
            go_wp2_with fail
            exact ⟨⟨2, rfl, by omega, ⟨blk_drewN hi.out m⟩, ⟨blk_drewN hr.out m⟩, ⟨pw_below_drewN hb.out m⟩, ⟨⟨fun _ => hc.out.1 (by omega), fun _ => h, fun q => by omega⟩⟩⟩, by decide⟩
        · have g := (blk_cell hr.out 2).trans rfl
          replace g : wr.cell? ⟨W1.heap.size, 2, none⟩ = some (.string ⟨#[61]⟩) := g
          go_wp2_with fail
          by_cases h : rest.data.toList.take 1 = [61]
          · have hp_ : strings_HasPrefix.f rest (⟨#[61]⟩ : ByteArray) = some true := (hp_eq rest _).trans (congrArg some (decide_eq_true h))
            have hlen : pos + 1 ≤ s.size := by
              have h1 := congrArg List.length h
              rw [er] at h1
              simp at h1
              omega
            have hwr : IntKind.i64.wrap ((pos : Int) + 1) = ((pos + 1 : Nat) : Int) := (i64_w _).trans ((wid (by omega) (by omega)).trans (by omega))
            have q2 : (0 : Int) ≤ ((pos + 1 : Nat) : Int) := by omega
            have q3 : ((pos + 1 : Nat) : Int) ≤ (s.size : Int) := by omega
            (with_reducible refine (strings_HasPrefix.calls _ _ _ _ hp_).mono ?_)
            rintro e w3 ⟨rfl, ⟨m, rfl⟩⟩
            go_wp2_with fail
            go_region
            go_wp2_with fail
            have hat : opAt s pos = some (⟨#[61]⟩ : ByteArray) := by unfold opAt; rw [← er, if_neg (hc.out.1 (by omega)), if_neg (hc.out.2.1 (by omega)), if_pos h]
            have hcut := cutFrom_at s pos _ hp hat pos 0 (by omega) (fun x h1 h2 => hN.out x h1 h2)
            rw [Nat.sub_zero] at hcut
            rw [hcut]
            refine bodyPost_ret (results_list (rs := [.tmp 2, .tmp 3, .tmp 4, .tmp 5]) rfl (by simp) (.tmp (.tmp (.tmp (.tmp .nil))))) rfl ?_
            exact ⟨rfl, below_drew1 (pw_below_drewN hb.out m)⟩
          · have hp_ : strings_HasPrefix.f rest (⟨#[61]⟩ : ByteArray) = some false := (hp_eq rest _).trans (congrArg some (decide_eq_false h))
            (with_reducible refine (strings_HasPrefix.calls _ _ _ _ hp_).mono ?_)
            rintro e w3 ⟨rfl, ⟨m, rfl⟩⟩
            go_wp2_with fail
            exact ⟨⟨3, rfl, by omega, ⟨blk_drewN hi.out m⟩, ⟨blk_drewN hr.out m⟩, ⟨pw_below_drewN hb.out m⟩, ⟨⟨fun _ => hc.out.1 (by omega), fun _ => hc.out.2.1 (by omega), fun _ => h⟩⟩⟩, by decide⟩
        · go_wp2_with fail
          refine ⟨⟨pos + (Utf8.decode s pos).2, dc.2.1, hi, hb, ⟨fun x h1 h2 => ?_⟩⟩, ?_⟩
          · by_cases hx : x < pos
            · exact hN.out x h1 hx
            · by_cases he : x = pos
              · subst he
                unfold opAt
                rw [← er, if_neg (hc.out.1 (by omega)), if_neg (hc.out.2.1 (by omega)), if_neg (hc.out.2.2 (by omega))]
              · have h3 := dc.2.2 (x - pos) (by omega) (by omega)
                rw [show pos + (x - pos) = x from by omega] at h3
                exact opAt_high s x (by omega) h3
          · rw [ipos hi.out, ipos hI.out]; omega
    · have hnx := fun ty => Lib.run_next_end_at (P := Tryd.prog) wr w.heap.size s pos ty hI.out hp
      have er : cutFrom s s.size 0 = (⟨#[]⟩, ⟨#[]⟩, ⟨#[]⟩, false) := cutFrom_none s s.size 0 (fun x h1 h2 => hN.out x h1 (by omega))
      go_wp2_with fail
      rw [er]
      refine bodyPost_ret (results_list (rs := [.tmp 2, .tmp 3, .tmp 4, .tmp 5]) rfl (by simp) (.tmp (.tmp (.tmp (.tmp .nil))))) rfl ?_
      exact ⟨rfl, hB.out⟩
end Go.Proofs.YtccdnmachpepcaaDoor.FsC
