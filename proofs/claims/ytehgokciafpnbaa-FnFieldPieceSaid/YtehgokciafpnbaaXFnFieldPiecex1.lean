/- A text of this session: the functions of the law FnFieldPiece, by a program that calls the kit's print and lays this session's own contracts of single functions beside. -/
import Derived.Test.YtehgokciafpnbaaXFnFieldPiecex0
namespace Go.Proofs.Ytehgokciafpnbaa.XFnFieldPiece
open Go.RowKit Go.Proofs.YtehgokciafpnbaaW.PrintWords Go.Proofs.YtehgokciafpnbaaW.PrintLast Go.Proofs.YtehgokciafpnbaaW.PrintMore
attribute [local go_sem] max2_int min2_int max_two min_two max_three min_three max_four min_four   -- for this text's walks alone
set_option linter.unusedVariables false
set_option linter.unusedSimpArgs false

/-! ### stringslite_HasPrefix: function 54 -/
def stringslite_HasPrefix.f (a0 : ByteArray) (a1 : ByteArray) : Option (Bool) := if (a0.size : Int) ≥ (a1.size : Int) then (if 0 ≤ (a1.size : Int) then (if (a1.size : Int) ≤ (a0.size : Int) then (some ((a0.extract 0 ((a1.size : Int) : Int).toNat).toList == a1.toList)) else (none)) else (none)) else (some false)
set_option maxHeartbeats 8000000 in
set_option maxRecDepth 100000 in
theorem stringslite_HasPrefix.calls (a0 : ByteArray) (a1 : ByteArray) (r : Bool) (w : World) (h : stringslite_HasPrefix.f a0 a1 = some r) :
    Calls Try.prog 54 #[.string a0, .string a1] w fun e w' => e = .returned (.bool r) ∧ Drawn0 w w' := by
  have H : (if (a0.size : Int) ≥ (a1.size : Int) then (if 0 ≤ (a1.size : Int) then (if (a1.size : Int) ≤ (a0.size : Int) then (some ((a0.extract 0 ((a1.size : Int) : Int).toNat).toList == a1.toList)) else (none)) else (none)) else (some false)) = some r := h
  clear h
  by_cases c3 : (a0.size : Int) ≥ (a1.size : Int)
  · rw [if_pos c3] at H
    have c3b0 : decide ((a1.size : Int) ≤ (a0.size : Int)) = true := decide_eq_true c3
    have c3b1 : decide (a1.size ≤ a0.size) = true := decide_eq_true (Int.ofNat_le.mp c3)
    clear c3
    by_cases c4 : 0 ≤ (a1.size : Int)
    · rw [if_pos c4] at H
      have c4b0 := eq_true c4
      have c4b1 : decide (0 ≤ (a1.size : Int)) = true := decide_eq_true c4
      clear c4
      by_cases c5 : (a1.size : Int) ≤ (a0.size : Int)
      · rw [if_pos c5] at H
        have c5b0 := eq_true c5
        have c5b1 : decide ((a1.size : Int) ≤ (a0.size : Int)) = true := decide_eq_true c5
        clear c5
        obtain rfl := Option.some.inj H
        go_enter Try.func54, Try.ntmps54
        go_wp2
        go_ret
        exact ⟨by first | rfl | (simp; done) | (simp [*]; done), by repeat (first | exact Drawn0.refl _ | apply Drawn0.step)⟩
      · rw [if_neg c5] at H
        exact absurd H (by simp)
    · rw [if_neg c4] at H
      exact absurd H (by simp)
  · rw [if_neg c3] at H
    have c3b0 : decide ((a1.size : Int) ≤ (a0.size : Int)) = false := decide_eq_false c3
    have c3b1 : decide (a1.size ≤ a0.size) = false := decide_eq_false (fun h => c3 (Int.ofNat_le.mpr h))
    clear c3
    obtain rfl := Option.some.inj H
    go_enter Try.func54, Try.ntmps54
    go_wp2
    go_ret
    exact ⟨by first | rfl | (simp; done) | (simp [*]; done), by repeat (first | exact Drawn0.refl _ | apply Drawn0.step)⟩

/-! ### strings_HasPrefix: function 50 -/
def strings_HasPrefix.f (a0 : ByteArray) (a1 : ByteArray) : Option (Bool) := (stringslite_HasPrefix.f a0 a1).bind fun t101 => (some t101)
set_option maxHeartbeats 8000000 in
set_option maxRecDepth 100000 in
theorem strings_HasPrefix.calls (a0 : ByteArray) (a1 : ByteArray) (r : Bool) (w : World) (h : strings_HasPrefix.f a0 a1 = some r) :
    Calls Try.prog 50 #[.string a0, .string a1] w fun e w' => e = .returned (.bool r) ∧ Drawn0 w w' := by
  have H : ((stringslite_HasPrefix.f a0 a1).bind fun t101 => (some t101)) = some r := h
  clear h
  replace H := Option.bind_eq_some_iff.mp H
  obtain ⟨t101, A30, H⟩ := H
  replace H : (some t101) = some r := H
  have A3 := Aside0.mk A30
  clear A30
  obtain rfl := Option.some.inj H
  go_enter Try.func50, Try.ntmps50
  go_wp2_with (first | ((with_reducible refine gate_callee (f := 54) rfl ?_); refine goesL_ (some 7) rfl rfl Try.func54 (by kernel_rfl) rfl #[.string a0, .string a1] rfl (by (try simp only [List.map_toArray, List.map_cons, List.map_nil]); first | done | rfl | (simp only [List.length_drop, List.length_take]; rfl)) ?_; (with_reducible refine (stringslite_HasPrefix.calls a0 a1 t101 _ A3.out).mono ?_); rintro e w' ⟨rfl, ⟨nd, rfl⟩⟩; refine ⟨_, rfl, ?_⟩))
  go_ret
  exact ⟨by first | rfl | (simp; done) | (simp [*]; done), by repeat (first | exact Drawn0.refl _ | apply Drawn0.step)⟩

-- NOT PRINTED: function 42 (fields_splitTerm)

-- NOT PRINTED: function 25 (fields_ZzSplitTerm)

/-! ### impl_FieldPiece: function 9 -/
/-- The operator that stands at a byte: the first of '!=', '==' and '='. -/
def opAt (s : ByteArray) (i : Nat) : Option ByteArray :=
  if (s.data.toList.drop i).take 2 = [33, 61] then some ⟨#[33, 61]⟩ else if (s.data.toList.drop i).take 2 = [61, 61] then some ⟨#[61, 61]⟩ else if (s.data.toList.drop i).take 1 = [61] then some ⟨#[61]⟩ else none
/-- A text cut at its first operator from a byte on. -/
def cutFrom (s : ByteArray) : Nat → Nat → ByteArray × ByteArray × ByteArray × Bool
  | 0, _ => (⟨#[]⟩, ⟨#[]⟩, ⟨#[]⟩, false)
  | n + 1, i => match opAt s i with
    | some op => (s.extract 0 i, op, s.extract (i + op.size) s.size, true)
    | none => cutFrom s n (i + 1)
theorem cutFrom_at (s : ByteArray) (i : Nat) (op : ByteArray) (hi : i < s.size) (ho : opAt s i = some op) : ∀ (d j : Nat), j + d = i → (∀ x, j ≤ x → x < i → opAt s x = none) →
    cutFrom s (s.size - j) j = (s.extract 0 i, op, s.extract (i + op.size) s.size, true) := by
  intro d
  induction d with
  | zero =>
    intro j hj _
    obtain rfl : j = i := by omega
    rw [show s.size - j = (s.size - j - 1) + 1 from by omega]
    unfold cutFrom
    rw [ho]
  | succ d ih =>
    intro j hj hn
    rw [show s.size - j = (s.size - (j + 1)) + 1 from by omega]
    unfold cutFrom
    rw [hn j (Nat.le_refl _) (by omega)]
    exact ih (j + 1) (by omega) (fun x h1 h2 => hn x (by omega) h2)
theorem cutFrom_none (s : ByteArray) : ∀ (n j : Nat), (∀ x, j ≤ x → x < j + n → opAt s x = none) → cutFrom s n j = (⟨#[]⟩, ⟨#[]⟩, ⟨#[]⟩, false) := by
  intro n
  induction n with
  | zero => intro j _; rfl
  | succ n ih =>
    intro j hn
    unfold cutFrom
    rw [hn j (Nat.le_refl _) (by omega)]
    exact ih (j + 1) (fun x h1 h2 => hn x (by omega) (by omega))
theorem hp_eq (s op : ByteArray) : strings_HasPrefix.f s op = some (decide (s.data.toList.take op.size = op.data.toList)) := by
  have hs : s.size = s.data.toList.length := by simp
  have ho : op.size = op.data.toList.length := by simp
  unfold strings_HasPrefix.f stringslite_HasPrefix.f
  by_cases h : (s.size : Int) ≥ (op.size : Int)
  · rw [if_pos h, if_pos (by omega), if_pos (by omega)]
    simp only [Option.bind_some, ByteArray.toList_eq, Lib.extract_data, Int.toNat_natCast, List.drop_zero, Nat.sub_zero]
    congr 1
    by_cases e : s.data.toList.take op.size = op.data.toList
    · rw [decide_eq_true e]; simpa using e
    · rw [decide_eq_false e]; simpa using e
  · rw [if_neg h]
    have : ¬ s.data.toList.take op.size = op.data.toList := by
      intro e
      have := congrArg List.length e
      rw [List.length_take] at this
      omega
    rw [decide_eq_false this]; rfl
theorem decode_cont (s : ByteArray) (pos : Nat) (h : pos < s.size) : 1 ≤ (Utf8.decode s pos).2 ∧ pos + (Utf8.decode s pos).2 ≤ s.size ∧ ∀ k, 1 ≤ k → k < (Utf8.decode s pos).2 → 128 ≤ (s.get! (pos + k)).toNat := by
  simp only [Utf8.decode]
  repeat' split
  all_goals simp_all
  all_goals (try omega)
  all_goals refine ⟨by omega, fun k h1 h2 => ?_⟩
  all_goals have hk : k = 1 ∨ k = 2 ∨ k = 3 := by omega
  all_goals rcases hk with hk | hk | hk
  all_goals subst hk
  all_goals omega
theorem opAt_high (s : ByteArray) (i : Nat) (h : i < s.size) (hb : 128 ≤ (s.get! i).toNat) : opAt s i = none := by
  have hl : i < s.data.toList.length := by simpa using h
  have e : s.data.toList[i]'hl = s.get! i := by rw [Array.getElem_toList]; exact (Go.get_at s i h).symm
  obtain ⟨b, hq⟩ : ∃ b, s.data.toList[i]'hl = b := ⟨_, rfl⟩
  rw [← e, hq] at hb
  have h1 : ¬ b = 33 := by rintro rfl; simp at hb
  have h2 : ¬ b = 61 := by rintro rfl; simp at hb
  unfold opAt
  rw [List.drop_eq_getElem_cons hl, hq]
  have n1 : ¬ (b :: s.data.toList.drop (i + 1)).take 2 = [33, 61] := by simp [h1]
  have n2 : ¬ (b :: s.data.toList.drop (i + 1)).take 2 = [61, 61] := by simp [h2]
  have n3 : ¬ (b :: s.data.toList.drop (i + 1)).take 1 = [61] := by simp [h2]
  rw [if_neg n1, if_neg n2, if_neg n3]
theorem wid {x : Int} (h0 : -9223372036854775808 ≤ x) (h1 : x ≤ 9223372036854775807) : wrap64 x = x := by unfold wrap64; omega
theorem ipos {w : World} {k : Nat} {s : ByteArray} {p : Nat} (h : w.heap[k]? = some (.stringIter s p)) : w.iterPos k = p := by simp [World.iterPos, h]
def meas : Value → Nat
  | .int _ q => 3 - q.toNat
  | _ => 0
theorem st_calls (s : ByteArray) (hs : s.size < 4611686018427387904) (w : World) :
    Calls Try.prog 42 #[.string s] w fun e w' => e = .returned (.tuple #[.string (cutFrom s s.size 0).1, .string (cutFrom s s.size 0).2.1, .string (cutFrom s s.size 0).2.2.1, .bool (cutFrom s s.size 0).2.2.2]) ∧ Below w.heap.size w w' := by
  go_enter Try.func42, Try.ntmps42
  go_wp2_with fail
  go_loopw [6] (fun _ w' => ∃ pos : Nat, pos ≤ s.size ∧ Aside0 (w'.heap[w.heap.size]? = some (.stringIter s pos)) ∧ Aside0 (Below w.heap.size w w') ∧ Aside0 (∀ x, 0 ≤ x → x < pos → opAt s x = none)) (fun _ w' => s.size - w'.iterPos w.heap.size)
  case atStart => exact ⟨0, by omega, ⟨by simpa using World.iter_heap w s 0⟩, ⟨below_alloc (Below.refl _ _) _⟩, ⟨fun x h1 h2 => by omega⟩⟩
  case round =>
    obtain ⟨pos, hle, hI, hB, hN⟩ := hrel
    by_cases hp : pos < s.size
    · have hnx := fun ty => Lib.run_next_any_at (P := Try.prog) wr w.heap.size s pos ty hI.out hp
      have q0 : (0 : Int) ≤ (pos : Int) := by omega
      have q1 : (pos : Int) ≤ (s.size : Int) := by omega
      go_wp2_with fail
      have hlt0 : w.heap.size < wr.heap.size := (Array.getElem?_eq_some_iff.1 hI.out).1
      have dc := decode_cont s pos hp
      generalize hW1 : wr.iterAt w.heap.size s (pos + (Utf8.decode s pos).2) = W1
      have I1 : W1.heap[w.heap.size]? = some (.stringIter s (pos + (Utf8.decode s pos).2)) := by rw [← hW1]; exact Lib.iterAt_heap _ _ _ _ _ hI.out
      have B1 : Below w.heap.size w W1 := by rw [← hW1]; exact Lib.below_iterAt hB.out (Nat.le_refl _) _ _
      have I2 := Aside0.mk (blk_alloc I1 (.cells #[.string ⟨#[33, 61]⟩, .string ⟨#[61, 61]⟩, .string ⟨#[61]⟩] 9))
      have B2 := Aside0.mk (below_alloc B1 (.cells #[.string ⟨#[33, 61]⟩, .string ⟨#[61, 61]⟩, .string ⟨#[61]⟩] 9))
      have R2 := Aside0.mk (heap_alloc_new W1 (.cells #[.string ⟨#[33, 61]⟩, .string ⟨#[61, 61]⟩, .string ⟨#[61]⟩] 9))
      generalize W1.alloc (.cells #[.string ⟨#[33, 61]⟩, .string ⟨#[61, 61]⟩, .string ⟨#[61]⟩] 9) = W2 at *
      have HB := hB
      clear hnx hW1 I1 B1 hB
      have er : (s.extract pos s.size).data.toList = s.data.toList.drop pos := Lib.extract_to_end s pos
      generalize hrest : s.extract pos s.size = rest at *
      go_loopw [20] (fun n wz => ∃ j : Nat, n = .int .i64 j ∧ j ≤ 3 ∧ Aside0 (wz.heap[w.heap.size]? = some (.stringIter s (pos + (Utf8.decode s pos).2))) ∧ Aside0 (wz.heap[W1.heap.size]? = some (.cells #[.string ⟨#[33, 61]⟩, .string ⟨#[61, 61]⟩, .string ⟨#[61]⟩] 9 (0, 0))) ∧ Aside0 (Below w.heap.size w wz) ∧ Aside0 ((0 < j → ¬ rest.data.toList.take 2 = [33, 61]) ∧ (1 < j → ¬ rest.data.toList.take 2 = [61, 61]) ∧ (2 < j → ¬ rest.data.toList.take 1 = [61]))) (fun n _ => meas n)
      case atStart => exact ⟨0, rfl, by omega, I2, R2, B2, ⟨fun h => by omega, fun h => by omega, fun h => by omega⟩⟩
      case round =>
        obtain ⟨j, rfl, hj, hi, hr, hb, hc⟩ := hrel
        rcases (show j = 0 ∨ j = 1 ∨ j = 2 ∨ j = 3 from by omega) with rfl | rfl | rfl | rfl
        · have g := (blk_cell hr.out 0).trans rfl
          replace g : wr.cell? ⟨W1.heap.size, 0, none⟩ = some (.string ⟨#[33, 61]⟩) := g
          go_wp2_with fail
          by_cases h : rest.data.toList.take 2 = [33, 61]
          · have hp_ : strings_HasPrefix.f rest (⟨#[33, 61]⟩ : ByteArray) = some true := (hp_eq rest _).trans (congrArg some (decide_eq_true h))
            have hlen : pos + 2 ≤ s.size := by
              have h1 := congrArg List.length h
              rw [er] at h1
              simp at h1
              omega
            have hwr : IntKind.i64.wrap ((pos : Int) + 2) = ((pos + 2 : Nat) : Int) := (i64_w _).trans ((wid (by omega) (by omega)).trans (by omega))
            have q2 : (0 : Int) ≤ ((pos + 2 : Nat) : Int) := by omega
            have q3 : ((pos + 2 : Nat) : Int) ≤ (s.size : Int) := by omega
            (with_reducible refine (strings_HasPrefix.calls _ _ _ _ hp_).mono ?_)
            rintro e w3 ⟨rfl, ⟨m, rfl⟩⟩
            go_wp2_with fail
            go_region
            go_wp2_with fail
            have hat : opAt s pos = some (⟨#[33, 61]⟩ : ByteArray) := by unfold opAt; rw [← er, if_pos h]
            have hcut := cutFrom_at s pos _ hp hat pos 0 (by omega) (fun x h1 h2 => hN.out x h1 h2)
            rw [Nat.sub_zero] at hcut
            rw [hcut]
            refine bodyPost_ret (results_list (rs := [.tmp 2, .tmp 3, .tmp 4, .tmp 5]) rfl (by simp) (.tmp (.tmp (.tmp (.tmp .nil))))) rfl ?_
            exact ⟨rfl, below_drew1 (pw_below_drewN hb.out m)⟩
          · have hp_ : strings_HasPrefix.f rest (⟨#[33, 61]⟩ : ByteArray) = some false := (hp_eq rest _).trans (congrArg some (decide_eq_false h))
            (with_reducible refine (strings_HasPrefix.calls _ _ _ _ hp_).mono ?_)
            rintro e w3 ⟨rfl, ⟨m, rfl⟩⟩
            go_wp2_with fail
            exact ⟨⟨1, rfl, by omega, ⟨blk_drewN hi.out m⟩, ⟨blk_drewN hr.out m⟩, ⟨pw_below_drewN hb.out m⟩, ⟨⟨fun _ => h, fun q => by omega, fun q => by omega⟩⟩⟩, by decide⟩
        · have g := (blk_cell hr.out 1).trans rfl
          replace g : wr.cell? ⟨W1.heap.size, 1, none⟩ = some (.string ⟨#[61, 61]⟩) := g
          go_wp2_with fail
          by_cases h : rest.data.toList.take 2 = [61, 61]
          · have hp_ : strings_HasPrefix.f rest (⟨#[61, 61]⟩ : ByteArray) = some true := (hp_eq rest _).trans (congrArg some (decide_eq_true h))
            have hlen : pos + 2 ≤ s.size := by
              have h1 := congrArg List.length h
              rw [er] at h1
              simp at h1
              omega
            have hwr : IntKind.i64.wrap ((pos : Int) + 2) = ((pos + 2 : Nat) : Int) := (i64_w _).trans ((wid (by omega) (by omega)).trans (by omega))
            have q2 : (0 : Int) ≤ ((pos + 2 : Nat) : Int) := by omega
            have q3 : ((pos + 2 : Nat) : Int) ≤ (s.size : Int) := by omega
            (with_reducible refine (strings_HasPrefix.calls _ _ _ _ hp_).mono ?_)
            rintro e w3 ⟨rfl, ⟨m, rfl⟩⟩
            go_wp2_with fail
            go_region
            go_wp2_with fail
            have hat : opAt s pos = some (⟨#[61, 61]⟩ : ByteArray) := by unfold opAt; rw [← er, if_neg (hc.out.1 (by omega)), if_pos h]
            have hcut := cutFrom_at s pos _ hp hat pos 0 (by omega) (fun x h1 h2 => hN.out x h1 h2)
            rw [Nat.sub_zero] at hcut
            rw [hcut]
            refine bodyPost_ret (results_list (rs := [.tmp 2, .tmp 3, .tmp 4, .tmp 5]) rfl (by simp) (.tmp (.tmp (.tmp (.tmp .nil))))) rfl ?_
            exact ⟨rfl, below_drew1 (pw_below_drewN hb.out m)⟩
          · have hp_ : strings_HasPrefix.f rest (⟨#[61, 61]⟩ : ByteArray) = some false := (hp_eq rest _).trans (congrArg some (decide_eq_false h))
            (with_reducible refine (strings_HasPrefix.calls _ _ _ _ hp_).mono ?_)
            rintro e w3 ⟨rfl, ⟨m, rfl⟩⟩
            go_wp2_with fail
            exact ⟨⟨2, rfl, by omega, ⟨blk_drewN hi.out m⟩, ⟨blk_drewN hr.out m⟩, ⟨pw_below_drewN hb.out m⟩, ⟨⟨fun _ => hc.out.1 (by omega), fun _ => h, fun q => by omega⟩⟩⟩, by decide⟩
        · have g := (blk_cell hr.out 2).trans rfl
          replace g : wr.cell? ⟨W1.heap.size, 2, none⟩ = some (.string ⟨#[61]⟩) := g
          go_wp2_with fail
          by_cases h : rest.data.toList.take 1 = [61]
          · have hp_ : strings_HasPrefix.f rest (⟨#[61]⟩ : ByteArray) = some true := (hp_eq rest _).trans (congrArg some (decide_eq_true h))
            have hlen : pos + 1 ≤ s.size := by
              have h1 := congrArg List.length h
              rw [er] at h1
              simp at h1
              omega
            have hwr : IntKind.i64.wrap ((pos : Int) + 1) = ((pos + 1 : Nat) : Int) := (i64_w _).trans ((wid (by omega) (by omega)).trans (by omega))
            have q2 : (0 : Int) ≤ ((pos + 1 : Nat) : Int) := by omega
            have q3 : ((pos + 1 : Nat) : Int) ≤ (s.size : Int) := by omega
            (with_reducible refine (strings_HasPrefix.calls _ _ _ _ hp_).mono ?_)
            rintro e w3 ⟨rfl, ⟨m, rfl⟩⟩
            go_wp2_with fail
            go_region
            go_wp2_with fail
            have hat : opAt s pos = some (⟨#[61]⟩ : ByteArray) := by unfold opAt; rw [← er, if_neg (hc.out.1 (by omega)), if_neg (hc.out.2.1 (by omega)), if_pos h]
            have hcut := cutFrom_at s pos _ hp hat pos 0 (by omega) (fun x h1 h2 => hN.out x h1 h2)
            rw [Nat.sub_zero] at hcut
            rw [hcut]
            refine bodyPost_ret (results_list (rs := [.tmp 2, .tmp 3, .tmp 4, .tmp 5]) rfl (by simp) (.tmp (.tmp (.tmp (.tmp .nil))))) rfl ?_
            exact ⟨rfl, below_drew1 (pw_below_drewN hb.out m)⟩
          · have hp_ : strings_HasPrefix.f rest (⟨#[61]⟩ : ByteArray) = some false := (hp_eq rest _).trans (congrArg some (decide_eq_false h))
            (with_reducible refine (strings_HasPrefix.calls _ _ _ _ hp_).mono ?_)
            rintro e w3 ⟨rfl, ⟨m, rfl⟩⟩
            go_wp2_with fail
            exact ⟨⟨3, rfl, by omega, ⟨blk_drewN hi.out m⟩, ⟨blk_drewN hr.out m⟩, ⟨pw_below_drewN hb.out m⟩, ⟨⟨fun _ => hc.out.1 (by omega), fun _ => hc.out.2.1 (by omega), fun _ => h⟩⟩⟩, by decide⟩
        · go_wp2_with fail
          refine ⟨⟨pos + (Utf8.decode s pos).2, dc.2.1, hi, hb, ⟨fun x h1 h2 => ?_⟩⟩, ?_⟩
          · by_cases hx : x < pos
            · exact hN.out x h1 hx
            · by_cases he : x = pos
              · subst he
                unfold opAt
                rw [← er, if_neg (hc.out.1 (by omega)), if_neg (hc.out.2.1 (by omega)), if_neg (hc.out.2.2 (by omega))]
              · have h3 := dc.2.2 (x - pos) (by omega) (by omega)
                rw [show pos + (x - pos) = x from by omega] at h3
                exact opAt_high s x (by omega) h3
          · rw [ipos hi.out, ipos hI.out]; omega
    · have hnx := fun ty => Lib.run_next_end_at (P := Try.prog) wr w.heap.size s pos ty hI.out hp
      have er : cutFrom s s.size 0 = (⟨#[]⟩, ⟨#[]⟩, ⟨#[]⟩, false) := cutFrom_none s s.size 0 (fun x h1 h2 => hN.out x h1 (by omega))
      go_wp2_with fail
      rw [er]
      refine bodyPost_ret (results_list (rs := [.tmp 2, .tmp 3, .tmp 4, .tmp 5]) rfl (by simp) (.tmp (.tmp (.tmp (.tmp .nil))))) rfl ?_
      exact ⟨rfl, hB.out⟩
theorem zst_calls (s : ByteArray) (hs : s.size < 4611686018427387904) (w : World) :
    Calls Try.prog 25 #[.string s] w fun e w' => e = .returned (.tuple #[.string (cutFrom s s.size 0).1, .string (cutFrom s s.size 0).2.1, .string (cutFrom s s.size 0).2.2.1, .bool (cutFrom s s.size 0).2.2.2]) ∧ Below w.heap.size w w' := by
  go_enter Try.func25, Try.ntmps25
  go_wp2_with fail
  (with_reducible refine (st_calls s hs _).mono ?_)
  rintro e w1 ⟨rfl, hb⟩
  go_wp2_with fail
  refine bodyPost_ret (results_list (rs := [.tmp 2, .tmp 3, .tmp 4, .tmp 5]) rfl (by simp) (.tmp (.tmp (.tmp (.tmp .nil))))) rfl ?_
  exact ⟨rfl, hb⟩
theorem impl_FieldPiece.walk_ (s : ByteArray) (hs : s.size < 4611686018427387904) (w : World) :
    Calls Try.prog 9 #[.string s] w fun e w' => e = .returned (.tuple #[.string (cutFrom s s.size 0).1, .string (cutFrom s s.size 0).2.1, .string (cutFrom s s.size 0).2.2.1, .bool (cutFrom s s.size 0).2.2.2]) ∧ Below w.heap.size w w' := by
  go_enter Try.func9, Try.ntmps9
  go_wp2_with fail
  (with_reducible refine (zst_calls s hs _).mono ?_)
  rintro e w1 ⟨rfl, hb⟩
  go_wp2_with fail
  refine bodyPost_ret (results_list (rs := [.tmp 2, .tmp 3, .tmp 4, .tmp 5]) rfl (by simp) (.tmp (.tmp (.tmp (.tmp .nil))))) rfl ?_
  exact ⟨rfl, hb⟩
def impl_FieldPiece.f (_ : Nat) (a0 : ByteArray) : Option (ByteArray × ByteArray × ByteArray × Bool) := if a0.size < 4611686018427387904 then some (cutFrom a0 a0.size 0) else none
theorem impl_FieldPiece.mono : ∀ a0 k, LeO (impl_FieldPiece.f k a0) (impl_FieldPiece.f (k + 1) a0) := by
  intro a0 k
  exact LeO.refl _
theorem impl_FieldPiece.calls (k : Nat) (a0 : ByteArray) (r1 r2 r3 : ByteArray) (r4 : Bool) (w : World) (h : impl_FieldPiece.f k a0 = some (r1, r2, r3, r4)) :
    Calls Try.prog 9 #[.string a0] w fun e w' => e = .returned (.tuple #[.string r1, .string r2, .string r3, .bool r4]) ∧ Below w.heap.size w w' := by
  unfold impl_FieldPiece.f at h
  by_cases hs : a0.size < 4611686018427387904
  · rw [if_pos hs] at h
    have h2 := Option.some.inj h
    have h3 := impl_FieldPiece.walk_ a0 hs w
    rw [h2] at h3
    exact h3
  · rw [if_neg hs] at h; cases h

/-! ### spec_FieldCut: function 10 -/
mutual
def spec_FieldCut.l0 : Nat → ByteArray → Int → Option (ByteArray × ByteArray × ByteArray × Bool)
  | 0, _, _ => none
  | k + 1, x0, x6 => if x6 < (x0.size : Int) then (if (wrap64 (x6 + 1)) < (x0.size : Int) then (if 0 ≤ x6 then (if x6 ≤ (wrap64 (x6 + 2)) then (if (wrap64 (x6 + 2)) ≤ (x0.size : Int) then (if (x0.extract (x6 : Int).toNat ((wrap64 (x6 + 2)) : Int).toNat).toList = ([33, 61] : List UInt8) then (spec_FieldCut.j1 k x0 x6 true) else (spec_FieldCut.j1 k x0 x6 ((x0.extract (x6 : Int).toNat ((wrap64 (x6 + 2)) : Int).toNat).toList == ([61, 61] : List UInt8)))) else (none)) else (none)) else (none)) else (spec_FieldCut.j1 k x0 x6 false)) else (some ((⟨#[]⟩ : ByteArray), (⟨#[]⟩ : ByteArray), (⟨#[]⟩ : ByteArray), false))
def spec_FieldCut.j1 : Nat → ByteArray → Int → Bool → Option (ByteArray × ByteArray × ByteArray × Bool)
  | 0, _, _, _ => none
  | k + 1, x0, x6, x33 => if x33 = true then (if 0 ≤ x6 then (if x6 ≤ (x0.size : Int) then (if x6 ≤ (wrap64 (x6 + 2)) then (if (wrap64 (x6 + 2)) ≤ (x0.size : Int) then (if 0 ≤ (wrap64 (x6 + 2)) then (some (x0.extract 0 (x6 : Int).toNat, x0.extract (x6 : Int).toNat ((wrap64 (x6 + 2)) : Int).toNat, x0.extract ((wrap64 (x6 + 2)) : Int).toNat x0.size, true)) else (none)) else (none)) else (none)) else (none)) else (none)) else (if 0 ≤ x6 then (if x6 < (x0.size : Int) then (if (bt x0 x6) = 61 then (if x6 ≤ (x0.size : Int) then (if 0 ≤ (wrap64 (x6 + 1)) then (if (wrap64 (x6 + 1)) ≤ (x0.size : Int) then (some (x0.extract 0 (x6 : Int).toNat, (⟨#[61]⟩ : ByteArray), x0.extract ((wrap64 (x6 + 1)) : Int).toNat x0.size, true)) else (none)) else (none)) else (none)) else (spec_FieldCut.l0 k x0 (wrap64 (x6 + 1)))) else (none)) else (none))
end
def spec_FieldCut.f (k : Nat) (a0 : ByteArray) : Option (ByteArray × ByteArray × ByteArray × Bool) := spec_FieldCut.l0 k a0 0
theorem spec_FieldCut.mono_l : ∀ k, (∀ y0 y1, LeO (spec_FieldCut.l0 k y0 y1) (spec_FieldCut.l0 (k + 1) y0 y1)) ∧ (∀ y0 y1 y2, LeO (spec_FieldCut.j1 k y0 y1 y2) (spec_FieldCut.j1 (k + 1) y0 y1 y2))
  | 0 => ⟨fun _ _ r h => by simp [spec_FieldCut.l0] at h, fun _ _ _ r h => by simp [spec_FieldCut.j1] at h⟩
  | k + 1 => by
    obtain ⟨ih0, ih1⟩ := spec_FieldCut.mono_l k
    refine ⟨?_, ?_⟩
    · intro y0 y1
      unfold spec_FieldCut.l0
      repeat' first
      | (with_reducible exact ih0 _ _)
      | (with_reducible exact ih1 _ _ _)
      | (with_reducible exact LeO.refl _)
      | (with_reducible exact LeO.none _)
      | (with_reducible refine LeO.ite ?_ ?_)
      | (with_reducible refine LeO.bind ?_ (fun _ => ?_))
      | exact ih0 _ _
      | exact ih1 _ _ _
      | exact LeO.none _
      | refine LeO.ite ?_ ?_
      | refine LeO.bind ?_ (fun _ => ?_)
    · intro y0 y1 y2
      unfold spec_FieldCut.j1
      repeat' first
      | (with_reducible exact ih0 _ _)
      | (with_reducible exact ih1 _ _ _)
      | (with_reducible exact LeO.refl _)
      | (with_reducible exact LeO.none _)
      | (with_reducible refine LeO.ite ?_ ?_)
      | (with_reducible refine LeO.bind ?_ (fun _ => ?_))
      | exact ih0 _ _
      | exact ih1 _ _ _
      | exact LeO.none _
      | refine LeO.ite ?_ ?_
      | refine LeO.bind ?_ (fun _ => ?_)
theorem spec_FieldCut.mono : ∀ a0 k, LeO (spec_FieldCut.f k a0) (spec_FieldCut.f (k + 1) a0) := by
  intro a0 k
  obtain ⟨ih0, ih1⟩ := spec_FieldCut.mono_l k
  unfold spec_FieldCut.f
  repeat' first
      | (with_reducible exact ih0 _ _)
      | (with_reducible exact ih1 _ _ _)
      | (with_reducible exact LeO.refl _)
      | (with_reducible exact LeO.none _)
      | (with_reducible refine LeO.ite ?_ ?_)
      | (with_reducible refine LeO.bind ?_ (fun _ => ?_))
      | exact ih0 _ _
      | exact ih1 _ _ _
      | exact LeO.none _
      | refine LeO.ite ?_ ?_
      | refine LeO.bind ?_ (fun _ => ?_)
set_option maxHeartbeats 8000000 in
set_option maxRecDepth 100000 in
theorem spec_FieldCut.calls (k : Nat) (a0 : ByteArray) (r1 : ByteArray) (r2 : ByteArray) (r3 : ByteArray) (r4 : Bool) (w : World) (h : spec_FieldCut.f k a0 = some (r1, r2, r3, r4)) :
    Calls Try.prog 10 #[.string a0] w fun e w' => e = .returned (.tuple #[.string r1, .string r2, .string r3, .bool r4]) ∧ Drawn0 w w' := by
  have H : (spec_FieldCut.l0 k a0 0) = some (r1, r2, r3, r4) := h
  clear h
  have H' := Aside0.mk H
  clear H
  go_enter Try.func10, Try.ntmps10
  go_wp2
  repeat (go_quiet (fail); try go_wp2)
  go_loopg [6] k (fun kq v6 w' => ∃ (x6_1 : Int), v6 = .int .i64 x6_1 ∧ Aside0 (spec_FieldCut.l0 kq a0 x6_1 = some (r1, r2, r3, r4)) ∧ Aside0 (kq ≤ k) ∧ Drawn0 w w')
  case atStart => exact ⟨(0), (by first | rfl | (simp; done) | (simp [*]; done)), H', ⟨Nat.le_refl _⟩, by repeat (first | exact Drawn0.refl _ | apply Drawn0.step)⟩
  case round =>
    clear H'
    try clear c1
    obtain ⟨x6_1, rfl, HA, HK1, ⟨m1, rfl⟩⟩ := hrel
    cases gk with
    | zero => exact absurd HA.out (by simp [spec_FieldCut.l0])
    | succ k1 =>
      have H := HA.out
      clear HA
      simp only [spec_FieldCut.l0] at H
      by_cases c2 : x6_1 < (a0.size : Int)
      · rw [if_pos c2] at H
        have c2b0 : decide (x6_1 < (a0.size : Int)) = true := decide_eq_true c2
        clear c2
        have HC3 := Aside0.mk H
        clear H
        go_upto_region 4 with (fail)
        repeat (go_quiet (fail); go_upto_region 4 with (fail))
        go_cut [33] (fun v33 wc => ∃ (kq : Nat) (x33_2 : Bool), v33 = .bool x33_2 ∧ Aside0 (spec_FieldCut.j1 kq a0 x6_1 x33_2 = some (r1, r2, r3, r4)) ∧ Aside0 (kq ≤ k1) ∧ Drawn0 w wc)
        case first =>
          have H := HC3.out
          clear HC3
          by_cases c4 : (wrap64 (x6_1 + 1)) < (a0.size : Int)
          · rw [if_pos c4] at H
            have c4b0 : decide ((wrap64 (x6_1 + 1)) < (a0.size : Int)) = true := decide_eq_true c4
            clear c4
            (first | rw [c4b0] | (simp only [i64_w, i32_w]; rw [c4b0]) | skip)
            by_cases c5 : 0 ≤ x6_1
            · rw [if_pos c5] at H
              have c5b0 := eq_true c5
              have c5b1 : decide (0 ≤ x6_1) = true := decide_eq_true c5
              clear c5
              by_cases c6 : x6_1 ≤ (wrap64 (x6_1 + 2))
              · rw [if_pos c6] at H
                have c6b0 := eq_true c6
                have c6b1 : decide (x6_1 ≤ (wrap64 (x6_1 + 2))) = true := decide_eq_true c6
                by_cases c7 : (wrap64 (x6_1 + 2)) ≤ (a0.size : Int)
                · rw [if_pos c7] at H
                  have c7b0 := eq_true c7
                  have c7b1 : decide ((wrap64 (x6_1 + 2)) ≤ (a0.size : Int)) = true := decide_eq_true c7
                  by_cases c8 : (a0.extract (x6_1 : Int).toNat ((wrap64 (x6_1 + 2)) : Int).toNat).toList = ([33, 61] : List UInt8)
                  · rw [if_pos c8] at H
                    have c8b0 : ((a0.extract (x6_1 : Int).toNat ((wrap64 (x6_1 + 2)) : Int).toNat).toList == ([33, 61] : List UInt8)) = true := beq_iff_eq.mpr c8
                    have c8b1 : ((a0.extract (x6_1 : Int).toNat ((wrap64 (x6_1 + 2)) : Int).toNat).toList != ([33, 61] : List UInt8)) = false := bne_eq_false_iff_eq.mpr c8
                    clear c8
                    have H' := Aside0.mk H
                    clear H
                    go_wp2
                    repeat (go_quiet (fail); try go_wp2)
                    go_meet
                    case rel => exact ⟨_, (true), (by first | rfl | (simp; done) | (simp [*]; done)), H', ⟨by have := HK1.out; first | omega | exact Nat.le_refl _⟩, by repeat (first | exact Drawn0.refl _ | apply Drawn0.step)⟩
                  · rw [if_neg c8] at H
                    have c8b0 : ((a0.extract (x6_1 : Int).toNat ((wrap64 (x6_1 + 2)) : Int).toNat).toList == ([33, 61] : List UInt8)) = false := beq_eq_false_iff_ne.mpr c8
                    have c8b1 : ((a0.extract (x6_1 : Int).toNat ((wrap64 (x6_1 + 2)) : Int).toNat).toList != ([33, 61] : List UInt8)) = true := bne_iff_ne.mpr c8
                    have c9b0 := eq_true (of_decide_eq_true (by first | (with_reducible assumption) | assumption) : 0 ≤ x6_1)
                    have c10b0 := eq_true (of_decide_eq_true (by first | (with_reducible assumption) | assumption) : x6_1 ≤ (wrap64 (x6_1 + 2)))
                    have c11b0 := eq_true (of_decide_eq_true (by first | (with_reducible assumption) | assumption) : (wrap64 (x6_1 + 2)) ≤ (a0.size : Int))
                    have H' := Aside0.mk H
                    clear H
                    go_wp2
                    repeat (go_quiet (fail); try go_wp2)
                    go_meet
                    case rel => exact ⟨_, (((a0.extract (x6_1 : Int).toNat ((wrap64 (x6_1 + 2)) : Int).toNat).toList == ([61, 61] : List UInt8))), (by first | rfl | (simp; done) | (simp [*]; done)), H', ⟨by have := HK1.out; first | omega | exact Nat.le_refl _⟩, by repeat (first | exact Drawn0.refl _ | apply Drawn0.step)⟩
                · rw [if_neg c7] at H
                  exact absurd H (by simp)
              · rw [if_neg c6] at H
                exact absurd H (by simp)
            · rw [if_neg c5] at H
              exact absurd H (by simp)
          · rw [if_neg c4] at H
            have c4b0 : decide ((wrap64 (x6_1 + 1)) < (a0.size : Int)) = false := decide_eq_false c4
            clear c4
            (first | rw [c4b0] | (simp only [i64_w, i32_w]; rw [c4b0]) | skip)
            have H' := Aside0.mk H
            clear H
            go_wp2
            repeat (go_quiet (fail); try go_wp2)
            go_meet
            case rel => exact ⟨_, (false), (by first | rfl | (simp; done) | (simp [*]; done)), H', ⟨by have := HK1.out; first | omega | exact Nat.le_refl _⟩, by repeat (first | exact Drawn0.refl _ | apply Drawn0.step)⟩
        case rest =>
          clear HC3
          try clear c1
          try clear c2
          try clear c2b0
          try clear p2
          try clear c4
          try clear c4b0
          try clear c5
          try clear c5b0
          try clear c5b1
          try clear c6
          try clear c6b0
          try clear c6b1
          try clear p6
          try clear c7
          try clear c7b0
          try clear c7b1
          try clear c8
          try clear c8b0
          try clear c8b1
          try clear c9
          try clear c9b0
          try clear c10
          try clear c10b0
          try clear c11
          try clear c11b0
          obtain ⟨kq, x33_2, rfl, HA, HJ2, ⟨mc2, rfl⟩⟩ := hcut
          cases kq with
          | zero => exact absurd HA.out (by simp [spec_FieldCut.j1])
          | succ kj2 =>
            have H := HA.out
            clear HA
            simp only [spec_FieldCut.j1] at H
            by_cases c12 : x33_2 = true
            · subst c12
              have H1 : (if 0 ≤ x6_1 then (if x6_1 ≤ (a0.size : Int) then (if x6_1 ≤ (wrap64 (x6_1 + 2)) then (if (wrap64 (x6_1 + 2)) ≤ (a0.size : Int) then (if 0 ≤ (wrap64 (x6_1 + 2)) then (some (a0.extract 0 (x6_1 : Int).toNat, a0.extract (x6_1 : Int).toNat ((wrap64 (x6_1 + 2)) : Int).toNat, a0.extract ((wrap64 (x6_1 + 2)) : Int).toNat a0.size, true)) else (none)) else (none)) else (none)) else (none)) else (none)) = some (r1, r2, r3, r4) := by rw [if_pos rfl] at H; exact H
              clear H
              have H := H1
              clear H1
              by_cases c13 : 0 ≤ x6_1
              · rw [if_pos c13] at H
                have c13b0 := eq_true c13
                have c13b1 : decide (0 ≤ x6_1) = true := decide_eq_true c13
                clear c13
                by_cases c14 : x6_1 ≤ (a0.size : Int)
                · rw [if_pos c14] at H
                  have c14b0 := eq_true c14
                  have c14b1 : decide (x6_1 ≤ (a0.size : Int)) = true := decide_eq_true c14
                  clear c14
                  have c15b0 := eq_true (of_decide_eq_true (by first | (with_reducible assumption) | assumption) : 0 ≤ x6_1)
                  by_cases c16 : x6_1 ≤ (wrap64 (x6_1 + 2))
                  · rw [if_pos c16] at H
                    have c16b0 := eq_true c16
                    have c16b1 : decide (x6_1 ≤ (wrap64 (x6_1 + 2))) = true := decide_eq_true c16
                    by_cases c17 : (wrap64 (x6_1 + 2)) ≤ (a0.size : Int)
                    · rw [if_pos c17] at H
                      have c17b0 := eq_true c17
                      have c17b1 : decide ((wrap64 (x6_1 + 2)) ≤ (a0.size : Int)) = true := decide_eq_true c17
                      obtain ⟨ji18, hji18⟩ : ∃ j_ : Int, (wrap64 (x6_1 + 2)) = j_ := ⟨_, rfl⟩
                      replace H : (if 0 ≤ (ji18) then (some (a0.extract 0 (x6_1 : Int).toNat, a0.extract (x6_1 : Int).toNat ((ji18) : Int).toNat, a0.extract ((ji18) : Int).toNat a0.size, true)) else (none)) = some (r1, r2, r3, r4) := by first | (rw [hji18] at H; exact H) | (simp only [hji18] at H ⊢; exact H)
                      (try rw [hji18] at c16b0)
                      (try rw [hji18] at c16b1)
                      (try rw [hji18] at c16)
                      (try rw [hji18] at c17b0)
                      (try rw [hji18] at c17b1)
                      (try rw [hji18] at c17)
                      have hji18w : (IntKind.i64.wrap (x6_1 + 2)) = ji18 := (i64_w _).trans hji18
                      by_cases c19 : 0 ≤ (ji18)
                      · rw [if_pos c19] at H
                        have c19b0 := eq_true c19
                        have c19b1 : decide (0 ≤ (ji18)) = true := decide_eq_true c19
                        clear c19
                        have c20b0 := eq_true (of_decide_eq_true (by first | (with_reducible assumption) | assumption) : (ji18) ≤ (a0.size : Int))
                        simp only [Option.some.injEq, Prod.mk.injEq] at H
                        obtain ⟨rfl, rfl, rfl, rfl⟩ := H
                        go_wp2
                        repeat (go_quiet (fail); try go_wp2)
                        refine bodyPost_ret (results_list (rs := [.tmp 2, .tmp 3, .tmp 4, .tmp 5]) rfl (by simp) (.tmp (.tmp (.tmp (.tmp .nil))))) rfl ?_
                        exact ⟨by first | rfl | (simp; done) | (simp only [← hji18] <;> (first | rfl | simp)) | (simp [*]; done), by repeat (first | exact Drawn0.refl _ | apply Drawn0.step)⟩
                      · rw [if_neg c19] at H
                        exact absurd H (by simp)
                    · rw [if_neg c17] at H
                      exact absurd H (by simp)
                  · rw [if_neg c16] at H
                    exact absurd H (by simp)
                · rw [if_neg c14] at H
                  exact absurd H (by simp)
              · rw [if_neg c13] at H
                exact absurd H (by simp)
            · replace c12 := Bool.eq_false_iff.mpr c12
              subst c12
              have H1 : (if 0 ≤ x6_1 then (if x6_1 < (a0.size : Int) then (if (bt a0 x6_1) = 61 then (if x6_1 ≤ (a0.size : Int) then (if 0 ≤ (wrap64 (x6_1 + 1)) then (if (wrap64 (x6_1 + 1)) ≤ (a0.size : Int) then (some (a0.extract 0 (x6_1 : Int).toNat, (⟨#[61]⟩ : ByteArray), a0.extract ((wrap64 (x6_1 + 1)) : Int).toNat a0.size, true)) else (none)) else (none)) else (none)) else (spec_FieldCut.l0 kj2 a0 (wrap64 (x6_1 + 1)))) else (none)) else (none)) = some (r1, r2, r3, r4) := by rw [if_neg (show ¬ (false = true) by decide)] at H; exact H
              clear H
              have H := H1
              clear H1
              by_cases c21 : 0 ≤ x6_1
              · rw [if_pos c21] at H
                have c21b0 : decide (0 ≤ x6_1) = true := decide_eq_true c21
                clear c21
                by_cases c22 : x6_1 < (a0.size : Int)
                · rw [if_pos c22] at H
                  have c22b0 : decide (x6_1 < (a0.size : Int)) = true := decide_eq_true c22
                  clear c22
                  by_cases c24 : (bt a0 x6_1) = 61
                  · rw [if_pos c24] at H
                    have c24b0 : ((bt a0 x6_1) == 61) = true := beq_iff_eq.mpr c24
                    have c24b1 : ((bt a0 x6_1) != 61) = false := bne_eq_false_iff_eq.mpr c24
                    clear c24
                    have c25b0 := eq_true (of_decide_eq_true (by first | (with_reducible assumption) | assumption) : 0 ≤ x6_1)
                    by_cases c26 : x6_1 ≤ (a0.size : Int)
                    · rw [if_pos c26] at H
                      have c26b0 := eq_true c26
                      have c26b1 : decide (x6_1 ≤ (a0.size : Int)) = true := decide_eq_true c26
                      clear c26
                      obtain ⟨ji27, hji27⟩ : ∃ j_ : Int, (wrap64 (x6_1 + 1)) = j_ := ⟨_, rfl⟩
                      replace H : (if 0 ≤ (ji27) then (if (ji27) ≤ (a0.size : Int) then (some (a0.extract 0 (x6_1 : Int).toNat, (⟨#[61]⟩ : ByteArray), a0.extract ((ji27) : Int).toNat a0.size, true)) else (none)) else (none)) = some (r1, r2, r3, r4) := by first | (rw [hji27] at H; exact H) | (simp only [hji27] at H ⊢; exact H)
                      have hji27w : (IntKind.i64.wrap (x6_1 + 1)) = ji27 := (i64_w _).trans hji27
                      by_cases c28 : 0 ≤ (ji27)
                      · rw [if_pos c28] at H
                        have c28b0 := eq_true c28
                        have c28b1 : decide (0 ≤ (ji27)) = true := decide_eq_true c28
                        clear c28
                        by_cases c29 : (ji27) ≤ (a0.size : Int)
                        · rw [if_pos c29] at H
                          have c29b0 := eq_true c29
                          have c29b1 : decide ((ji27) ≤ (a0.size : Int)) = true := decide_eq_true c29
                          clear c29
                          simp only [Option.some.injEq, Prod.mk.injEq] at H
                          obtain ⟨rfl, rfl, rfl, rfl⟩ := H
                          have p23 : 0 ≤ (x6_1 : Int) := of_decide_eq_true (by first | (with_reducible assumption) | assumption)
                          have q23 : x6_1 < (a0.size : Int) := of_decide_eq_true (by first | (with_reducible assumption) | assumption)
                          have hx23 := bt_at a0 x6_1
                          replace p23 := eq_true p23
                          replace q23 := eq_true q23
                          go_wp2
                          repeat (go_quiet (fail); try go_wp2)
                          refine bodyPost_ret (results_list (rs := [.tmp 2, .tmp 3, .tmp 4, .tmp 5]) rfl (by simp) (.tmp (.tmp (.tmp (.tmp .nil))))) rfl ?_
                          exact ⟨by first | rfl | (simp; done) | (simp only [← hji27] <;> (first | rfl | simp)) | (simp [*]; done), by repeat (first | exact Drawn0.refl _ | apply Drawn0.step)⟩
                        · rw [if_neg c29] at H
                          exact absurd H (by simp)
                      · rw [if_neg c28] at H
                        exact absurd H (by simp)
                    · rw [if_neg c26] at H
                      exact absurd H (by simp)
                  · rw [if_neg c24] at H
                    have c24b0 : ((bt a0 x6_1) == 61) = false := beq_eq_false_iff_ne.mpr c24
                    have c24b1 : ((bt a0 x6_1) != 61) = true := bne_iff_ne.mpr c24
                    have H' := Aside0.mk H
                    clear H
                    have p23 : 0 ≤ (x6_1 : Int) := of_decide_eq_true (by first | (with_reducible assumption) | assumption)
                    have q23 : x6_1 < (a0.size : Int) := of_decide_eq_true (by first | (with_reducible assumption) | assumption)
                    have hx23 := bt_at a0 x6_1
                    replace p23 := eq_true p23
                    replace q23 := eq_true q23
                    go_wp2
                    repeat (go_quiet (fail); try go_wp2)
                    go_roundg kj2
                    case measure => have := HK1.out; have := HJ2.out; omega
                    case rel => exact ⟨(wrap64 (x6_1 + 1)), (by first | rfl | (simp; done) | (simp [*]; done)), H', ⟨by have := HK1.out; have := HJ2.out; omega⟩, by repeat (first | exact Drawn0.refl _ | apply Drawn0.step)⟩
                · rw [if_neg c22] at H
                  exact absurd H (by simp)
              · rw [if_neg c21] at H
                exact absurd H (by simp)
      · rw [if_neg c2] at H
        have c2b0 : decide (x6_1 < (a0.size : Int)) = false := decide_eq_false c2
        clear c2
        simp only [Option.some.injEq, Prod.mk.injEq] at H
        obtain ⟨rfl, rfl, rfl, rfl⟩ := H
        go_wp2
        repeat (go_quiet (fail); try go_wp2)
        refine bodyPost_ret (results_list (rs := [.tmp 2, .tmp 3, .tmp 4, .tmp 5]) rfl (by simp) (.tmp (.tmp (.tmp (.tmp .nil))))) rfl ?_
        exact ⟨by first | rfl | (simp; done) | (simp [*]; done), by repeat (first | exact Drawn0.refl _ | apply Drawn0.step)⟩

/-! ### laws_FnFieldPiece: function 3 -/
def laws_FnFieldPiece.f (k : Nat) (a0 : ByteArray) : Option (Bool) := if (a0.size : Int) > 2147483647 then (some true) else ((impl_FieldPiece.f k a0).bind fun bt102 => ((spec_FieldCut.f k a0).bind fun bt106 => ((impl_FieldPiece.f k (⟨#[97, 61, 98]⟩ : ByteArray)).bind fun bt110 => (if (bt102.2.2.2 == bt106.2.2.2) = true then (if bt102.2.2.2 = true then (if bt102.1.toList = bt106.1.toList then (if bt102.2.1.toList = bt106.2.1.toList then (if bt102.2.2.1.toList = bt106.2.2.1.toList then (some bt110.2.2.2) else (some false)) else (some false)) else (some false)) else (some bt110.2.2.2)) else (some false)))))
theorem laws_FnFieldPiece.mono : ∀ a0 k, LeO (laws_FnFieldPiece.f k a0) (laws_FnFieldPiece.f (k + 1) a0) := by
  intro a0 k
  unfold laws_FnFieldPiece.f
  repeat' first
      | (with_reducible exact impl_FieldPiece.mono _ _)
      | (with_reducible exact spec_FieldCut.mono _ _)
      | (with_reducible exact LeO.refl _)
      | (with_reducible exact LeO.none _)
      | (with_reducible refine LeO.ite ?_ ?_)
      | (with_reducible refine LeO.bind ?_ (fun _ => ?_))
      | exact impl_FieldPiece.mono _ _
      | exact spec_FieldCut.mono _ _
      | exact LeO.none _
      | refine LeO.ite ?_ ?_
      | refine LeO.bind ?_ (fun _ => ?_)
set_option maxHeartbeats 8000000 in
set_option maxRecDepth 100000 in
theorem laws_FnFieldPiece.calls (k : Nat) (a0 : ByteArray) (r : Bool) (w : World) (h : laws_FnFieldPiece.f k a0 = some r) :
    Calls Try.prog 3 #[.string a0] w fun e w' => e = .returned (.bool r) ∧ Below w.heap.size w w' := by
  have HB := Aside0.mk (Below.refl w.heap.size w)
  have H : (if (a0.size : Int) > 2147483647 then (some true) else ((impl_FieldPiece.f k a0).bind fun bt102 => ((spec_FieldCut.f k a0).bind fun bt106 => ((impl_FieldPiece.f k (⟨#[97, 61, 98]⟩ : ByteArray)).bind fun bt110 => (if (bt102.2.2.2 == bt106.2.2.2) = true then (if bt102.2.2.2 = true then (if bt102.1.toList = bt106.1.toList then (if bt102.2.1.toList = bt106.2.1.toList then (if bt102.2.2.1.toList = bt106.2.2.1.toList then (some bt110.2.2.2) else (some false)) else (some false)) else (some false)) else (some bt110.2.2.2)) else (some false)))))) = some r := h
  clear h
  by_cases c2 : (a0.size : Int) > 2147483647
  · rw [if_pos c2] at H
    have c2b0 : decide (2147483647 < (a0.size : Int)) = true := decide_eq_true c2
    have c2b1 : decide (2147483647 < a0.size) = true := decide_eq_true (by omega)
    clear c2
    obtain rfl := Option.some.inj H
    go_enter Try.func3, Try.ntmps3
    go_wp2
    go_ret
    exact ⟨by first | rfl | (simp [errW_none, errW_some] <;> rfl) | (simp [*, errW_none, errW_some] <;> rfl), by repeat (first | (with_reducible first | exact HB.out | apply below_alloc | apply pw_below_drewN | apply below_drew1) | exact HB.out)⟩
  · rw [if_neg c2] at H
    have c2b0 : decide (2147483647 < (a0.size : Int)) = false := decide_eq_false c2
    have c2b1 : decide (2147483647 < a0.size) = false := decide_eq_false (by omega)
    clear c2
    replace H := Option.bind_eq_some_iff.mp H
    obtain ⟨⟨t102, t103, t104, t105⟩, A30, H⟩ := H
    replace H : ((spec_FieldCut.f k a0).bind fun bt106 => ((impl_FieldPiece.f k (⟨#[97, 61, 98]⟩ : ByteArray)).bind fun bt110 => (if (t105 == bt106.2.2.2) = true then (if t105 = true then (if t102.toList = bt106.1.toList then (if t103.toList = bt106.2.1.toList then (if t104.toList = bt106.2.2.1.toList then (some bt110.2.2.2) else (some false)) else (some false)) else (some false)) else (some bt110.2.2.2)) else (some false)))) = some r := H
    have A3 := Aside0.mk A30
    clear A30
    replace H := Option.bind_eq_some_iff.mp H
    obtain ⟨⟨t106, t107, t108, t109⟩, A40, H⟩ := H
    replace H : ((impl_FieldPiece.f k (⟨#[97, 61, 98]⟩ : ByteArray)).bind fun bt110 => (if (t105 == t109) = true then (if t105 = true then (if t102.toList = t106.toList then (if t103.toList = t107.toList then (if t104.toList = t108.toList then (some bt110.2.2.2) else (some false)) else (some false)) else (some false)) else (some bt110.2.2.2)) else (some false))) = some r := H
    have A4 := Aside0.mk A40
    clear A40
    replace H := Option.bind_eq_some_iff.mp H
    obtain ⟨⟨t110, t111, t112, t113⟩, A50, H⟩ := H
    replace H : (if (t105 == t109) = true then (if t105 = true then (if t102.toList = t106.toList then (if t103.toList = t107.toList then (if t104.toList = t108.toList then (some t113) else (some false)) else (some false)) else (some false)) else (some t113)) else (some false)) = some r := H
    have A5 := Aside0.mk A50
    clear A50
    by_cases c6 : (t105 == t109) = true
    · rw [if_pos c6] at H
      have c6b0 : (t105 == t109) = true := c6
      (try (have c6b1 : decide (t105 = t109) = true := by simpa using c6))
      (try (have c6b2 : (t105 == t109) = true := by simpa using c6))
      clear c6
      by_cases c7 : t105 = true
      · subst c7
        have H1 : (if t102.toList = t106.toList then (if t103.toList = t107.toList then (if t104.toList = t108.toList then (some t113) else (some false)) else (some false)) else (some false)) = some r := by rw [if_pos rfl] at H; exact H
        clear H
        have H := H1
        clear H1
        by_cases c8 : t102.toList = t106.toList
        · rw [if_pos c8] at H
          have c8b0 : (t102.toList == t106.toList) = true := beq_iff_eq.mpr c8
          have c8b1 : (t102.toList != t106.toList) = false := bne_eq_false_iff_eq.mpr c8
          clear c8
          by_cases c9 : t103.toList = t107.toList
          · rw [if_pos c9] at H
            have c9b0 : (t103.toList == t107.toList) = true := beq_iff_eq.mpr c9
            have c9b1 : (t103.toList != t107.toList) = false := bne_eq_false_iff_eq.mpr c9
            clear c9
            by_cases c10 : t104.toList = t108.toList
            · rw [if_pos c10] at H
              have c10b0 : (t104.toList == t108.toList) = true := beq_iff_eq.mpr c10
              have c10b1 : (t104.toList != t108.toList) = false := bne_eq_false_iff_eq.mpr c10
              clear c10
              obtain rfl := Option.some.inj H
              go_enter Try.func3, Try.ntmps3
              go_wp2_with (first | ((with_reducible refine gate_callee (f := 9) rfl ?_); refine goesL_ (some 20) rfl rfl Try.func9 (by kernel_rfl) rfl #[.string a0] rfl (by (try simp only [List.map_toArray, List.map_cons, List.map_nil]); first | done | rfl | (simp only [List.length_drop, List.length_take]; rfl)) ?_; (with_reducible refine (impl_FieldPiece.calls k a0 t102 t103 t104 true _ A3.out).mono ?_); rintro e w11 ⟨rfl, hb⟩; refine ⟨_, rfl, ?_⟩; have n0_ := Aside0.mk (below_step (by repeat (first | (with_reducible first | exact HB.out | apply below_alloc | apply pw_below_drewN | apply below_drew1) | exact HB.out)) hb); clear HB; have HB := n0_; clear n0_; (try clear hb); (try clear hb2); (try clear hk); (try clear hi)) | ((with_reducible refine gate_callee (f := 10) rfl ?_); refine goesL_ (some 27) rfl rfl Try.func10 (by kernel_rfl) rfl #[.string a0] rfl (by (try simp only [List.map_toArray, List.map_cons, List.map_nil]); first | done | rfl | (simp only [List.length_drop, List.length_take]; rfl)) ?_; (with_reducible refine (spec_FieldCut.calls k a0 t106 t107 t108 t109 _ A4.out).mono ?_); rintro e w' ⟨rfl, ⟨nd, rfl⟩⟩; refine ⟨_, rfl, ?_⟩) | ((with_reducible refine gate_callee (f := 9) rfl ?_); refine goesL_ (some 33) rfl rfl Try.func9 (by kernel_rfl) rfl #[.string (⟨#[97, 61, 98]⟩ : ByteArray)] rfl (by (try simp only [List.map_toArray, List.map_cons, List.map_nil]); first | done | rfl | (simp only [List.length_drop, List.length_take]; rfl)) ?_; (with_reducible refine (impl_FieldPiece.calls k (⟨#[97, 61, 98]⟩ : ByteArray) t110 t111 t112 t113 _ A5.out).mono ?_); rintro e w12 ⟨rfl, hb⟩; refine ⟨_, rfl, ?_⟩; have n0_ := Aside0.mk (below_step (by repeat (first | (with_reducible first | exact HB.out | apply below_alloc | apply pw_below_drewN | apply below_drew1) | exact HB.out)) hb); clear HB; have HB := n0_; clear n0_; (try clear hb); (try clear hb2); (try clear hk); (try clear hi)))
              go_ret
              exact ⟨by first | rfl | (simp [errW_none, errW_some] <;> rfl) | (simp [*, errW_none, errW_some] <;> rfl), by repeat (first | (with_reducible first | exact HB.out | apply below_alloc | apply pw_below_drewN | apply below_drew1) | exact HB.out)⟩
            · rw [if_neg c10] at H
              have c10b0 : (t104.toList == t108.toList) = false := beq_eq_false_iff_ne.mpr c10
              have c10b1 : (t104.toList != t108.toList) = true := bne_iff_ne.mpr c10
              obtain rfl := Option.some.inj H
              go_enter Try.func3, Try.ntmps3
              go_wp2_with (first | ((with_reducible refine gate_callee (f := 9) rfl ?_); refine goesL_ (some 20) rfl rfl Try.func9 (by kernel_rfl) rfl #[.string a0] rfl (by (try simp only [List.map_toArray, List.map_cons, List.map_nil]); first | done | rfl | (simp only [List.length_drop, List.length_take]; rfl)) ?_; (with_reducible refine (impl_FieldPiece.calls k a0 t102 t103 t104 true _ A3.out).mono ?_); rintro e w13 ⟨rfl, hb⟩; refine ⟨_, rfl, ?_⟩; have n0_ := Aside0.mk (below_step (by repeat (first | (with_reducible first | exact HB.out | apply below_alloc | apply pw_below_drewN | apply below_drew1) | exact HB.out)) hb); clear HB; have HB := n0_; clear n0_; (try clear hb); (try clear hb2); (try clear hk); (try clear hi)) | ((with_reducible refine gate_callee (f := 10) rfl ?_); refine goesL_ (some 27) rfl rfl Try.func10 (by kernel_rfl) rfl #[.string a0] rfl (by (try simp only [List.map_toArray, List.map_cons, List.map_nil]); first | done | rfl | (simp only [List.length_drop, List.length_take]; rfl)) ?_; (with_reducible refine (spec_FieldCut.calls k a0 t106 t107 t108 t109 _ A4.out).mono ?_); rintro e w' ⟨rfl, ⟨nd, rfl⟩⟩; refine ⟨_, rfl, ?_⟩) | ((with_reducible refine gate_callee (f := 9) rfl ?_); refine goesL_ (some 33) rfl rfl Try.func9 (by kernel_rfl) rfl #[.string (⟨#[97, 61, 98]⟩ : ByteArray)] rfl (by (try simp only [List.map_toArray, List.map_cons, List.map_nil]); first | done | rfl | (simp only [List.length_drop, List.length_take]; rfl)) ?_; (with_reducible refine (impl_FieldPiece.calls k (⟨#[97, 61, 98]⟩ : ByteArray) t110 t111 t112 t113 _ A5.out).mono ?_); rintro e w14 ⟨rfl, hb⟩; refine ⟨_, rfl, ?_⟩; have n0_ := Aside0.mk (below_step (by repeat (first | (with_reducible first | exact HB.out | apply below_alloc | apply pw_below_drewN | apply below_drew1) | exact HB.out)) hb); clear HB; have HB := n0_; clear n0_; (try clear hb); (try clear hb2); (try clear hk); (try clear hi)))
              go_ret
              exact ⟨by first | rfl | (simp [errW_none, errW_some] <;> rfl) | (simp [*, errW_none, errW_some] <;> rfl), by repeat (first | (with_reducible first | exact HB.out | apply below_alloc | apply pw_below_drewN | apply below_drew1) | exact HB.out)⟩
          · rw [if_neg c9] at H
            have c9b0 : (t103.toList == t107.toList) = false := beq_eq_false_iff_ne.mpr c9
            have c9b1 : (t103.toList != t107.toList) = true := bne_iff_ne.mpr c9
            obtain rfl := Option.some.inj H
            go_enter Try.func3, Try.ntmps3
            go_wp2_with (first | ((with_reducible refine gate_callee (f := 9) rfl ?_); refine goesL_ (some 20) rfl rfl Try.func9 (by kernel_rfl) rfl #[.string a0] rfl (by (try simp only [List.map_toArray, List.map_cons, List.map_nil]); first | done | rfl | (simp only [List.length_drop, List.length_take]; rfl)) ?_; (with_reducible refine (impl_FieldPiece.calls k a0 t102 t103 t104 true _ A3.out).mono ?_); rintro e w15 ⟨rfl, hb⟩; refine ⟨_, rfl, ?_⟩; have n0_ := Aside0.mk (below_step (by repeat (first | (with_reducible first | exact HB.out | apply below_alloc | apply pw_below_drewN | apply below_drew1) | exact HB.out)) hb); clear HB; have HB := n0_; clear n0_; (try clear hb); (try clear hb2); (try clear hk); (try clear hi)) | ((with_reducible refine gate_callee (f := 10) rfl ?_); refine goesL_ (some 27) rfl rfl Try.func10 (by kernel_rfl) rfl #[.string a0] rfl (by (try simp only [List.map_toArray, List.map_cons, List.map_nil]); first | done | rfl | (simp only [List.length_drop, List.length_take]; rfl)) ?_; (with_reducible refine (spec_FieldCut.calls k a0 t106 t107 t108 t109 _ A4.out).mono ?_); rintro e w' ⟨rfl, ⟨nd, rfl⟩⟩; refine ⟨_, rfl, ?_⟩) | ((with_reducible refine gate_callee (f := 9) rfl ?_); refine goesL_ (some 33) rfl rfl Try.func9 (by kernel_rfl) rfl #[.string (⟨#[97, 61, 98]⟩ : ByteArray)] rfl (by (try simp only [List.map_toArray, List.map_cons, List.map_nil]); first | done | rfl | (simp only [List.length_drop, List.length_take]; rfl)) ?_; (with_reducible refine (impl_FieldPiece.calls k (⟨#[97, 61, 98]⟩ : ByteArray) t110 t111 t112 t113 _ A5.out).mono ?_); rintro e w16 ⟨rfl, hb⟩; refine ⟨_, rfl, ?_⟩; have n0_ := Aside0.mk (below_step (by repeat (first | (with_reducible first | exact HB.out | apply below_alloc | apply pw_below_drewN | apply below_drew1) | exact HB.out)) hb); clear HB; have HB := n0_; clear n0_; (try clear hb); (try clear hb2); (try clear hk); (try clear hi)))
            go_ret
            exact ⟨by first | rfl | (simp [errW_none, errW_some] <;> rfl) | (simp [*, errW_none, errW_some] <;> rfl), by repeat (first | (with_reducible first | exact HB.out | apply below_alloc | apply pw_below_drewN | apply below_drew1) | exact HB.out)⟩
        · rw [if_neg c8] at H
          have c8b0 : (t102.toList == t106.toList) = false := beq_eq_false_iff_ne.mpr c8
          have c8b1 : (t102.toList != t106.toList) = true := bne_iff_ne.mpr c8
          obtain rfl := Option.some.inj H
          go_enter Try.func3, Try.ntmps3
          go_wp2_with (first | ((with_reducible refine gate_callee (f := 9) rfl ?_); refine goesL_ (some 20) rfl rfl Try.func9 (by kernel_rfl) rfl #[.string a0] rfl (by (try simp only [List.map_toArray, List.map_cons, List.map_nil]); first | done | rfl | (simp only [List.length_drop, List.length_take]; rfl)) ?_; (with_reducible refine (impl_FieldPiece.calls k a0 t102 t103 t104 true _ A3.out).mono ?_); rintro e w17 ⟨rfl, hb⟩; refine ⟨_, rfl, ?_⟩; have n0_ := Aside0.mk (below_step (by repeat (first | (with_reducible first | exact HB.out | apply below_alloc | apply pw_below_drewN | apply below_drew1) | exact HB.out)) hb); clear HB; have HB := n0_; clear n0_; (try clear hb); (try clear hb2); (try clear hk); (try clear hi)) | ((with_reducible refine gate_callee (f := 10) rfl ?_); refine goesL_ (some 27) rfl rfl Try.func10 (by kernel_rfl) rfl #[.string a0] rfl (by (try simp only [List.map_toArray, List.map_cons, List.map_nil]); first | done | rfl | (simp only [List.length_drop, List.length_take]; rfl)) ?_; (with_reducible refine (spec_FieldCut.calls k a0 t106 t107 t108 t109 _ A4.out).mono ?_); rintro e w' ⟨rfl, ⟨nd, rfl⟩⟩; refine ⟨_, rfl, ?_⟩) | ((with_reducible refine gate_callee (f := 9) rfl ?_); refine goesL_ (some 33) rfl rfl Try.func9 (by kernel_rfl) rfl #[.string (⟨#[97, 61, 98]⟩ : ByteArray)] rfl (by (try simp only [List.map_toArray, List.map_cons, List.map_nil]); first | done | rfl | (simp only [List.length_drop, List.length_take]; rfl)) ?_; (with_reducible refine (impl_FieldPiece.calls k (⟨#[97, 61, 98]⟩ : ByteArray) t110 t111 t112 t113 _ A5.out).mono ?_); rintro e w18 ⟨rfl, hb⟩; refine ⟨_, rfl, ?_⟩; have n0_ := Aside0.mk (below_step (by repeat (first | (with_reducible first | exact HB.out | apply below_alloc | apply pw_below_drewN | apply below_drew1) | exact HB.out)) hb); clear HB; have HB := n0_; clear n0_; (try clear hb); (try clear hb2); (try clear hk); (try clear hi)))
          go_ret
          exact ⟨by first | rfl | (simp [errW_none, errW_some] <;> rfl) | (simp [*, errW_none, errW_some] <;> rfl), by repeat (first | (with_reducible first | exact HB.out | apply below_alloc | apply pw_below_drewN | apply below_drew1) | exact HB.out)⟩
      · replace c7 := Bool.eq_false_iff.mpr c7
        subst c7
        have H1 : (some t113) = some r := by rw [if_neg (show ¬ (false = true) by decide)] at H; exact H
        clear H
        have H := H1
        clear H1
        obtain rfl := Option.some.inj H
        go_enter Try.func3, Try.ntmps3
        go_wp2_with (first | ((with_reducible refine gate_callee (f := 9) rfl ?_); refine goesL_ (some 20) rfl rfl Try.func9 (by kernel_rfl) rfl #[.string a0] rfl (by (try simp only [List.map_toArray, List.map_cons, List.map_nil]); first | done | rfl | (simp only [List.length_drop, List.length_take]; rfl)) ?_; (with_reducible refine (impl_FieldPiece.calls k a0 t102 t103 t104 false _ A3.out).mono ?_); rintro e w19 ⟨rfl, hb⟩; refine ⟨_, rfl, ?_⟩; have n0_ := Aside0.mk (below_step (by repeat (first | (with_reducible first | exact HB.out | apply below_alloc | apply pw_below_drewN | apply below_drew1) | exact HB.out)) hb); clear HB; have HB := n0_; clear n0_; (try clear hb); (try clear hb2); (try clear hk); (try clear hi)) | ((with_reducible refine gate_callee (f := 10) rfl ?_); refine goesL_ (some 27) rfl rfl Try.func10 (by kernel_rfl) rfl #[.string a0] rfl (by (try simp only [List.map_toArray, List.map_cons, List.map_nil]); first | done | rfl | (simp only [List.length_drop, List.length_take]; rfl)) ?_; (with_reducible refine (spec_FieldCut.calls k a0 t106 t107 t108 t109 _ A4.out).mono ?_); rintro e w' ⟨rfl, ⟨nd, rfl⟩⟩; refine ⟨_, rfl, ?_⟩) | ((with_reducible refine gate_callee (f := 9) rfl ?_); refine goesL_ (some 33) rfl rfl Try.func9 (by kernel_rfl) rfl #[.string (⟨#[97, 61, 98]⟩ : ByteArray)] rfl (by (try simp only [List.map_toArray, List.map_cons, List.map_nil]); first | done | rfl | (simp only [List.length_drop, List.length_take]; rfl)) ?_; (with_reducible refine (impl_FieldPiece.calls k (⟨#[97, 61, 98]⟩ : ByteArray) t110 t111 t112 t113 _ A5.out).mono ?_); rintro e w20 ⟨rfl, hb⟩; refine ⟨_, rfl, ?_⟩; have n0_ := Aside0.mk (below_step (by repeat (first | (with_reducible first | exact HB.out | apply below_alloc | apply pw_below_drewN | apply below_drew1) | exact HB.out)) hb); clear HB; have HB := n0_; clear n0_; (try clear hb); (try clear hb2); (try clear hk); (try clear hi)))
        go_ret
        exact ⟨by first | rfl | (simp [errW_none, errW_some] <;> rfl) | (simp [*, errW_none, errW_some] <;> rfl), by repeat (first | (with_reducible first | exact HB.out | apply below_alloc | apply pw_below_drewN | apply below_drew1) | exact HB.out)⟩
    · rw [if_neg c6] at H
      have c6b0 : (t105 == t109) = false := by simpa using c6
      (try (have c6b1 : decide (t105 = t109) = false := by simpa using c6))
      (try (have c6b2 : (t105 == t109) = false := by simpa using c6))
      (try (have c6b3 : ¬ (t105 = t109) := by simpa using c6))
      clear c6
      obtain rfl := Option.some.inj H
      go_enter Try.func3, Try.ntmps3
      go_wp2_with (first | ((with_reducible refine gate_callee (f := 9) rfl ?_); refine goesL_ (some 20) rfl rfl Try.func9 (by kernel_rfl) rfl #[.string a0] rfl (by (try simp only [List.map_toArray, List.map_cons, List.map_nil]); first | done | rfl | (simp only [List.length_drop, List.length_take]; rfl)) ?_; (with_reducible refine (impl_FieldPiece.calls k a0 t102 t103 t104 t105 _ A3.out).mono ?_); rintro e w21 ⟨rfl, hb⟩; refine ⟨_, rfl, ?_⟩; have n0_ := Aside0.mk (below_step (by repeat (first | (with_reducible first | exact HB.out | apply below_alloc | apply pw_below_drewN | apply below_drew1) | exact HB.out)) hb); clear HB; have HB := n0_; clear n0_; (try clear hb); (try clear hb2); (try clear hk); (try clear hi)) | ((with_reducible refine gate_callee (f := 10) rfl ?_); refine goesL_ (some 27) rfl rfl Try.func10 (by kernel_rfl) rfl #[.string a0] rfl (by (try simp only [List.map_toArray, List.map_cons, List.map_nil]); first | done | rfl | (simp only [List.length_drop, List.length_take]; rfl)) ?_; (with_reducible refine (spec_FieldCut.calls k a0 t106 t107 t108 t109 _ A4.out).mono ?_); rintro e w' ⟨rfl, ⟨nd, rfl⟩⟩; refine ⟨_, rfl, ?_⟩) | ((with_reducible refine gate_callee (f := 9) rfl ?_); refine goesL_ (some 33) rfl rfl Try.func9 (by kernel_rfl) rfl #[.string (⟨#[97, 61, 98]⟩ : ByteArray)] rfl (by (try simp only [List.map_toArray, List.map_cons, List.map_nil]); first | done | rfl | (simp only [List.length_drop, List.length_take]; rfl)) ?_; (with_reducible refine (impl_FieldPiece.calls k (⟨#[97, 61, 98]⟩ : ByteArray) t110 t111 t112 t113 _ A5.out).mono ?_); rintro e w22 ⟨rfl, hb⟩; refine ⟨_, rfl, ?_⟩; have n0_ := Aside0.mk (below_step (by repeat (first | (with_reducible first | exact HB.out | apply below_alloc | apply pw_below_drewN | apply below_drew1) | exact HB.out)) hb); clear HB; have HB := n0_; clear n0_; (try clear hb); (try clear hb2); (try clear hk); (try clear hi)))
      go_ret
      exact ⟨by first | rfl | (simp [errW_none, errW_some] <;> rfl) | (simp [*, errW_none, errW_some] <;> rfl), by repeat (first | (with_reducible first | exact HB.out | apply below_alloc | apply pw_below_drewN | apply below_drew1) | exact HB.out)⟩

/-- THE ONE PURE STATEMENT of laws_FnFieldPiece: yours. -/
def laws_FnFieldPiece.Pure : Prop := ∀ (a0 : ByteArray), a0.size ≤ 140737488351232 → ∃ k, laws_FnFieldPiece.f k a0 = some true
theorem laws_FnFieldPiece.walk (P : laws_FnFieldPiece.Pure) (a0 : ByteArray) (w : World) (w0 : a0.size ≤ 140737488351232) :
    Calls Try.prog 3 #[.string a0] w fun e w' => e = .returned (.bool true) ∧ Below w.heap.size w w' := by
  obtain ⟨k, h⟩ := P a0 w0
  refine (laws_FnFieldPiece.calls k a0 true w h).mono ?_
  rintro e w' ⟨rfl, hd⟩
  exact ⟨rfl, hd⟩

end Go.Proofs.Ytehgokciafpnbaa.XFnFieldPiece
