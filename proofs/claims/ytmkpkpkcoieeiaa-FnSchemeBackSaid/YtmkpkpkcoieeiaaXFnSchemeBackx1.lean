/- A text of this session: the functions of the law FnSchemeBack, by a program that calls the kit's print and lays this session's own contracts of single functions beside. -/
import Derived.Test.YtmkpkpkcoieeiaaXFnSchemeBackx0
namespace Go.Proofs.Ytmkpkpkcoieeiaa.XFnSchemeBack
open Go.RowKit Go.Proofs.YtmkpkpkcoieeiaaW.PrintWords Go.Proofs.YtmkpkpkcoieeiaaW.PrintLast Go.Proofs.YtmkpkpkcoieeiaaW.PrintMore
attribute [local go_sem] max2_int min2_int max_two min_two max_three min_three max_four min_four   -- for this text's walks alone
set_option linter.unusedVariables false
set_option linter.unusedSimpArgs false

/-! ### spec_keyIn_string: function 15 -/
def spec_keyIn_string.l0 : Nat → List ByteArray → ByteArray → Int → Option (Bool)
  | 0, _, _, _ => none
  | k + 1, x0, x1, x5 => if x5 < (x0.length : Int) then (if 0 ≤ x5 then (if (rdOf ByteArray.empty x0 x5).toList = x1.toList then (some true) else (spec_keyIn_string.l0 k x0 x1 (wrap64 (x5 + 1)))) else (none)) else (some false)
def spec_keyIn_string.f (k : Nat) (l0 : List ByteArray) (a1 : ByteArray) : Option (Bool) := spec_keyIn_string.l0 k l0 a1 0
theorem spec_keyIn_string.mono_l : ∀ k, (∀ y0 y1 y2, LeO (spec_keyIn_string.l0 k y0 y1 y2) (spec_keyIn_string.l0 (k + 1) y0 y1 y2))
  | 0 => fun _ _ _ r h => by simp [spec_keyIn_string.l0] at h
  | k + 1 => by
    have ih0 := spec_keyIn_string.mono_l k
    · intro y0 y1 y2
      unfold spec_keyIn_string.l0
      repeat' first
      | (with_reducible exact ih0 _ _ _)
      | (with_reducible exact LeO.refl _)
      | (with_reducible exact LeO.none _)
      | (with_reducible refine LeO.ite ?_ ?_)
      | (with_reducible refine LeO.bind ?_ (fun _ => ?_))
      | exact ih0 _ _ _
      | exact LeO.none _
      | refine LeO.ite ?_ ?_
      | refine LeO.bind ?_ (fun _ => ?_)
theorem spec_keyIn_string.mono : ∀ a0 a1 k, LeO (spec_keyIn_string.f k a0 a1) (spec_keyIn_string.f (k + 1) a0 a1) := by
  intro a0 a1 k
  have ih0 := spec_keyIn_string.mono_l k
  unfold spec_keyIn_string.f
  repeat' first
      | (with_reducible exact ih0 _ _ _)
      | (with_reducible exact LeO.refl _)
      | (with_reducible exact LeO.none _)
      | (with_reducible refine LeO.ite ?_ ?_)
      | (with_reducible refine LeO.bind ?_ (fun _ => ?_))
      | exact ih0 _ _ _
      | exact LeO.none _
      | refine LeO.ite ?_ ?_
      | refine LeO.bind ?_ (fun _ => ?_)
set_option maxHeartbeats 8000000 in
set_option maxRecDepth 100000 in
theorem spec_keyIn_string.calls (k : Nat) (A0 : Option Addr) (c0 : Nat) (l0 : List ByteArray) (a1 : ByteArray) (r : Bool) (w : World) (hr0 : Kd.C Kd.string w A0 l0.length l0) (hc0 : l0.length ≤ c0) (h : spec_keyIn_string.f k l0 a1 = some r) :
    Calls Try.prog 15 #[.slice A0 l0.length c0, .string a1] w fun e w' => e = .returned (.bool r) ∧ Drawn0 w w' := by
  have HR0 := Aside0.mk hr0
  have HC0 := Aside0.mk hc0
  clear hr0 hc0
  have H : (spec_keyIn_string.l0 k l0 a1 0) = some r := h
  clear h
  have H' := Aside0.mk H
  clear H
  go_enter Try.func15, Try.ntmps15
  go_wp2
  go_loopg [5] k (fun kq v5 w' => ∃ (x5_1 : Int), v5 = .int .i64 x5_1 ∧ Aside0 (spec_keyIn_string.l0 kq l0 a1 x5_1 = some r) ∧ Aside0 (kq ≤ k) ∧ Drawn0 w w')
  case atStart => exact ⟨(0), (by first | rfl | (simp; done) | (simp [*]; done)), H', ⟨Nat.le_refl _⟩, by repeat (first | exact Drawn0.refl _ | apply Drawn0.step)⟩
  case round =>
    clear H'
    try clear c1
    try clear p2
    obtain ⟨x5_1, rfl, HA, HK1, ⟨m1, rfl⟩⟩ := hrel
    cases gk with
    | zero => exact absurd HA.out (by simp [spec_keyIn_string.l0])
    | succ k1 =>
      have H := HA.out
      clear HA
      simp only [spec_keyIn_string.l0] at H
      by_cases c3 : x5_1 < (l0.length : Int)
      · rw [if_pos c3] at H
        have c3b0 : decide (x5_1 < (l0.length : Int)) = true := decide_eq_true c3
        clear c3
        by_cases c4 : 0 ≤ x5_1
        · rw [if_pos c4] at H
          have c4b0 : decide (0 ≤ x5_1) = true := decide_eq_true c4
          clear c4
          by_cases c5 : (rdOf ByteArray.empty l0 x5_1).toList = a1.toList
          · rw [if_pos c5] at H
            have c5b0 : ((rdOf ByteArray.empty l0 x5_1).toList == a1.toList) = true := beq_iff_eq.mpr c5
            have c5b1 : ((rdOf ByteArray.empty l0 x5_1).toList != a1.toList) = false := bne_eq_false_iff_eq.mpr c5
            clear c5
            obtain rfl := Option.some.inj H
            have p101 : 0 ≤ (x5_1 : Int) := of_decide_eq_true (by first | (with_reducible assumption) | assumption)
            have q101 : x5_1 < (l0.length : Int) := of_decide_eq_true (by first | (with_reducible assumption) | assumption)
            obtain ⟨ad101, e101, hx101_0⟩ := Kd.at_string HR0.out x5_1 p101 q101
            cases e101
            replace p101 := eq_true p101
            replace q101 := eq_true q101
            go_wp2
            go_ret
            exact ⟨by first | rfl | (simp; done) | (simp [*]; done), by repeat (first | exact Drawn0.refl _ | apply Drawn0.step)⟩
          · rw [if_neg c5] at H
            have c5b0 : ((rdOf ByteArray.empty l0 x5_1).toList == a1.toList) = false := beq_eq_false_iff_ne.mpr c5
            have c5b1 : ((rdOf ByteArray.empty l0 x5_1).toList != a1.toList) = true := bne_iff_ne.mpr c5
            have H' := Aside0.mk H
            clear H
            have p101 : 0 ≤ (x5_1 : Int) := of_decide_eq_true (by first | (with_reducible assumption) | assumption)
            have q101 : x5_1 < (l0.length : Int) := of_decide_eq_true (by first | (with_reducible assumption) | assumption)
            obtain ⟨ad101, e101, hx101_0⟩ := Kd.at_string HR0.out x5_1 p101 q101
            cases e101
            replace p101 := eq_true p101
            replace q101 := eq_true q101
            go_wp2
            go_roundg k1
            case measure => have := HK1.out; omega
            case rel => exact ⟨(wrap64 (x5_1 + 1)), (by first | rfl | (simp; done) | (simp [*]; done)), H', ⟨by have := HK1.out; omega⟩, by repeat (first | exact Drawn0.refl _ | apply Drawn0.step)⟩
        · rw [if_neg c4] at H
          exact absurd H (by simp)
      · rw [if_neg c3] at H
        have c3b0 : decide (x5_1 < (l0.length : Int)) = false := decide_eq_false c3
        clear c3
        obtain rfl := Option.some.inj H
        go_wp2
        go_ret
        exact ⟨by first | rfl | (simp; done) | (simp [*]; done), by repeat (first | exact Drawn0.refl _ | apply Drawn0.step)⟩

/-! ### spec_Split: function 16 -/
/-- A list of bytes cut at a byte: behind what is cut already. -/
def splitG (c : Int) : List UInt8 → List ByteArray → List ByteArray
  | [], out => out
  | b :: l, out => if (b.toNat : Int) = c then splitG c l (out ++ [⟨#[]⟩]) else splitG c l (out.set (out.length - 1) (out.getLastD ⟨#[]⟩ ++ ⟨#[b]⟩))
def measS (n : Nat) : Value → Nat
  | .int _ q => n - q.toNat
  | _ => 0
theorem split_step (s : ByteArray) (c j : Int) (out : List ByteArray) (h0 : 0 ≤ j) (h1 : j < (s.size : Int)) :
    splitG c (s.data.toList.drop j.toNat) out = if bt s j = c then splitG c (s.data.toList.drop (j + 1).toNat) (out ++ [⟨#[]⟩]) else splitG c (s.data.toList.drop (j + 1).toNat) (out.set (out.length - 1) (out.getLastD ⟨#[]⟩ ++ ⟨#[(bt s j).toNat.toUInt8]⟩)) := by
  have hl : j.toNat < s.data.toList.length := by simp; omega
  have hb : bt s j = ((s.data.toList[j.toNat]).toNat : Int) := by
    unfold bt
    rw [dif_pos (by omega)]
    rfl
  rw [List.drop_eq_getElem_cons hl, show (j + 1).toNat = j.toNat + 1 from by omega, hb]
  show (if _ then _ else _) = _
  rw [show ((((s.data.toList[j.toNat]).toNat : Nat) : Int)).toNat.toUInt8 = s.data.toList[j.toNat] from by simp]
theorem conv_one {P : Program} (w : World) (src dst e : TypeId) (hs : P.underlying src = some (.slice e)) (he : P.underlying e = some (.int .u8)) (hd : P.underlying dst = some .string) (k : Nat) (x : Int) (b : UInt8) (hx : x = (b.toNat : Int))
    (h : w.cell? ⟨k, 0, none⟩ = some (.int .u8 x)) : (convert src dst (.slice (some ⟨k, 0, none⟩) 1 1)).run P w = .ok (.string ⟨#[b]⟩) w := by
  subst hx
  exact run_convert_bytes_back w src dst e ⟨k, 0, none⟩ 1 [b] hs he hd (fun j hj => by
    obtain rfl : j = 0 := by simpa using hj
    exact h)
theorem rdOf_last (out : List ByteArray) (h : 0 < out.length) : rdOf ByteArray.empty out ((out.length : Int) - 1) = out.getLastD ⟨#[]⟩ := by
  unfold rdOf
  rw [show ((out.length : Int) - 1).toNat = out.length - 1 from by omega, List.getLastD_eq_getLast?, List.getLast?_eq_getElem?, List.getD_eq_getElem?_getD]
  rfl
theorem last_set (out : List ByteArray) (x : ByteArray) (h : 0 < out.length) : (out.set (out.length - 1) x).getLastD ⟨#[]⟩ = x := by
  rw [List.getLastD_eq_getLast?, List.getLast?_eq_getElem?, List.length_set, List.getElem?_set]
  rw [if_pos rfl, if_pos (by omega)]
  rfl
theorem bt_byte (s : ByteArray) (j : Int) (h0 : 0 ≤ j) (h1 : j < (s.size : Int)) : ∃ b : UInt8, bt s j = (b.toNat : Int) := by
  have hl : j.toNat < s.size := by omega
  exact ⟨s[j.toNat]'hl, by unfold bt; rw [dif_pos (by omega)]⟩
theorem split_walk (s : ByteArray) (c : Int) (hs : s.size < 4398046511104) (w : World) :
    Calls Try.prog 16 #[.string s, .int .u8 c] w fun e w' => ∃ v0_ : Value, e = .returned v0_ ∧ Kd.R Kd.string 9 w' w.heap.size (fun _ => True) v0_ (splitG c s.data.toList [⟨#[]⟩]) ∧ Below w.heap.size w w' := by
  go_enter Try.func16, Try.ntmps16
  go_wp2_with (first | ((with_reducible refine gate_dst (N := 7) rfl ?_); refine Kd.R_lit Kd.string w.heap.size 9 ?hg (N := 7) ?hd (xs := ([⟨#[]⟩] : List ByteArray)) (inner := [.string ⟨#[]⟩]) (ok := fun _ => True) (okp := fun _ => True) ?hr ?hp (fun _ hk => hk) trivial (Below.refl _ _) (Nat.le_refl _) (by simp) ?_; (case hd => rfl); (case hg => rfl); (case hr => first | (go_simp; done) | (go_simp; rfl)); (case hp => exact (Reps.one (show Kd.M Kd.string _ _ _ (⟨#[]⟩ : ByteArray) [.string ⟨#[]⟩] from rfl) (Reps.none _ _))); intro v1 w1 ho hb hg_ hnew_))
  have HO := Aside0.mk ho
  have HB := Aside0.mk hb
  clear ho hb hg_ hnew_
  go_loopw [5, 6] (fun v n wz => ∃ (j : Int) (out : List ByteArray), n = .int .i64 j ∧ 0 ≤ j ∧ j ≤ (s.size : Int) ∧ 0 < out.length ∧ (out.length : Int) ≤ j + 1 ∧ ((out.getLastD ⟨#[]⟩).size : Int) ≤ j ∧ Aside0 (Kd.R Kd.string 9 wz w.heap.size (fun _ => True) v out) ∧ Aside0 (Below w.heap.size w wz) ∧ Aside0 (splitG c (s.data.toList.drop j.toNat) out = splitG c s.data.toList [⟨#[]⟩])) (fun _ n _ => measS s.size n)
  case atStart => exact ⟨0, [⟨#[]⟩], rfl, by omega, by omega, by simp, by simp, by show ((0 : Nat) : Int) ≤ 0; omega, HO, HB, ⟨rfl⟩⟩
  case round =>
    obtain ⟨j, out, rfl, hj0, hjs, h0, h1, hz, hR, hB, hS⟩ := hrel
    obtain ⟨A, cp, rfl⟩ := Kd.R_slice hR.out
    by_cases hlt : j < (s.size : Int)
    · have c1 : decide (j < (s.size : Int)) = true := decide_eq_true hlt
      have q0 : decide (0 ≤ j) = true := decide_eq_true hj0
      by_cases hc : bt s j = c
      · have hcb : (bt s j == c) = true := beq_iff_eq.mpr hc
        have hx := bt_at s j
        have HA := Aside0.mk hc
        clear hc
        have hl : out.length < 8796093022208 := by omega
        go_wp2_with (first | ((with_reducible refine gate_builtin (b := .append) (xs := #[.tmp 19, .tmp 20]) rfl ?_); at_builtin; refine Kd.R_append Kd.string (w0 := w) w.heap.size rfl (.tmp 19) (.tmp 20) 22 9 (.string ⟨#[]⟩) 16 rfl Try.underlying22 info9 rfl (by decide) (by omega) (.slice A out.length cp) out (⟨#[]⟩ : ByteArray) [.string ⟨#[]⟩] (fun _ => True) (fun _ => False) rfl rfl ?aP (fun _ hk => hk.elim) ?aF ?aO ?aB ?aS ?aL ?_; (case aP => exact rfl); (case aB => exact (by repeat (first | (with_reducible first | exact hB.out | apply below_alloc | apply pw_below_drewN | apply below_drew1) | exact hB.out))); (case aF => exact (fun _ _ => trivial)); (case aO => exact (by (with_reducible repeat (first | apply Kd.R_alloc | apply Kd.R_drewN | apply Kd.R_drew)); exact hR.out)); (case aS => exact (below_size (by repeat (first | (with_reducible first | exact hB.out | apply below_alloc | apply pw_below_drewN | apply below_drew1) | exact hB.out)))); (case aL => omega); intro v2 w2 ho hb hg hat))
        refine ⟨⟨j + 1, out ++ [⟨#[]⟩], rfl, by omega, by omega, by simp, by simp; omega, by rw [List.getLastD_concat]; show (0 : Int) ≤ _; omega, ⟨ho⟩, ⟨hb⟩, ⟨?_⟩⟩, ?_⟩
        · rw [← hS.out, split_step s c j out hj0 hlt, if_pos HA.out]
        · show s.size - (j + 1).toNat < s.size - j.toNat
          omega
      · have hcb : (bt s j == c) = false := beq_eq_false_iff_ne.mpr hc
        have hx := bt_at s j
        have HA := Aside0.mk hc
        clear hc
        obtain ⟨g, cap, hv, hbase, hglt, cells, hcells⟩ := Kd.R_form hR.out h0
        obtain ⟨rfl, rfl⟩ : A = some ⟨g, 0, none⟩ ∧ cp = cap := by injection hv with e1 e2 e3; exact ⟨e1, e3⟩
        have rc := Kd.R_cell (ByteArray.empty) hR.out ((out.length : Int) - 1) (by omega) (by omega)
        have HL := Aside0.mk hcells
        clear hv hcells
        rw [show ((out.length : Int) - 1).toNat = out.length - 1 from by omega] at rc
        obtain ⟨rc1, rc2⟩ := rc
        have rc3 : (wr.alloc (.cells #[.int .u8 (bt s j)] 5)).cell? ⟨g, out.length - 1, none⟩ = _ := (World.cell?_alloc_lt _ _ _ hglt).trans rc1
        obtain ⟨la, hla⟩ : ∃ la, rdOf ByteArray.empty out ((out.length : Int) - 1) = la := ⟨_, rfl⟩
        rw [hla] at rc1 rc3
        have hlast : la = out.getLastD ⟨#[]⟩ := by rw [← hla]; exact rdOf_last out h0
        have hsz : la.size + 1 ≤ 9223372036854775807 := by rw [hlast]; omega
        have hszb : (9223372036854775807 < la.size + 1) = False := eq_false (by omega)
        have HLA := Aside0.mk hlast
        clear hla hlast
        have hw1 : IntKind.i64.wrap ((out.length : Int) - 1) = ((out.length - 1 : Nat) : Int) := (i64_w _).trans (by unfold wrap64; omega)
        obtain ⟨b, hb8⟩ := bt_byte s j hj0 hlt
        have hcv := conv_one (P := Try.prog) ((wr.alloc (.cells #[.int .u8 (bt s j)] 5)).drew) 55 9 5 Try.underlying55 Try.underlying5 Try.underlying9 wr.heap.size (bt s j) b hb8 ((blk_cell (t := 5) (cs := #[.int .u8 (bt s j)]) (blk_drew (heap_alloc_new wr _)) 0).trans rfl)
        have HB8 := Aside0.mk hb8
        clear hb8
        go_wp2_with fail
        go_region
        go_wp2_with fail
        have hi1 : ((out.length : Int) - 1).toNat = out.length - 1 := by omega
        have hp := Kd.R_put hR.out ((out.length : Int) - 1) (la ++ ⟨#[b]⟩)
        rw [hi1] at hp
        refine ⟨⟨j + 1, out.set (out.length - 1) (la ++ ⟨#[b]⟩), rfl, by omega, by omega, by simp; omega, by simp; omega, ?_, ⟨?_⟩, ⟨?_⟩, ⟨?_⟩⟩, ?_⟩
        · rw [last_set out _ h0, ByteArray.size_append]
          have e1 : (⟨#[b]⟩ : ByteArray).size = 1 := rfl
          rw [HLA.out]; omega
        · exact Kd.R_drew (Kd.R_alloc hp.1 _)
        · exact below_drew1 (below_alloc (below_set hB.out hbase) _)
        · rw [← hS.out, split_step s c j out hj0 hlt, if_neg HA.out, ← HLA.out, HB8.out]
          simp
        · show s.size - (j + 1).toNat < s.size - j.toNat
          omega
    · have c1 : decide (j < (s.size : Int)) = false := decide_eq_false hlt
      have hfin : splitG c s.data.toList [⟨#[]⟩] = out := by
        have hd : s.data.toList.drop j.toNat = [] := List.drop_eq_nil_of_le (by simp; omega)
        rw [← hS.out, hd]; rfl
      have HF := Aside0.mk hfin
      clear hfin
      go_wp2_with fail
      go_ret
      exact ⟨.slice A out.length cp, rfl, by rw [HF.out]; exact hR.out, hB.out⟩
def spec_Split.f (_ : Nat) (a0 : ByteArray) (a1 : Int) : Option (List ByteArray) := if a0.size < 4398046511104 then some (splitG a1 a0.data.toList [⟨#[]⟩]) else none
theorem spec_Split.mono : ∀ a0 a1 k, LeO (spec_Split.f k a0 a1) (spec_Split.f (k + 1) a0 a1) := by
  intro a0 a1 k
  exact LeO.refl _
theorem spec_Split.calls (k : Nat) (a0 : ByteArray) (a1 : Int) (r : List ByteArray) (w : World) (h : spec_Split.f k a0 a1 = some r) :
    Calls Try.prog 16 #[.string a0, .int .u8 a1] w fun e w' => ∃ v0_ : Value, e = .returned (v0_) ∧ Kd.R Kd.string 9 w' w.heap.size (fun _ => True) v0_ r ∧ Below w.heap.size w w' := by
  unfold spec_Split.f at h
  by_cases hs : a0.size < 4398046511104
  · rw [if_pos hs] at h
    obtain rfl := Option.some.inj h
    exact split_walk a0 a1 hs w
  · rw [if_neg hs] at h; cases h

/-! ### spec_SchemeMay: function 5 -/
def spec_SchemeMay.f (k : Nat) (a0 : ByteArray) (a1 : ByteArray) (a2 : ByteArray) : Option (Bool) := (spec_keyIn_string.f k (([(⟨#[]⟩ : ByteArray), (⟨#[104, 116, 116, 112]⟩ : ByteArray), (⟨#[104, 116, 116, 112, 115]⟩ : ByteArray)] : List ByteArray)) a0).bind fun t105 => (if t105 = true then (if a1.toList = ([] : List UInt8) then (some false) else ((spec_Split.f k a1 58).bind fun t106 => (if (t106.length : Int) = 1 then ((spec_Split.f k a2 58).bind fun t109 => (some ((t109.length : Int) == 1))) else (some false)))) else (some false))
theorem spec_SchemeMay.mono : ∀ a0 a1 a2 k, LeO (spec_SchemeMay.f k a0 a1 a2) (spec_SchemeMay.f (k + 1) a0 a1 a2) := by
  intro a0 a1 a2 k
  unfold spec_SchemeMay.f
  repeat' first
      | (with_reducible exact spec_Split.mono _ _ _)
      | (with_reducible exact spec_keyIn_string.mono _ _ _)
      | (with_reducible exact LeO.refl _)
      | (with_reducible exact LeO.none _)
      | (with_reducible refine LeO.ite ?_ ?_)
      | (with_reducible refine LeO.bind ?_ (fun _ => ?_))
      | exact spec_Split.mono _ _ _
      | exact spec_keyIn_string.mono _ _ _
      | exact LeO.none _
      | refine LeO.ite ?_ ?_
      | refine LeO.bind ?_ (fun _ => ?_)
set_option maxHeartbeats 8000000 in
set_option maxRecDepth 100000 in
theorem spec_SchemeMay.calls (k : Nat) (a0 : ByteArray) (a1 : ByteArray) (a2 : ByteArray) (r : Bool) (w : World) (h : spec_SchemeMay.f k a0 a1 a2 = some r) :
    Calls Try.prog 5 #[.string a0, .string a1, .string a2] w fun e w' => e = .returned (.bool r) ∧ Below w.heap.size w w' := by
  have HB := Aside0.mk (Below.refl w.heap.size w)
  have H : ((spec_keyIn_string.f k (([(⟨#[]⟩ : ByteArray), (⟨#[104, 116, 116, 112]⟩ : ByteArray), (⟨#[104, 116, 116, 112, 115]⟩ : ByteArray)] : List ByteArray)) a0).bind fun t105 => (if t105 = true then (if a1.toList = ([] : List UInt8) then (some false) else ((spec_Split.f k a1 58).bind fun t106 => (if (t106.length : Int) = 1 then ((spec_Split.f k a2 58).bind fun t109 => (some ((t109.length : Int) == 1))) else (some false)))) else (some false))) = some r := h
  clear h
  obtain ⟨y102, hy102⟩ : ∃ y_ : List ByteArray, y_ = (([(⟨#[]⟩ : ByteArray), (⟨#[104, 116, 116, 112]⟩ : ByteArray), (⟨#[104, 116, 116, 112, 115]⟩ : ByteArray)] : List ByteArray)) := ⟨_, rfl⟩
  replace H : ((spec_keyIn_string.f k y102 a0).bind fun t105 => (if t105 = true then (if a1.toList = ([] : List UInt8) then (some false) else ((spec_Split.f k a1 58).bind fun t106 => (if (t106.length : Int) = 1 then ((spec_Split.f k a2 58).bind fun t109 => (some ((t109.length : Int) == 1))) else (some false)))) else (some false))) = some r := by first | (rw [hy102]; with_reducible exact H) | (have H2_ := (Option.bind_some _ _).symm.trans H; rw [hy102]; with_reducible exact H2_) | (have H2_ := (Option.bind_some _ _).symm.trans H; with_reducible exact H2_) | with_reducible exact H | (rw [hy102]; exact H) | exact H
  have Ny102 := Aside0.mk hy102
  clear hy102
  replace H := Option.bind_eq_some_iff.mp H
  obtain ⟨t105, A40, H⟩ := H
  replace H : (if t105 = true then (if a1.toList = ([] : List UInt8) then (some false) else ((spec_Split.f k a1 58).bind fun t106 => (if (t106.length : Int) = 1 then ((spec_Split.f k a2 58).bind fun t109 => (some ((t109.length : Int) == 1))) else (some false)))) else (some false)) = some r := H
  have A4 := Aside0.mk A40
  clear A40
  by_cases c5 : t105 = true
  · subst c5
    have H1 : (if a1.toList = ([] : List UInt8) then (some false) else ((spec_Split.f k a1 58).bind fun t106 => (if (t106.length : Int) = 1 then ((spec_Split.f k a2 58).bind fun t109 => (some ((t109.length : Int) == 1))) else (some false)))) = some r := by rw [if_pos rfl] at H; exact H
    clear H
    have H := H1
    clear H1
    by_cases c6 : a1.toList = ([] : List UInt8)
    · rw [if_pos c6] at H
      have c6b0 : (a1.toList == ([] : List UInt8)) = true := beq_iff_eq.mpr c6
      have c6b1 : (a1.toList != ([] : List UInt8)) = false := bne_eq_false_iff_eq.mpr c6
      clear c6
      obtain rfl := Option.some.inj H
      go_enter Try.func5, Try.ntmps5
      go_wp2_with (first | ((with_reducible refine gate_dst (N := 7) rfl ?_); (try (refine gate_guard (by rfl) ?_; dsimp only)); refine Kd.R_lit Kd.string _ 9 ?hg (N := 7) ?hd (xs := ([(⟨#[]⟩ : ByteArray), (⟨#[104, 116, 116, 112]⟩ : ByteArray), (⟨#[104, 116, 116, 112, 115]⟩ : ByteArray)] : List ByteArray)) (inner := [.string (⟨#[]⟩ : ByteArray), .string (⟨#[104, 116, 116, 112]⟩ : ByteArray), .string (⟨#[104, 116, 116, 112, 115]⟩ : ByteArray)]) (ok := fun _ => True) (okp := fun _ => True) ?hr ?hp (fun _ hk => hk) trivial (Below.refl _ _) (Nat.le_refl _) (by simp) ?_; (case hd => rfl); (case hg => rfl); (case hr => first | (go_simp; done) | (go_simp; rfl)); (case hp => exact (Reps.one (show Kd.M Kd.string _ _ _ (⟨#[]⟩ : ByteArray) [.string (⟨#[]⟩ : ByteArray)] from rfl) (Reps.one (show Kd.M Kd.string _ _ _ (⟨#[104, 116, 116, 112]⟩ : ByteArray) [.string (⟨#[104, 116, 116, 112]⟩ : ByteArray)] from rfl) (Reps.one (show Kd.M Kd.string _ _ _ (⟨#[104, 116, 116, 112, 115]⟩ : ByteArray) [.string (⟨#[104, 116, 116, 112, 115]⟩ : ByteArray)] from rfl) (Reps.none _ _))))); intro v103 w7 ho8 hb hg_ hnew_; clear hg_ hnew_; (first | rw [← Ny102.out] at ho8 | (simp only [Int.reduceToNat] at ho8; rw [← Ny102.out] at ho8)); have n0_ := Aside0.mk (Kd.R_lower ho8 (below_size (by repeat (first | (with_reducible first | exact HB.out | apply below_alloc | apply pw_below_drewN | apply below_drew1) | exact HB.out)))); have n1_ := Aside0.mk (below_step (by repeat (first | (with_reducible first | exact HB.out | apply below_alloc | apply pw_below_drewN | apply below_drew1) | exact HB.out)) hb); clear HB; have HO104 := n0_; have HB := n1_; clear n0_ n1_; clear hb ho8; obtain ⟨Ao9, co9, eo9⟩ := Kd.R_slice HO104.out; subst eo9) | ((with_reducible refine gate_callee (f := 15) rfl ?_); refine goesL_ (some 9) rfl rfl Try.func15 (by kernel_rfl) rfl #[.slice Ao9 y102.length co9, .string a0] rfl (by (try simp only [List.map_toArray, List.map_cons, List.map_nil]); first | done | rfl | (simp only [List.length_drop, List.length_take]; rfl)) ?_; (with_reducible refine (spec_keyIn_string.calls k _ _ y102 a0 true _ ?side1 ?side2 A4.out).mono ?_); (case side1 => repeat (first | exact (Kd.R_reads' HO104.out).2.2 | (with_reducible refine Kd.C_alloc ?_ _) | (with_reducible refine Kd.C_drewN ?_ _) | (with_reducible refine Kd.C_drew ?_))); (case side2 => exact (Kd.R_reads' HO104.out).2.1); rintro e w' ⟨rfl, ⟨nd, rfl⟩⟩; refine ⟨_, rfl, ?_⟩))
      go_ret
      exact ⟨by first | rfl | (simp [errW_none, errW_some] <;> rfl) | (simp [*, errW_none, errW_some] <;> rfl), by repeat (first | (with_reducible first | exact HB.out | apply below_alloc | apply pw_below_drewN | apply below_drew1) | exact HB.out)⟩
    · rw [if_neg c6] at H
      have c6b0 : (a1.toList == ([] : List UInt8)) = false := beq_eq_false_iff_ne.mpr c6
      have c6b1 : (a1.toList != ([] : List UInt8)) = true := bne_iff_ne.mpr c6
      replace H := Option.bind_eq_some_iff.mp H
      obtain ⟨t106, A100, H⟩ := H
      replace H : (if (t106.length : Int) = 1 then ((spec_Split.f k a2 58).bind fun t109 => (some ((t109.length : Int) == 1))) else (some false)) = some r := H
      have A10 := Aside0.mk A100
      clear A100
      by_cases c11 : (t106.length : Int) = 1
      · rw [if_pos c11] at H
        have c11b0 : ((t106.length : Int) == 1) = true := beq_iff_eq.mpr c11
        have c11b1 : ((t106.length : Int) != 1) = false := bne_eq_false_iff_eq.mpr c11
        clear c11
        replace H := Option.bind_eq_some_iff.mp H
        obtain ⟨t109, A120, H⟩ := H
        replace H : (some ((t109.length : Int) == 1)) = some r := H
        have A12 := Aside0.mk A120
        clear A120
        obtain rfl := Option.some.inj H
        go_enter Try.func5, Try.ntmps5
        go_wp2_with (first | ((with_reducible refine gate_dst (N := 7) rfl ?_); (try (refine gate_guard (by rfl) ?_; dsimp only)); refine Kd.R_lit Kd.string _ 9 ?hg (N := 7) ?hd (xs := ([(⟨#[]⟩ : ByteArray), (⟨#[104, 116, 116, 112]⟩ : ByteArray), (⟨#[104, 116, 116, 112, 115]⟩ : ByteArray)] : List ByteArray)) (inner := [.string (⟨#[]⟩ : ByteArray), .string (⟨#[104, 116, 116, 112]⟩ : ByteArray), .string (⟨#[104, 116, 116, 112, 115]⟩ : ByteArray)]) (ok := fun _ => True) (okp := fun _ => True) ?hr ?hp (fun _ hk => hk) trivial (Below.refl _ _) (Nat.le_refl _) (by simp) ?_; (case hd => rfl); (case hg => rfl); (case hr => first | (go_simp; done) | (go_simp; rfl)); (case hp => exact (Reps.one (show Kd.M Kd.string _ _ _ (⟨#[]⟩ : ByteArray) [.string (⟨#[]⟩ : ByteArray)] from rfl) (Reps.one (show Kd.M Kd.string _ _ _ (⟨#[104, 116, 116, 112]⟩ : ByteArray) [.string (⟨#[104, 116, 116, 112]⟩ : ByteArray)] from rfl) (Reps.one (show Kd.M Kd.string _ _ _ (⟨#[104, 116, 116, 112, 115]⟩ : ByteArray) [.string (⟨#[104, 116, 116, 112, 115]⟩ : ByteArray)] from rfl) (Reps.none _ _))))); intro v103 w13 ho14 hb hg_ hnew_; clear hg_ hnew_; (first | rw [← Ny102.out] at ho14 | (simp only [Int.reduceToNat] at ho14; rw [← Ny102.out] at ho14)); have n0_ := Aside0.mk (Kd.R_lower ho14 (below_size (by repeat (first | (with_reducible first | exact HB.out | apply below_alloc | apply pw_below_drewN | apply below_drew1) | exact HB.out)))); have n1_ := Aside0.mk (below_step (by repeat (first | (with_reducible first | exact HB.out | apply below_alloc | apply pw_below_drewN | apply below_drew1) | exact HB.out)) hb); clear HB; have HO104 := n0_; have HB := n1_; clear n0_ n1_; clear hb ho14; obtain ⟨Ao15, co15, eo15⟩ := Kd.R_slice HO104.out; subst eo15) | ((with_reducible refine gate_callee (f := 15) rfl ?_); refine goesL_ (some 9) rfl rfl Try.func15 (by kernel_rfl) rfl #[.slice Ao15 y102.length co15, .string a0] rfl (by (try simp only [List.map_toArray, List.map_cons, List.map_nil]); first | done | rfl | (simp only [List.length_drop, List.length_take]; rfl)) ?_; (with_reducible refine (spec_keyIn_string.calls k _ _ y102 a0 true _ ?side1 ?side2 A4.out).mono ?_); (case side1 => repeat (first | exact (Kd.R_reads' HO104.out).2.2 | (with_reducible refine Kd.C_alloc ?_ _) | (with_reducible refine Kd.C_drewN ?_ _) | (with_reducible refine Kd.C_drew ?_))); (case side2 => exact (Kd.R_reads' HO104.out).2.1); rintro e w' ⟨rfl, ⟨nd, rfl⟩⟩; refine ⟨_, rfl, ?_⟩) | (go_at_call 16; (with_reducible refine (spec_Split.calls k a1 58 t106 _ A10.out).mono ?_); rintro e w16 ⟨v107, rfl, ho0, hb⟩; have n0_ := Aside0.mk (Kd.R_elder' (by (with_reducible repeat (first | apply Kd.R_alloc | apply Kd.R_drewN | apply Kd.R_drew)); exact HO104.out) (Kd.R_base ho0) hb); have n1_ := Aside0.mk (Kd.R_lower (Kd.R_new' ho0 (Kd.R_lt (by (with_reducible repeat (first | apply Kd.R_alloc | apply Kd.R_drewN | apply Kd.R_drew)); exact HO104.out))) (below_size (by repeat (first | (with_reducible first | exact HB.out | apply below_alloc | apply pw_below_drewN | apply below_drew1) | exact HB.out)))); have n2_ := Aside0.mk (below_step (by repeat (first | (with_reducible first | exact HB.out | apply below_alloc | apply pw_below_drewN | apply below_drew1) | exact HB.out)) hb); clear HO104; clear HB; have HO104 := n0_; have HO108 := n1_; have HB := n2_; clear n0_ n1_ n2_; (try clear hb); (try clear hb2); (try clear hk); (try clear hi); (try clear ho0); obtain ⟨Ao17, co17, eo17⟩ := Kd.R_slice HO108.out; subst eo17) | (go_at_call 16; (with_reducible refine (spec_Split.calls k a2 58 t109 _ A12.out).mono ?_); rintro e w18 ⟨v110, rfl, ho0, hb⟩; have n0_ := Aside0.mk (Kd.R_elder' (by (with_reducible repeat (first | apply Kd.R_alloc | apply Kd.R_drewN | apply Kd.R_drew)); exact HO104.out) (Kd.R_base ho0) hb); have n1_ := Aside0.mk (Kd.R_elder' (by (with_reducible repeat (first | apply Kd.R_alloc | apply Kd.R_drewN | apply Kd.R_drew)); exact HO108.out) (Kd.R_base ho0) hb); have n2_ := Aside0.mk (Kd.R_lower (Kd.R_new' (Kd.R_new' ho0 (Kd.R_lt (by (with_reducible repeat (first | apply Kd.R_alloc | apply Kd.R_drewN | apply Kd.R_drew)); exact HO104.out))) (Kd.R_lt (by (with_reducible repeat (first | apply Kd.R_alloc | apply Kd.R_drewN | apply Kd.R_drew)); exact HO108.out))) (below_size (by repeat (first | (with_reducible first | exact HB.out | apply below_alloc | apply pw_below_drewN | apply below_drew1) | exact HB.out)))); have n3_ := Aside0.mk (below_step (by repeat (first | (with_reducible first | exact HB.out | apply below_alloc | apply pw_below_drewN | apply below_drew1) | exact HB.out)) hb); clear HO104; clear HO108; clear HB; have HO104 := n0_; have HO108 := n1_; have HO111 := n2_; have HB := n3_; clear n0_ n1_ n2_ n3_; (try clear hb); (try clear hb2); (try clear hk); (try clear hi); (try clear ho0); obtain ⟨Ao19, co19, eo19⟩ := Kd.R_slice HO111.out; subst eo19))
        go_ret
        exact ⟨by first | rfl | (simp [errW_none, errW_some] <;> rfl) | (simp [*, errW_none, errW_some] <;> rfl), by repeat (first | (with_reducible first | exact HB.out | apply below_alloc | apply pw_below_drewN | apply below_drew1) | exact HB.out)⟩
      · rw [if_neg c11] at H
        have c11b0 : ((t106.length : Int) == 1) = false := beq_eq_false_iff_ne.mpr c11
        have c11b1 : ((t106.length : Int) != 1) = true := bne_iff_ne.mpr c11
        obtain rfl := Option.some.inj H
        go_enter Try.func5, Try.ntmps5
        go_wp2_with (first | ((with_reducible refine gate_dst (N := 7) rfl ?_); (try (refine gate_guard (by rfl) ?_; dsimp only)); refine Kd.R_lit Kd.string _ 9 ?hg (N := 7) ?hd (xs := ([(⟨#[]⟩ : ByteArray), (⟨#[104, 116, 116, 112]⟩ : ByteArray), (⟨#[104, 116, 116, 112, 115]⟩ : ByteArray)] : List ByteArray)) (inner := [.string (⟨#[]⟩ : ByteArray), .string (⟨#[104, 116, 116, 112]⟩ : ByteArray), .string (⟨#[104, 116, 116, 112, 115]⟩ : ByteArray)]) (ok := fun _ => True) (okp := fun _ => True) ?hr ?hp (fun _ hk => hk) trivial (Below.refl _ _) (Nat.le_refl _) (by simp) ?_; (case hd => rfl); (case hg => rfl); (case hr => first | (go_simp; done) | (go_simp; rfl)); (case hp => exact (Reps.one (show Kd.M Kd.string _ _ _ (⟨#[]⟩ : ByteArray) [.string (⟨#[]⟩ : ByteArray)] from rfl) (Reps.one (show Kd.M Kd.string _ _ _ (⟨#[104, 116, 116, 112]⟩ : ByteArray) [.string (⟨#[104, 116, 116, 112]⟩ : ByteArray)] from rfl) (Reps.one (show Kd.M Kd.string _ _ _ (⟨#[104, 116, 116, 112, 115]⟩ : ByteArray) [.string (⟨#[104, 116, 116, 112, 115]⟩ : ByteArray)] from rfl) (Reps.none _ _))))); intro v103 w20 ho21 hb hg_ hnew_; clear hg_ hnew_; (first | rw [← Ny102.out] at ho21 | (simp only [Int.reduceToNat] at ho21; rw [← Ny102.out] at ho21)); have n0_ := Aside0.mk (Kd.R_lower ho21 (below_size (by repeat (first | (with_reducible first | exact HB.out | apply below_alloc | apply pw_below_drewN | apply below_drew1) | exact HB.out)))); have n1_ := Aside0.mk (below_step (by repeat (first | (with_reducible first | exact HB.out | apply below_alloc | apply pw_below_drewN | apply below_drew1) | exact HB.out)) hb); clear HB; have HO104 := n0_; have HB := n1_; clear n0_ n1_; clear hb ho21; obtain ⟨Ao22, co22, eo22⟩ := Kd.R_slice HO104.out; subst eo22) | ((with_reducible refine gate_callee (f := 15) rfl ?_); refine goesL_ (some 9) rfl rfl Try.func15 (by kernel_rfl) rfl #[.slice Ao22 y102.length co22, .string a0] rfl (by (try simp only [List.map_toArray, List.map_cons, List.map_nil]); first | done | rfl | (simp only [List.length_drop, List.length_take]; rfl)) ?_; (with_reducible refine (spec_keyIn_string.calls k _ _ y102 a0 true _ ?side1 ?side2 A4.out).mono ?_); (case side1 => repeat (first | exact (Kd.R_reads' HO104.out).2.2 | (with_reducible refine Kd.C_alloc ?_ _) | (with_reducible refine Kd.C_drewN ?_ _) | (with_reducible refine Kd.C_drew ?_))); (case side2 => exact (Kd.R_reads' HO104.out).2.1); rintro e w' ⟨rfl, ⟨nd, rfl⟩⟩; refine ⟨_, rfl, ?_⟩) | (go_at_call 16; (with_reducible refine (spec_Split.calls k a1 58 t106 _ A10.out).mono ?_); rintro e w23 ⟨v107, rfl, ho0, hb⟩; have n0_ := Aside0.mk (Kd.R_elder' (by (with_reducible repeat (first | apply Kd.R_alloc | apply Kd.R_drewN | apply Kd.R_drew)); exact HO104.out) (Kd.R_base ho0) hb); have n1_ := Aside0.mk (Kd.R_lower (Kd.R_new' ho0 (Kd.R_lt (by (with_reducible repeat (first | apply Kd.R_alloc | apply Kd.R_drewN | apply Kd.R_drew)); exact HO104.out))) (below_size (by repeat (first | (with_reducible first | exact HB.out | apply below_alloc | apply pw_below_drewN | apply below_drew1) | exact HB.out)))); have n2_ := Aside0.mk (below_step (by repeat (first | (with_reducible first | exact HB.out | apply below_alloc | apply pw_below_drewN | apply below_drew1) | exact HB.out)) hb); clear HO104; clear HB; have HO104 := n0_; have HO108 := n1_; have HB := n2_; clear n0_ n1_ n2_; (try clear hb); (try clear hb2); (try clear hk); (try clear hi); (try clear ho0); obtain ⟨Ao24, co24, eo24⟩ := Kd.R_slice HO108.out; subst eo24))
        go_ret
        exact ⟨by first | rfl | (simp [errW_none, errW_some] <;> rfl) | (simp [*, errW_none, errW_some] <;> rfl), by repeat (first | (with_reducible first | exact HB.out | apply below_alloc | apply pw_below_drewN | apply below_drew1) | exact HB.out)⟩
  · replace c5 := Bool.eq_false_iff.mpr c5
    subst c5
    have H1 : (some false) = some r := by rw [if_neg (show ¬ (false = true) by decide)] at H; exact H
    clear H
    have H := H1
    clear H1
    obtain rfl := Option.some.inj H
    go_enter Try.func5, Try.ntmps5
    go_wp2_with (first | ((with_reducible refine gate_dst (N := 7) rfl ?_); (try (refine gate_guard (by rfl) ?_; dsimp only)); refine Kd.R_lit Kd.string _ 9 ?hg (N := 7) ?hd (xs := ([(⟨#[]⟩ : ByteArray), (⟨#[104, 116, 116, 112]⟩ : ByteArray), (⟨#[104, 116, 116, 112, 115]⟩ : ByteArray)] : List ByteArray)) (inner := [.string (⟨#[]⟩ : ByteArray), .string (⟨#[104, 116, 116, 112]⟩ : ByteArray), .string (⟨#[104, 116, 116, 112, 115]⟩ : ByteArray)]) (ok := fun _ => True) (okp := fun _ => True) ?hr ?hp (fun _ hk => hk) trivial (Below.refl _ _) (Nat.le_refl _) (by simp) ?_; (case hd => rfl); (case hg => rfl); (case hr => first | (go_simp; done) | (go_simp; rfl)); (case hp => exact (Reps.one (show Kd.M Kd.string _ _ _ (⟨#[]⟩ : ByteArray) [.string (⟨#[]⟩ : ByteArray)] from rfl) (Reps.one (show Kd.M Kd.string _ _ _ (⟨#[104, 116, 116, 112]⟩ : ByteArray) [.string (⟨#[104, 116, 116, 112]⟩ : ByteArray)] from rfl) (Reps.one (show Kd.M Kd.string _ _ _ (⟨#[104, 116, 116, 112, 115]⟩ : ByteArray) [.string (⟨#[104, 116, 116, 112, 115]⟩ : ByteArray)] from rfl) (Reps.none _ _))))); intro v103 w25 ho26 hb hg_ hnew_; clear hg_ hnew_; (first | rw [← Ny102.out] at ho26 | (simp only [Int.reduceToNat] at ho26; rw [← Ny102.out] at ho26)); have n0_ := Aside0.mk (Kd.R_lower ho26 (below_size (by repeat (first | (with_reducible first | exact HB.out | apply below_alloc | apply pw_below_drewN | apply below_drew1) | exact HB.out)))); have n1_ := Aside0.mk (below_step (by repeat (first | (with_reducible first | exact HB.out | apply below_alloc | apply pw_below_drewN | apply below_drew1) | exact HB.out)) hb); clear HB; have HO104 := n0_; have HB := n1_; clear n0_ n1_; clear hb ho26; obtain ⟨Ao27, co27, eo27⟩ := Kd.R_slice HO104.out; subst eo27) | ((with_reducible refine gate_callee (f := 15) rfl ?_); refine goesL_ (some 9) rfl rfl Try.func15 (by kernel_rfl) rfl #[.slice Ao27 y102.length co27, .string a0] rfl (by (try simp only [List.map_toArray, List.map_cons, List.map_nil]); first | done | rfl | (simp only [List.length_drop, List.length_take]; rfl)) ?_; (with_reducible refine (spec_keyIn_string.calls k _ _ y102 a0 false _ ?side1 ?side2 A4.out).mono ?_); (case side1 => repeat (first | exact (Kd.R_reads' HO104.out).2.2 | (with_reducible refine Kd.C_alloc ?_ _) | (with_reducible refine Kd.C_drewN ?_ _) | (with_reducible refine Kd.C_drew ?_))); (case side2 => exact (Kd.R_reads' HO104.out).2.1); rintro e w' ⟨rfl, ⟨nd, rfl⟩⟩; refine ⟨_, rfl, ?_⟩))
    go_ret
    exact ⟨by first | rfl | (simp [errW_none, errW_some] <;> rfl) | (simp [*, errW_none, errW_some] <;> rfl), by repeat (first | (with_reducible first | exact HB.out | apply below_alloc | apply pw_below_drewN | apply below_drew1) | exact HB.out)⟩

/-! ### net_zzIndex: function 34 -/
def net_zzIndex.l0 : Nat → ByteArray → ByteArray → Int → Option (Int)
  | 0, _, _, _ => none
  | k + 1, x0, x1, x5 => if (wrap64 (x5 + (x1.size : Int))) ≤ (x0.size : Int) then (if 0 ≤ x5 then (if x5 ≤ (wrap64 (x5 + (x1.size : Int))) then (if (x0.extract (x5 : Int).toNat ((wrap64 (x5 + (x1.size : Int))) : Int).toNat).toList = x1.toList then (some x5) else (net_zzIndex.l0 k x0 x1 (wrap64 (x5 + 1)))) else (none)) else (none)) else (some (-1))
def net_zzIndex.f (k : Nat) (a0 : ByteArray) (a1 : ByteArray) : Option (Int) := net_zzIndex.l0 k a0 a1 0
theorem net_zzIndex.mono_l : ∀ k, (∀ y0 y1 y2, LeO (net_zzIndex.l0 k y0 y1 y2) (net_zzIndex.l0 (k + 1) y0 y1 y2))
  | 0 => fun _ _ _ r h => by simp [net_zzIndex.l0] at h
  | k + 1 => by
    have ih0 := net_zzIndex.mono_l k
    · intro y0 y1 y2
      unfold net_zzIndex.l0
      repeat' first
      | (with_reducible exact ih0 _ _ _)
      | (with_reducible exact LeO.refl _)
      | (with_reducible exact LeO.none _)
      | (with_reducible refine LeO.ite ?_ ?_)
      | (with_reducible refine LeO.bind ?_ (fun _ => ?_))
      | exact ih0 _ _ _
      | exact LeO.none _
      | refine LeO.ite ?_ ?_
      | refine LeO.bind ?_ (fun _ => ?_)
theorem net_zzIndex.mono : ∀ a0 a1 k, LeO (net_zzIndex.f k a0 a1) (net_zzIndex.f (k + 1) a0 a1) := by
  intro a0 a1 k
  have ih0 := net_zzIndex.mono_l k
  unfold net_zzIndex.f
  repeat' first
      | (with_reducible exact ih0 _ _ _)
      | (with_reducible exact LeO.refl _)
      | (with_reducible exact LeO.none _)
      | (with_reducible refine LeO.ite ?_ ?_)
      | (with_reducible refine LeO.bind ?_ (fun _ => ?_))
      | exact ih0 _ _ _
      | exact LeO.none _
      | refine LeO.ite ?_ ?_
      | refine LeO.bind ?_ (fun _ => ?_)
set_option maxHeartbeats 8000000 in
set_option maxRecDepth 100000 in
theorem net_zzIndex.calls (k : Nat) (a0 : ByteArray) (a1 : ByteArray) (r : Int) (w : World) (h : net_zzIndex.f k a0 a1 = some r) :
    Calls Try.prog 34 #[.string a0, .string a1] w fun e w' => e = .returned (.int .i64 r) ∧ Drawn0 w w' := by
  have H : (net_zzIndex.l0 k a0 a1 0) = some r := h
  clear h
  have H' := Aside0.mk H
  clear H
  go_enter Try.func34, Try.ntmps34
  go_wp2
  go_loopg [5] k (fun kq v5 w' => ∃ (x5_1 : Int), v5 = .int .i64 x5_1 ∧ Aside0 (net_zzIndex.l0 kq a0 a1 x5_1 = some r) ∧ Aside0 (kq ≤ k) ∧ Drawn0 w w')
  case atStart => exact ⟨(0), (by first | rfl | (simp; done) | (simp [*]; done)), H', ⟨Nat.le_refl _⟩, by repeat (first | exact Drawn0.refl _ | apply Drawn0.step)⟩
  case round =>
    clear H'
    try clear p2
    obtain ⟨x5_1, rfl, HA, HK1, ⟨m1, rfl⟩⟩ := hrel
    cases gk with
    | zero => exact absurd HA.out (by simp [net_zzIndex.l0])
    | succ k1 =>
      have H := HA.out
      clear HA
      simp only [net_zzIndex.l0] at H
      by_cases c3 : (wrap64 (x5_1 + (a1.size : Int))) ≤ (a0.size : Int)
      · rw [if_pos c3] at H
        have c3b0 : decide ((wrap64 (x5_1 + (a1.size : Int))) ≤ (a0.size : Int)) = true := decide_eq_true c3
        clear c3
        by_cases c4 : 0 ≤ x5_1
        · rw [if_pos c4] at H
          have c4b0 := eq_true c4
          have c4b1 : decide (0 ≤ x5_1) = true := decide_eq_true c4
          clear c4
          by_cases c5 : x5_1 ≤ (wrap64 (x5_1 + (a1.size : Int)))
          · rw [if_pos c5] at H
            have c5b0 := eq_true c5
            have c5b1 : decide (x5_1 ≤ (wrap64 (x5_1 + (a1.size : Int)))) = true := decide_eq_true c5
            have c6b0 := eq_true (of_decide_eq_true (by first | (with_reducible assumption) | assumption) : (wrap64 (x5_1 + (a1.size : Int))) ≤ (a0.size : Int))
            by_cases c7 : (a0.extract (x5_1 : Int).toNat ((wrap64 (x5_1 + (a1.size : Int))) : Int).toNat).toList = a1.toList
            · rw [if_pos c7] at H
              have c7b0 : ((a0.extract (x5_1 : Int).toNat ((wrap64 (x5_1 + (a1.size : Int))) : Int).toNat).toList == a1.toList) = true := beq_iff_eq.mpr c7
              have c7b1 : ((a0.extract (x5_1 : Int).toNat ((wrap64 (x5_1 + (a1.size : Int))) : Int).toNat).toList != a1.toList) = false := bne_eq_false_iff_eq.mpr c7
              clear c7
              obtain rfl := Option.some.inj H
              go_wp2
              go_ret
              exact ⟨by first | rfl | (simp; done) | (simp [*]; done), by repeat (first | exact Drawn0.refl _ | apply Drawn0.step)⟩
            · rw [if_neg c7] at H
              have c7b0 : ((a0.extract (x5_1 : Int).toNat ((wrap64 (x5_1 + (a1.size : Int))) : Int).toNat).toList == a1.toList) = false := beq_eq_false_iff_ne.mpr c7
              have c7b1 : ((a0.extract (x5_1 : Int).toNat ((wrap64 (x5_1 + (a1.size : Int))) : Int).toNat).toList != a1.toList) = true := bne_iff_ne.mpr c7
              have H' := Aside0.mk H
              clear H
              go_wp2
              go_roundg k1
              case measure => have := HK1.out; omega
              case rel => exact ⟨(wrap64 (x5_1 + 1)), (by first | rfl | (simp; done) | (simp [*]; done)), H', ⟨by have := HK1.out; omega⟩, by repeat (first | exact Drawn0.refl _ | apply Drawn0.step)⟩
          · rw [if_neg c5] at H
            exact absurd H (by simp)
        · rw [if_neg c4] at H
          exact absurd H (by simp)
      · rw [if_neg c3] at H
        have c3b0 : decide ((wrap64 (x5_1 + (a1.size : Int))) ≤ (a0.size : Int)) = false := decide_eq_false c3
        clear c3
        obtain rfl := Option.some.inj H
        go_wp2
        go_ret
        exact ⟨by first | rfl | (simp; done) | (simp [*]; done), by repeat (first | exact Drawn0.refl _ | apply Drawn0.step)⟩

/-! ### net_zzSplit: function 28 -/
def net_zzSplit.l1 : Nat → ByteArray → ByteArray → List ByteArray → Option (List ByteArray)
  | 0, _, _, _ => none
  | k + 1, x0, x1, x5 => (net_zzIndex.f k x0 x1).bind fun t112 => (if t112 < 0 then (if x5.length < 8796093022208 then (some (x5 ++ [x0])) else (none)) else (if 0 ≤ t112 then (if t112 ≤ (x0.size : Int) then (if x5.length < 8796093022208 then (if 0 ≤ (wrap64 (t112 + (x1.size : Int))) then (if (wrap64 (t112 + (x1.size : Int))) ≤ (x0.size : Int) then (net_zzSplit.l1 k (x0.extract ((wrap64 (t112 + (x1.size : Int))) : Int).toNat x0.size) x1 (x5 ++ [x0.extract 0 (t112 : Int).toNat])) else (none)) else (none)) else (none)) else (none)) else (none)))
def net_zzSplit.f (k : Nat) (a0 : ByteArray) (a1 : ByteArray) : Option (List ByteArray) := if (a1.size : Int) = 0 then (none) else (net_zzSplit.l1 k a0 a1 ([] : List ByteArray))
theorem net_zzSplit.mono_l : ∀ k, (∀ y0 y1 y2, LeO (net_zzSplit.l1 k y0 y1 y2) (net_zzSplit.l1 (k + 1) y0 y1 y2))
  | 0 => fun _ _ _ r h => by simp [net_zzSplit.l1] at h
  | k + 1 => by
    have ih0 := net_zzSplit.mono_l k
    · intro y0 y1 y2
      unfold net_zzSplit.l1
      repeat' first
      | (with_reducible exact ih0 _ _ _)
      | (with_reducible exact net_zzIndex.mono _ _ _)
      | (with_reducible exact LeO.refl _)
      | (with_reducible exact LeO.none _)
      | (with_reducible refine LeO.ite ?_ ?_)
      | (with_reducible refine LeO.bind ?_ (fun _ => ?_))
      | exact ih0 _ _ _
      | exact net_zzIndex.mono _ _ _
      | exact LeO.none _
      | refine LeO.ite ?_ ?_
      | refine LeO.bind ?_ (fun _ => ?_)
theorem net_zzSplit.mono : ∀ a0 a1 k, LeO (net_zzSplit.f k a0 a1) (net_zzSplit.f (k + 1) a0 a1) := by
  intro a0 a1 k
  have ih0 := net_zzSplit.mono_l k
  unfold net_zzSplit.f
  repeat' first
      | (with_reducible exact ih0 _ _ _)
      | (with_reducible exact net_zzIndex.mono _ _ _)
      | (with_reducible exact LeO.refl _)
      | (with_reducible exact LeO.none _)
      | (with_reducible refine LeO.ite ?_ ?_)
      | (with_reducible refine LeO.bind ?_ (fun _ => ?_))
      | exact ih0 _ _ _
      | exact net_zzIndex.mono _ _ _
      | exact LeO.none _
      | refine LeO.ite ?_ ?_
      | refine LeO.bind ?_ (fun _ => ?_)
set_option maxHeartbeats 8000000 in
set_option maxRecDepth 100000 in
theorem net_zzSplit.calls (k : Nat) (a0 : ByteArray) (a1 : ByteArray) (r : List ByteArray) (w : World) (h : net_zzSplit.f k a0 a1 = some r) :
    Calls Try.prog 28 #[.string a0, .string a1] w fun e w' => ∃ v0_ : Value, e = .returned (v0_) ∧ Kd.R Kd.string 9 w' w.heap.size (fun _ => True) v0_ r ∧ Below w.heap.size w w' := by
  have HB := Aside0.mk (Below.refl w.heap.size w)
  have H : (if (a1.size : Int) = 0 then (none) else (net_zzSplit.l1 k a0 a1 ([] : List ByteArray))) = some r := h
  clear h
  by_cases c3 : (a1.size : Int) = 0
  · rw [if_pos c3] at H
    exact absurd H (by simp)
  · rw [if_neg c3] at H
    have c3b0 : ((a1.size : Int) == 0) = false := beq_eq_false_iff_ne.mpr c3
    have c3b1 : ((a1.size : Int) != 0) = true := bne_iff_ne.mpr c3
    have H' := Aside0.mk H
    clear H
    go_enter Try.func28, Try.ntmps28
    go_wp2
    go_loopg [0, 5] k (fun kq v0 v5 w' => ∃ (x0_1 : ByteArray) (x5_1 : List ByteArray), v0 = .string x0_1 ∧ Aside0 (net_zzSplit.l1 kq x0_1 a1 x5_1 = some r) ∧ Aside0 (kq ≤ k) ∧ Aside0 (Kd.R Kd.string 9 w' w.heap.size (fun _ => True) v5 x5_1) ∧ Aside0 (Below w.heap.size w w'))
    case atStart => exact ⟨(a0), (([] : List ByteArray)), (by first | rfl | (simp; done) | (simp [*]; done)), H', ⟨Nat.le_refl _⟩, ⟨by first | exact Kd.R_nil _ _ _ _ _ | exact Kd.N_nil _ _ _ _ _ | exact Kd.V_nil _ _ _ _ _ | exact Kd.Q_nil _ _ _ _ _ | exact Kd.S_nil _ _ _ _ _⟩, ⟨by repeat (first | (with_reducible first | exact HB.out | apply below_alloc | apply pw_below_drewN | apply below_drew1) | exact HB.out)⟩⟩
    case round =>
      clear H'
      try clear c2
      try clear p2
      try clear c3
      try clear c3b0
      try clear c3b1
      obtain ⟨x0_1, x5_1, rfl, HA, HK1, HO_5, HB⟩ := hrel
      cases gk with
      | zero => exact absurd HA.out (by simp [net_zzSplit.l1])
      | succ k1 =>
        have H := HA.out
        clear HA
        simp only [net_zzSplit.l1] at H
        replace H := Option.bind_eq_some_iff.mp H
        obtain ⟨t112, A40, H⟩ := H
        replace H : (if t112 < 0 then (if x5_1.length < 8796093022208 then (some (x5_1 ++ [x0_1])) else (none)) else (if 0 ≤ t112 then (if t112 ≤ (x0_1.size : Int) then (if x5_1.length < 8796093022208 then (if 0 ≤ (wrap64 (t112 + (a1.size : Int))) then (if (wrap64 (t112 + (a1.size : Int))) ≤ (x0_1.size : Int) then (net_zzSplit.l1 k1 (x0_1.extract ((wrap64 (t112 + (a1.size : Int))) : Int).toNat x0_1.size) a1 (x5_1 ++ [x0_1.extract 0 (t112 : Int).toNat])) else (none)) else (none)) else (none)) else (none)) else (none))) = some r := H
        have A4 := Aside0.mk A40
        clear A40
        by_cases c5 : t112 < 0
        · rw [if_pos c5] at H
          have c5b0 : decide (t112 < 0) = true := decide_eq_true c5
          clear c5
          by_cases c6 : x5_1.length < 8796093022208
          · rw [if_pos c6] at H
            have LMc6 := Aside0.mk c6
            clear c6
            obtain ⟨y113, hy113⟩ : ∃ y_ : List ByteArray, y_ = (x5_1 ++ [x0_1]) := ⟨_, rfl⟩
            replace H : (some y113) = some r := by first | (rw [hy113]; with_reducible exact H) | (have H2_ := (Option.bind_some _ _).symm.trans H; rw [hy113]; with_reducible exact H2_) | (have H2_ := (Option.bind_some _ _).symm.trans H; with_reducible exact H2_) | with_reducible exact H | (rw [hy113]; exact H) | exact H
            have Ny113 := Aside0.mk hy113
            clear hy113
            obtain rfl := Option.some.inj H
            go_wp2_with (first | ((with_reducible refine gate_callee (f := 34) rfl ?_); refine goesL_ (some 39) rfl rfl Try.func34 (by kernel_rfl) rfl #[.string x0_1, .string a1] rfl (by (try simp only [List.map_toArray, List.map_cons, List.map_nil]); first | done | rfl | (simp only [List.length_drop, List.length_take]; rfl)) ?_; (with_reducible refine (net_zzIndex.calls k1 x0_1 a1 t112 _ A4.out).mono ?_); rintro e w' ⟨rfl, ⟨nd, rfl⟩⟩; refine ⟨_, rfl, ?_⟩) | ((with_reducible refine gate_builtin (b := .append) (xs := #[.tmp 42, .tmp 44]) rfl ?_); at_builtin; refine Kd.R_append Kd.string (w0 := w) w.heap.size rfl (.tmp 42) (.tmp 44) 22 9 (.string ⟨#[]⟩) 16 rfl Try.underlying22 info9 rfl (by decide) (by omega) u5 x5_1 x0_1 [.string x0_1] (fun _ => True) (fun _ => False) rfl rfl ?aP (fun _ hk => hk.elim) ?aF ?aO ?aB ?aS ?aL ?_; (case aP => exact rfl); (case aB => exact (by repeat (first | (with_reducible first | exact HB.out | apply below_alloc | apply pw_below_drewN | apply below_drew1) | exact HB.out))); (case aF => exact (fun _ _ => trivial)); (case aO => exact (by (with_reducible repeat (first | apply Kd.R_alloc | apply Kd.R_drewN | apply Kd.R_drew)); exact HO_5.out)); (case aS => exact (below_size (by repeat (first | (with_reducible first | exact HB.out | apply below_alloc | apply pw_below_drewN | apply below_drew1) | exact HB.out)))); (case aL => have := LMc6.out; omega); intro v114 w7 ho hb hg hat; rw [← Ny113.out] at ho; have n0_ := Aside0.mk (hb); have n1_ := Aside0.mk (ho); clear HB; clear HO_5; have HB := n0_; have HO115 := n1_; clear n0_ n1_; clear ho hb hg hat))
            go_ret
            exact ⟨_, by first | rfl | (simp [errW_none, errW_some] <;> rfl) | (simp [*, errW_none, errW_some] <;> rfl), by (with_reducible repeat (first | apply Kd.R_alloc | apply Kd.R_drewN | apply Kd.R_drew)); exact HO115.out, by repeat (first | (with_reducible first | exact HB.out | apply below_alloc | apply pw_below_drewN | apply below_drew1) | exact HB.out)⟩
          · rw [if_neg c6] at H
            exact absurd H (by simp)
        · rw [if_neg c5] at H
          have c5b0 : decide (t112 < 0) = false := decide_eq_false c5
          clear c5
          by_cases c8 : 0 ≤ t112
          · rw [if_pos c8] at H
            have c8b0 := eq_true c8
            have c8b1 : decide (0 ≤ t112) = true := decide_eq_true c8
            clear c8
            by_cases c9 : t112 ≤ (x0_1.size : Int)
            · rw [if_pos c9] at H
              have c9b0 := eq_true c9
              have c9b1 : decide (t112 ≤ (x0_1.size : Int)) = true := decide_eq_true c9
              clear c9
              by_cases c10 : x5_1.length < 8796093022208
              · rw [if_pos c10] at H
                have LMc10 := Aside0.mk c10
                clear c10
                obtain ⟨y116, hy116⟩ : ∃ y_ : List ByteArray, y_ = (x5_1 ++ [x0_1.extract 0 (t112 : Int).toNat]) := ⟨_, rfl⟩
                replace H : (if 0 ≤ (wrap64 (t112 + (a1.size : Int))) then (if (wrap64 (t112 + (a1.size : Int))) ≤ (x0_1.size : Int) then (net_zzSplit.l1 k1 (x0_1.extract ((wrap64 (t112 + (a1.size : Int))) : Int).toNat x0_1.size) a1 y116) else (none)) else (none)) = some r := by first | (rw [hy116]; with_reducible exact H) | (have H2_ := (Option.bind_some _ _).symm.trans H; rw [hy116]; with_reducible exact H2_) | (have H2_ := (Option.bind_some _ _).symm.trans H; with_reducible exact H2_) | with_reducible exact H | (rw [hy116]; exact H) | exact H
                have Ny116 := Aside0.mk hy116
                clear hy116
                obtain ⟨ji11, hji11⟩ : ∃ j_ : Int, (wrap64 (t112 + (a1.size : Int))) = j_ := ⟨_, rfl⟩
                replace H : (if 0 ≤ (ji11) then (if (ji11) ≤ (x0_1.size : Int) then (net_zzSplit.l1 k1 (x0_1.extract ((ji11) : Int).toNat x0_1.size) a1 y116) else (none)) else (none)) = some r := by first | (rw [hji11] at H; exact H) | (simp only [hji11] at H ⊢; exact H)
                (try rw [hji11] at A4)
                have hji11w : (IntKind.i64.wrap (t112 + (a1.size : Int))) = ji11 := (i64_w _).trans hji11
                by_cases c12 : 0 ≤ (ji11)
                · rw [if_pos c12] at H
                  have c12b0 := eq_true c12
                  have c12b1 : decide (0 ≤ (ji11)) = true := decide_eq_true c12
                  clear c12
                  by_cases c13 : (ji11) ≤ (x0_1.size : Int)
                  · rw [if_pos c13] at H
                    have c13b0 := eq_true c13
                    have c13b1 : decide ((ji11) ≤ (x0_1.size : Int)) = true := decide_eq_true c13
                    clear c13
                    have H' := Aside0.mk H
                    clear H
                    go_wp2_with (first | ((with_reducible refine gate_callee (f := 34) rfl ?_); refine goesL_ (some 39) rfl rfl Try.func34 (by kernel_rfl) rfl #[.string x0_1, .string a1] rfl (by (try simp only [List.map_toArray, List.map_cons, List.map_nil]); first | done | rfl | (simp only [List.length_drop, List.length_take]; rfl)) ?_; (with_reducible refine (net_zzIndex.calls k1 x0_1 a1 t112 _ A4.out).mono ?_); rintro e w' ⟨rfl, ⟨nd, rfl⟩⟩; refine ⟨_, rfl, ?_⟩) | ((with_reducible refine gate_builtin (b := .append) (xs := #[.tmp 46, .tmp 50]) rfl ?_); at_builtin; refine Kd.R_append Kd.string (w0 := w) w.heap.size rfl (.tmp 46) (.tmp 50) 22 9 (.string ⟨#[]⟩) 16 rfl Try.underlying22 info9 rfl (by decide) (by omega) u5 x5_1 (x0_1.extract 0 (t112 : Int).toNat) [.string (x0_1.extract 0 (t112 : Int).toNat)] (fun _ => True) (fun _ => False) rfl rfl ?aP (fun _ hk => hk.elim) ?aF ?aO ?aB ?aS ?aL ?_; (case aP => exact rfl); (case aB => exact (by repeat (first | (with_reducible first | exact HB.out | apply below_alloc | apply pw_below_drewN | apply below_drew1) | exact HB.out))); (case aF => exact (fun _ _ => trivial)); (case aO => exact (by (with_reducible repeat (first | apply Kd.R_alloc | apply Kd.R_drewN | apply Kd.R_drew)); exact HO_5.out)); (case aS => exact (below_size (by repeat (first | (with_reducible first | exact HB.out | apply below_alloc | apply pw_below_drewN | apply below_drew1) | exact HB.out)))); (case aL => have := LMc10.out; omega); intro v117 w14 ho hb hg hat; rw [← Ny116.out] at ho; have n0_ := Aside0.mk (hb); have n1_ := Aside0.mk (ho); clear HB; clear HO_5; have HB := n0_; have HO118 := n1_; clear n0_ n1_; clear ho hb hg hat))
                    go_roundg k1
                    case measure => have := HK1.out; omega
                    case rel => exact ⟨(x0_1.extract ((ji11) : Int).toNat x0_1.size), (y116), (by first | rfl | (simp; done) | (simp only [← hji11] <;> (first | rfl | simp)) | (simp [*]; done)), H', ⟨by have := HK1.out; omega⟩, ⟨by (with_reducible repeat (first | apply Kd.R_alloc | apply Kd.R_drewN | apply Kd.R_drew)); exact HO118.out⟩, ⟨by repeat (first | (with_reducible first | exact HB.out | apply below_alloc | apply pw_below_drewN | apply below_drew1) | exact HB.out)⟩⟩
                  · rw [if_neg c13] at H
                    exact absurd H (by simp)
                · rw [if_neg c12] at H
                  exact absurd H (by simp)
              · rw [if_neg c10] at H
                exact absurd H (by simp)
            · rw [if_neg c9] at H
              exact absurd H (by simp)
          · rw [if_neg c8] at H
            exact absurd H (by simp)

/-! ### net_SplitSchemeNamePort: function 17 -/
def net_SplitSchemeNamePort.f (k : Nat) (a0 : ByteArray) : Option (ByteArray × ByteArray × ByteArray × Bool) := (net_zzSplit.f k a0 (⟨#[58]⟩ : ByteArray)).bind fun t119 => (if (t119.length : Int) = 1 then (if 0 < (t119.length : Int) then (if ((rdOf ByteArray.empty t119 0).size : Int) > 0 then (if ([] : List UInt8) = ([104, 116, 116, 112] : List UInt8) then (some ((⟨#[]⟩ : ByteArray), rdOf ByteArray.empty t119 0, (⟨#[]⟩ : ByteArray), true)) else (if ([] : List UInt8) = ([104, 116, 116, 112, 115] : List UInt8) then (some ((⟨#[]⟩ : ByteArray), rdOf ByteArray.empty t119 0, (⟨#[]⟩ : ByteArray), true)) else (if ([] : List UInt8) = ([] : List UInt8) then (some ((⟨#[]⟩ : ByteArray), rdOf ByteArray.empty t119 0, (⟨#[]⟩ : ByteArray), true)) else (some ((⟨#[]⟩ : ByteArray), (⟨#[]⟩ : ByteArray), (⟨#[]⟩ : ByteArray), false))))) else (some ((⟨#[]⟩ : ByteArray), (⟨#[]⟩ : ByteArray), (⟨#[]⟩ : ByteArray), false))) else (none)) else (if (t119.length : Int) = 2 then (if 0 < (t119.length : Int) then (if 1 < (t119.length : Int) then (if ((rdOf ByteArray.empty t119 0).size : Int) > 0 then (if ([] : List UInt8) = ([104, 116, 116, 112] : List UInt8) then (some ((⟨#[]⟩ : ByteArray), rdOf ByteArray.empty t119 0, rdOf ByteArray.empty t119 1, true)) else (if ([] : List UInt8) = ([104, 116, 116, 112, 115] : List UInt8) then (some ((⟨#[]⟩ : ByteArray), rdOf ByteArray.empty t119 0, rdOf ByteArray.empty t119 1, true)) else (if ([] : List UInt8) = ([] : List UInt8) then (some ((⟨#[]⟩ : ByteArray), rdOf ByteArray.empty t119 0, rdOf ByteArray.empty t119 1, true)) else (some ((⟨#[]⟩ : ByteArray), (⟨#[]⟩ : ByteArray), (⟨#[]⟩ : ByteArray), false))))) else (some ((⟨#[]⟩ : ByteArray), (⟨#[]⟩ : ByteArray), (⟨#[]⟩ : ByteArray), false))) else (none)) else (none)) else (if (t119.length : Int) = 3 then (if 0 < (t119.length : Int) then (if 1 < (t119.length : Int) then (if 2 < (t119.length : Int) then (if ((rdOf ByteArray.empty t119 1).size : Int) > 0 then (if (rdOf ByteArray.empty t119 0).toList = ([104, 116, 116, 112] : List UInt8) then (some (rdOf ByteArray.empty t119 0, rdOf ByteArray.empty t119 1, rdOf ByteArray.empty t119 2, true)) else (if (rdOf ByteArray.empty t119 0).toList = ([104, 116, 116, 112, 115] : List UInt8) then (some (rdOf ByteArray.empty t119 0, rdOf ByteArray.empty t119 1, rdOf ByteArray.empty t119 2, true)) else (if (rdOf ByteArray.empty t119 0).toList = ([] : List UInt8) then (some (rdOf ByteArray.empty t119 0, rdOf ByteArray.empty t119 1, rdOf ByteArray.empty t119 2, true)) else (some ((⟨#[]⟩ : ByteArray), (⟨#[]⟩ : ByteArray), (⟨#[]⟩ : ByteArray), false))))) else (some ((⟨#[]⟩ : ByteArray), (⟨#[]⟩ : ByteArray), (⟨#[]⟩ : ByteArray), false))) else (none)) else (none)) else (none)) else (some ((⟨#[]⟩ : ByteArray), (⟨#[]⟩ : ByteArray), (⟨#[]⟩ : ByteArray), false)))))
theorem net_SplitSchemeNamePort.mono : ∀ a0 k, LeO (net_SplitSchemeNamePort.f k a0) (net_SplitSchemeNamePort.f (k + 1) a0) := by
  intro a0 k
  unfold net_SplitSchemeNamePort.f
  repeat' first
      | (with_reducible exact net_zzSplit.mono _ _ _)
      | (with_reducible exact LeO.refl _)
      | (with_reducible exact LeO.none _)
      | (with_reducible refine LeO.ite ?_ ?_)
      | (with_reducible refine LeO.bind ?_ (fun _ => ?_))
      | exact net_zzSplit.mono _ _ _
      | exact LeO.none _
      | refine LeO.ite ?_ ?_
      | refine LeO.bind ?_ (fun _ => ?_)
set_option maxHeartbeats 8000000 in
set_option maxRecDepth 100000 in
theorem net_SplitSchemeNamePort.calls (k : Nat) (a0 : ByteArray) (r1 : ByteArray) (r2 : ByteArray) (r3 : ByteArray) (r4 : Bool) (w : World) (h : net_SplitSchemeNamePort.f k a0 = some (r1, r2, r3, r4)) :
    Calls Try.prog 17 #[.string a0] w fun e w' => e = .returned (.tuple #[.string r1, .string r2, .string r3, .bool r4]) ∧ Below w.heap.size w w' := by
  have HB := Aside0.mk (Below.refl w.heap.size w)
  have H : ((net_zzSplit.f k a0 (⟨#[58]⟩ : ByteArray)).bind fun t119 => (if (t119.length : Int) = 1 then (if 0 < (t119.length : Int) then (if ((rdOf ByteArray.empty t119 0).size : Int) > 0 then (if ([] : List UInt8) = ([104, 116, 116, 112] : List UInt8) then (some ((⟨#[]⟩ : ByteArray), rdOf ByteArray.empty t119 0, (⟨#[]⟩ : ByteArray), true)) else (if ([] : List UInt8) = ([104, 116, 116, 112, 115] : List UInt8) then (some ((⟨#[]⟩ : ByteArray), rdOf ByteArray.empty t119 0, (⟨#[]⟩ : ByteArray), true)) else (if ([] : List UInt8) = ([] : List UInt8) then (some ((⟨#[]⟩ : ByteArray), rdOf ByteArray.empty t119 0, (⟨#[]⟩ : ByteArray), true)) else (some ((⟨#[]⟩ : ByteArray), (⟨#[]⟩ : ByteArray), (⟨#[]⟩ : ByteArray), false))))) else (some ((⟨#[]⟩ : ByteArray), (⟨#[]⟩ : ByteArray), (⟨#[]⟩ : ByteArray), false))) else (none)) else (if (t119.length : Int) = 2 then (if 0 < (t119.length : Int) then (if 1 < (t119.length : Int) then (if ((rdOf ByteArray.empty t119 0).size : Int) > 0 then (if ([] : List UInt8) = ([104, 116, 116, 112] : List UInt8) then (some ((⟨#[]⟩ : ByteArray), rdOf ByteArray.empty t119 0, rdOf ByteArray.empty t119 1, true)) else (if ([] : List UInt8) = ([104, 116, 116, 112, 115] : List UInt8) then (some ((⟨#[]⟩ : ByteArray), rdOf ByteArray.empty t119 0, rdOf ByteArray.empty t119 1, true)) else (if ([] : List UInt8) = ([] : List UInt8) then (some ((⟨#[]⟩ : ByteArray), rdOf ByteArray.empty t119 0, rdOf ByteArray.empty t119 1, true)) else (some ((⟨#[]⟩ : ByteArray), (⟨#[]⟩ : ByteArray), (⟨#[]⟩ : ByteArray), false))))) else (some ((⟨#[]⟩ : ByteArray), (⟨#[]⟩ : ByteArray), (⟨#[]⟩ : ByteArray), false))) else (none)) else (none)) else (if (t119.length : Int) = 3 then (if 0 < (t119.length : Int) then (if 1 < (t119.length : Int) then (if 2 < (t119.length : Int) then (if ((rdOf ByteArray.empty t119 1).size : Int) > 0 then (if (rdOf ByteArray.empty t119 0).toList = ([104, 116, 116, 112] : List UInt8) then (some (rdOf ByteArray.empty t119 0, rdOf ByteArray.empty t119 1, rdOf ByteArray.empty t119 2, true)) else (if (rdOf ByteArray.empty t119 0).toList = ([104, 116, 116, 112, 115] : List UInt8) then (some (rdOf ByteArray.empty t119 0, rdOf ByteArray.empty t119 1, rdOf ByteArray.empty t119 2, true)) else (if (rdOf ByteArray.empty t119 0).toList = ([] : List UInt8) then (some (rdOf ByteArray.empty t119 0, rdOf ByteArray.empty t119 1, rdOf ByteArray.empty t119 2, true)) else (some ((⟨#[]⟩ : ByteArray), (⟨#[]⟩ : ByteArray), (⟨#[]⟩ : ByteArray), false))))) else (some ((⟨#[]⟩ : ByteArray), (⟨#[]⟩ : ByteArray), (⟨#[]⟩ : ByteArray), false))) else (none)) else (none)) else (none)) else (some ((⟨#[]⟩ : ByteArray), (⟨#[]⟩ : ByteArray), (⟨#[]⟩ : ByteArray), false)))))) = some (r1, r2, r3, r4) := h
  clear h
  replace H := Option.bind_eq_some_iff.mp H
  obtain ⟨t119, A20, H⟩ := H
  replace H : (if (t119.length : Int) = 1 then (if 0 < (t119.length : Int) then (if ((rdOf ByteArray.empty t119 0).size : Int) > 0 then (if ([] : List UInt8) = ([104, 116, 116, 112] : List UInt8) then (some ((⟨#[]⟩ : ByteArray), rdOf ByteArray.empty t119 0, (⟨#[]⟩ : ByteArray), true)) else (if ([] : List UInt8) = ([104, 116, 116, 112, 115] : List UInt8) then (some ((⟨#[]⟩ : ByteArray), rdOf ByteArray.empty t119 0, (⟨#[]⟩ : ByteArray), true)) else (if ([] : List UInt8) = ([] : List UInt8) then (some ((⟨#[]⟩ : ByteArray), rdOf ByteArray.empty t119 0, (⟨#[]⟩ : ByteArray), true)) else (some ((⟨#[]⟩ : ByteArray), (⟨#[]⟩ : ByteArray), (⟨#[]⟩ : ByteArray), false))))) else (some ((⟨#[]⟩ : ByteArray), (⟨#[]⟩ : ByteArray), (⟨#[]⟩ : ByteArray), false))) else (none)) else (if (t119.length : Int) = 2 then (if 0 < (t119.length : Int) then (if 1 < (t119.length : Int) then (if ((rdOf ByteArray.empty t119 0).size : Int) > 0 then (if ([] : List UInt8) = ([104, 116, 116, 112] : List UInt8) then (some ((⟨#[]⟩ : ByteArray), rdOf ByteArray.empty t119 0, rdOf ByteArray.empty t119 1, true)) else (if ([] : List UInt8) = ([104, 116, 116, 112, 115] : List UInt8) then (some ((⟨#[]⟩ : ByteArray), rdOf ByteArray.empty t119 0, rdOf ByteArray.empty t119 1, true)) else (if ([] : List UInt8) = ([] : List UInt8) then (some ((⟨#[]⟩ : ByteArray), rdOf ByteArray.empty t119 0, rdOf ByteArray.empty t119 1, true)) else (some ((⟨#[]⟩ : ByteArray), (⟨#[]⟩ : ByteArray), (⟨#[]⟩ : ByteArray), false))))) else (some ((⟨#[]⟩ : ByteArray), (⟨#[]⟩ : ByteArray), (⟨#[]⟩ : ByteArray), false))) else (none)) else (none)) else (if (t119.length : Int) = 3 then (if 0 < (t119.length : Int) then (if 1 < (t119.length : Int) then (if 2 < (t119.length : Int) then (if ((rdOf ByteArray.empty t119 1).size : Int) > 0 then (if (rdOf ByteArray.empty t119 0).toList = ([104, 116, 116, 112] : List UInt8) then (some (rdOf ByteArray.empty t119 0, rdOf ByteArray.empty t119 1, rdOf ByteArray.empty t119 2, true)) else (if (rdOf ByteArray.empty t119 0).toList = ([104, 116, 116, 112, 115] : List UInt8) then (some (rdOf ByteArray.empty t119 0, rdOf ByteArray.empty t119 1, rdOf ByteArray.empty t119 2, true)) else (if (rdOf ByteArray.empty t119 0).toList = ([] : List UInt8) then (some (rdOf ByteArray.empty t119 0, rdOf ByteArray.empty t119 1, rdOf ByteArray.empty t119 2, true)) else (some ((⟨#[]⟩ : ByteArray), (⟨#[]⟩ : ByteArray), (⟨#[]⟩ : ByteArray), false))))) else (some ((⟨#[]⟩ : ByteArray), (⟨#[]⟩ : ByteArray), (⟨#[]⟩ : ByteArray), false))) else (none)) else (none)) else (none)) else (some ((⟨#[]⟩ : ByteArray), (⟨#[]⟩ : ByteArray), (⟨#[]⟩ : ByteArray), false))))) = some (r1, r2, r3, r4) := H
  have A2 := Aside0.mk A20
  clear A20
  by_cases c3 : (t119.length : Int) = 1
  · rw [if_pos c3] at H
    have c3b0 : ((t119.length : Int) == 1) = true := beq_iff_eq.mpr c3
    have c3b1 : ((t119.length : Int) != 1) = false := bne_eq_false_iff_eq.mpr c3
    clear c3
    by_cases c4 : 0 < (t119.length : Int)
    · rw [if_pos c4] at H
      have c4b0 : decide (0 < (t119.length : Int)) = true := decide_eq_true c4
      have c4b1 : decide (0 < t119.length) = true := decide_eq_true (by omega)
      clear c4
      by_cases c5 : ((rdOf ByteArray.empty t119 0).size : Int) > 0
      · rw [if_pos c5] at H
        have c5b0 : decide (0 < ((rdOf ByteArray.empty t119 0).size : Int)) = true := decide_eq_true c5
        have c5b1 : decide (0 < (rdOf ByteArray.empty t119 0).size) = true := decide_eq_true (by omega)
        clear c5
        by_cases c6 : ([] : List UInt8) = ([104, 116, 116, 112] : List UInt8)
        · exact absurd c6 (by decide)
        · rw [if_neg c6] at H
          have c6b0 : (([] : List UInt8) == ([104, 116, 116, 112] : List UInt8)) = false := beq_eq_false_iff_ne.mpr c6
          have c6b1 : (([] : List UInt8) != ([104, 116, 116, 112] : List UInt8)) = true := bne_iff_ne.mpr c6
          by_cases c9 : ([] : List UInt8) = ([104, 116, 116, 112, 115] : List UInt8)
          · exact absurd c9 (by decide)
          · rw [if_neg c9] at H
            have c9b0 : (([] : List UInt8) == ([104, 116, 116, 112, 115] : List UInt8)) = false := beq_eq_false_iff_ne.mpr c9
            have c9b1 : (([] : List UInt8) != ([104, 116, 116, 112, 115] : List UInt8)) = true := bne_iff_ne.mpr c9
            by_cases c12 : ([] : List UInt8) = ([] : List UInt8)
            · rw [if_pos c12] at H
              have c12b0 : (([] : List UInt8) == ([] : List UInt8)) = true := beq_iff_eq.mpr c12
              have c12b1 : (([] : List UInt8) != ([] : List UInt8)) = false := bne_eq_false_iff_eq.mpr c12
              clear c12
              simp only [Option.some.injEq, Prod.mk.injEq] at H
              obtain ⟨rfl, rfl, rfl, rfl⟩ := H
              go_enter Try.func17, Try.ntmps17
              go_wp2_with (first | ((with_reducible refine gate_callee (f := 28) rfl ?_); refine goesL_ (some 8) rfl rfl Try.func28 (by kernel_rfl) rfl #[.string a0, .string (⟨#[58]⟩ : ByteArray)] rfl (by (try simp only [List.map_toArray, List.map_cons, List.map_nil]); first | done | rfl | (simp only [List.length_drop, List.length_take]; rfl)) ?_; (with_reducible refine (net_zzSplit.calls k a0 (⟨#[58]⟩ : ByteArray) t119 _ A2.out).mono ?_); rintro e w13 ⟨v120, rfl, ho0, hb⟩; refine ⟨_, rfl, ?_⟩; have n0_ := Aside0.mk (Kd.R_lower ho0 (below_size (by repeat (first | (with_reducible first | exact HB.out | apply below_alloc | apply pw_below_drewN | apply below_drew1) | exact HB.out)))); have n1_ := Aside0.mk (below_step (by repeat (first | (with_reducible first | exact HB.out | apply below_alloc | apply pw_below_drewN | apply below_drew1) | exact HB.out)) hb); clear HB; have HO121 := n0_; have HB := n1_; clear n0_ n1_; (try clear hb); (try clear hb2); (try clear hk); (try clear hi); (try clear ho0); obtain ⟨Ao14, co14, eo14⟩ := Kd.R_slice HO121.out; subst eo14; have p122 : 0 ≤ (0 : Int) := (by omega); have q122 : 0 < (t119.length : Int) := of_decide_eq_true (by first | (with_reducible assumption) | assumption); obtain ⟨ad122, e122, hx122_0⟩ := Kd.at_string (Kd.R_reads' HO121.out).2.2 0 p122 q122; cases e122; have qi122 : (0 < t119.length) = True := eq_true (by omega); (try rw [show ((0 : Int)).toNat = 0 from rfl] at hx122_0); (try rw [Addr.add_zero'] at hx122_0); replace p122 := eq_true p122; replace q122 := eq_true q122))
              refine bodyPost_ret (results_list (rs := [.tmp 2, .tmp 3, .tmp 4, .tmp 5]) rfl (by simp) (.tmp (.tmp (.tmp (.tmp .nil))))) rfl ?_
              exact ⟨by first | rfl | (simp [errW_none, errW_some] <;> rfl) | (simp [*, errW_none, errW_some] <;> rfl), by repeat (first | (with_reducible first | exact HB.out | apply below_alloc | apply pw_below_drewN | apply below_drew1) | exact HB.out)⟩
            · exact absurd rfl c12
      · rw [if_neg c5] at H
        have c5b0 : decide (0 < ((rdOf ByteArray.empty t119 0).size : Int)) = false := decide_eq_false c5
        have c5b1 : decide (0 < (rdOf ByteArray.empty t119 0).size) = false := decide_eq_false (by omega)
        clear c5
        simp only [Option.some.injEq, Prod.mk.injEq] at H
        obtain ⟨rfl, rfl, rfl, rfl⟩ := H
        go_enter Try.func17, Try.ntmps17
        go_wp2_with (first | ((with_reducible refine gate_callee (f := 28) rfl ?_); refine goesL_ (some 8) rfl rfl Try.func28 (by kernel_rfl) rfl #[.string a0, .string (⟨#[58]⟩ : ByteArray)] rfl (by (try simp only [List.map_toArray, List.map_cons, List.map_nil]); first | done | rfl | (simp only [List.length_drop, List.length_take]; rfl)) ?_; (with_reducible refine (net_zzSplit.calls k a0 (⟨#[58]⟩ : ByteArray) t119 _ A2.out).mono ?_); rintro e w17 ⟨v120, rfl, ho0, hb⟩; refine ⟨_, rfl, ?_⟩; have n0_ := Aside0.mk (Kd.R_lower ho0 (below_size (by repeat (first | (with_reducible first | exact HB.out | apply below_alloc | apply pw_below_drewN | apply below_drew1) | exact HB.out)))); have n1_ := Aside0.mk (below_step (by repeat (first | (with_reducible first | exact HB.out | apply below_alloc | apply pw_below_drewN | apply below_drew1) | exact HB.out)) hb); clear HB; have HO121 := n0_; have HB := n1_; clear n0_ n1_; (try clear hb); (try clear hb2); (try clear hk); (try clear hi); (try clear ho0); obtain ⟨Ao18, co18, eo18⟩ := Kd.R_slice HO121.out; subst eo18; have p122 : 0 ≤ (0 : Int) := (by omega); have q122 : 0 < (t119.length : Int) := of_decide_eq_true (by first | (with_reducible assumption) | assumption); obtain ⟨ad122, e122, hx122_0⟩ := Kd.at_string (Kd.R_reads' HO121.out).2.2 0 p122 q122; cases e122; have qi122 : (0 < t119.length) = True := eq_true (by omega); (try rw [show ((0 : Int)).toNat = 0 from rfl] at hx122_0); (try rw [Addr.add_zero'] at hx122_0); replace p122 := eq_true p122; replace q122 := eq_true q122))
        refine bodyPost_ret (results_list (rs := [.tmp 2, .tmp 3, .tmp 4, .tmp 5]) rfl (by simp) (.tmp (.tmp (.tmp (.tmp .nil))))) rfl ?_
        exact ⟨by first | rfl | (simp [errW_none, errW_some] <;> rfl) | (simp [*, errW_none, errW_some] <;> rfl), by repeat (first | (with_reducible first | exact HB.out | apply below_alloc | apply pw_below_drewN | apply below_drew1) | exact HB.out)⟩
    · rw [if_neg c4] at H
      exact absurd H (by simp)
  · rw [if_neg c3] at H
    have c3b0 : ((t119.length : Int) == 1) = false := beq_eq_false_iff_ne.mpr c3
    have c3b1 : ((t119.length : Int) != 1) = true := bne_iff_ne.mpr c3
    by_cases c19 : (t119.length : Int) = 2
    · rw [if_pos c19] at H
      have c19b0 : ((t119.length : Int) == 2) = true := beq_iff_eq.mpr c19
      have c19b1 : ((t119.length : Int) != 2) = false := bne_eq_false_iff_eq.mpr c19
      clear c19
      by_cases c20 : 0 < (t119.length : Int)
      · rw [if_pos c20] at H
        have c20b0 : decide (0 < (t119.length : Int)) = true := decide_eq_true c20
        have c20b1 : decide (0 < t119.length) = true := decide_eq_true (by omega)
        clear c20
        by_cases c21 : 1 < (t119.length : Int)
        · rw [if_pos c21] at H
          have c21b0 : decide (1 < (t119.length : Int)) = true := decide_eq_true c21
          have c21b1 : decide (1 < t119.length) = true := decide_eq_true (by omega)
          clear c21
          by_cases c22 : ((rdOf ByteArray.empty t119 0).size : Int) > 0
          · rw [if_pos c22] at H
            have c22b0 : decide (0 < ((rdOf ByteArray.empty t119 0).size : Int)) = true := decide_eq_true c22
            have c22b1 : decide (0 < (rdOf ByteArray.empty t119 0).size) = true := decide_eq_true (by omega)
            clear c22
            by_cases c23 : ([] : List UInt8) = ([104, 116, 116, 112] : List UInt8)
            · exact absurd c23 (by decide)
            · rw [if_neg c23] at H
              have c23b0 : (([] : List UInt8) == ([104, 116, 116, 112] : List UInt8)) = false := beq_eq_false_iff_ne.mpr c23
              have c23b1 : (([] : List UInt8) != ([104, 116, 116, 112] : List UInt8)) = true := bne_iff_ne.mpr c23
              by_cases c26 : ([] : List UInt8) = ([104, 116, 116, 112, 115] : List UInt8)
              · exact absurd c26 (by decide)
              · rw [if_neg c26] at H
                have c26b0 : (([] : List UInt8) == ([104, 116, 116, 112, 115] : List UInt8)) = false := beq_eq_false_iff_ne.mpr c26
                have c26b1 : (([] : List UInt8) != ([104, 116, 116, 112, 115] : List UInt8)) = true := bne_iff_ne.mpr c26
                by_cases c29 : ([] : List UInt8) = ([] : List UInt8)
                · rw [if_pos c29] at H
                  have c29b0 : (([] : List UInt8) == ([] : List UInt8)) = true := beq_iff_eq.mpr c29
                  have c29b1 : (([] : List UInt8) != ([] : List UInt8)) = false := bne_eq_false_iff_eq.mpr c29
                  clear c29
                  simp only [Option.some.injEq, Prod.mk.injEq] at H
                  obtain ⟨rfl, rfl, rfl, rfl⟩ := H
                  go_enter Try.func17, Try.ntmps17
                  go_wp2_with (first | ((with_reducible refine gate_callee (f := 28) rfl ?_); refine goesL_ (some 8) rfl rfl Try.func28 (by kernel_rfl) rfl #[.string a0, .string (⟨#[58]⟩ : ByteArray)] rfl (by (try simp only [List.map_toArray, List.map_cons, List.map_nil]); first | done | rfl | (simp only [List.length_drop, List.length_take]; rfl)) ?_; (with_reducible refine (net_zzSplit.calls k a0 (⟨#[58]⟩ : ByteArray) t119 _ A2.out).mono ?_); rintro e w30 ⟨v120, rfl, ho0, hb⟩; refine ⟨_, rfl, ?_⟩; have n0_ := Aside0.mk (Kd.R_lower ho0 (below_size (by repeat (first | (with_reducible first | exact HB.out | apply below_alloc | apply pw_below_drewN | apply below_drew1) | exact HB.out)))); have n1_ := Aside0.mk (below_step (by repeat (first | (with_reducible first | exact HB.out | apply below_alloc | apply pw_below_drewN | apply below_drew1) | exact HB.out)) hb); clear HB; have HO121 := n0_; have HB := n1_; clear n0_ n1_; (try clear hb); (try clear hb2); (try clear hk); (try clear hi); (try clear ho0); obtain ⟨Ao31, co31, eo31⟩ := Kd.R_slice HO121.out; subst eo31; have p123 : 0 ≤ (0 : Int) := (by omega); have q123 : 0 < (t119.length : Int) := of_decide_eq_true (by first | (with_reducible assumption) | assumption); obtain ⟨ad123, e123, hx123_0⟩ := Kd.at_string (Kd.R_reads' HO121.out).2.2 0 p123 q123; cases e123; have qi123 : (0 < t119.length) = True := eq_true (by omega); (try rw [show ((0 : Int)).toNat = 0 from rfl] at hx123_0); (try rw [Addr.add_zero'] at hx123_0); replace p123 := eq_true p123; replace q123 := eq_true q123; have p124 : 0 ≤ (1 : Int) := (by omega); have q124 : 1 < (t119.length : Int) := of_decide_eq_true (by first | (with_reducible assumption) | assumption); obtain ⟨ad124, e124, hx124_0⟩ := Kd.at_string (Kd.R_reads' HO121.out).2.2 1 p124 q124; obtain rfl : ad123 = ad124 := (by injection e124); (try simp only [show (1 : Int).toNat = 1 from rfl, Nat.reduceMul, Nat.reduceEqDiff, Go.Addr.add, ↓reduceIte] at hx124_0); have qi124 : (1 < t119.length) = True := eq_true (by omega); (try rw [show ((1 : Int)).toNat = 1 from rfl] at hx124_0); replace p124 := eq_true p124; replace q124 := eq_true q124))
                  refine bodyPost_ret (results_list (rs := [.tmp 2, .tmp 3, .tmp 4, .tmp 5]) rfl (by simp) (.tmp (.tmp (.tmp (.tmp .nil))))) rfl ?_
                  exact ⟨by first | rfl | (simp [errW_none, errW_some] <;> rfl) | (simp [*, errW_none, errW_some] <;> rfl), by repeat (first | (with_reducible first | exact HB.out | apply below_alloc | apply pw_below_drewN | apply below_drew1) | exact HB.out)⟩
                · exact absurd rfl c29
          · rw [if_neg c22] at H
            have c22b0 : decide (0 < ((rdOf ByteArray.empty t119 0).size : Int)) = false := decide_eq_false c22
            have c22b1 : decide (0 < (rdOf ByteArray.empty t119 0).size) = false := decide_eq_false (by omega)
            clear c22
            simp only [Option.some.injEq, Prod.mk.injEq] at H
            obtain ⟨rfl, rfl, rfl, rfl⟩ := H
            go_enter Try.func17, Try.ntmps17
            go_wp2_with (first | ((with_reducible refine gate_callee (f := 28) rfl ?_); refine goesL_ (some 8) rfl rfl Try.func28 (by kernel_rfl) rfl #[.string a0, .string (⟨#[58]⟩ : ByteArray)] rfl (by (try simp only [List.map_toArray, List.map_cons, List.map_nil]); first | done | rfl | (simp only [List.length_drop, List.length_take]; rfl)) ?_; (with_reducible refine (net_zzSplit.calls k a0 (⟨#[58]⟩ : ByteArray) t119 _ A2.out).mono ?_); rintro e w34 ⟨v120, rfl, ho0, hb⟩; refine ⟨_, rfl, ?_⟩; have n0_ := Aside0.mk (Kd.R_lower ho0 (below_size (by repeat (first | (with_reducible first | exact HB.out | apply below_alloc | apply pw_below_drewN | apply below_drew1) | exact HB.out)))); have n1_ := Aside0.mk (below_step (by repeat (first | (with_reducible first | exact HB.out | apply below_alloc | apply pw_below_drewN | apply below_drew1) | exact HB.out)) hb); clear HB; have HO121 := n0_; have HB := n1_; clear n0_ n1_; (try clear hb); (try clear hb2); (try clear hk); (try clear hi); (try clear ho0); obtain ⟨Ao35, co35, eo35⟩ := Kd.R_slice HO121.out; subst eo35; have p123 : 0 ≤ (0 : Int) := (by omega); have q123 : 0 < (t119.length : Int) := of_decide_eq_true (by first | (with_reducible assumption) | assumption); obtain ⟨ad123, e123, hx123_0⟩ := Kd.at_string (Kd.R_reads' HO121.out).2.2 0 p123 q123; cases e123; have qi123 : (0 < t119.length) = True := eq_true (by omega); (try rw [show ((0 : Int)).toNat = 0 from rfl] at hx123_0); (try rw [Addr.add_zero'] at hx123_0); replace p123 := eq_true p123; replace q123 := eq_true q123; have p124 : 0 ≤ (1 : Int) := (by omega); have q124 : 1 < (t119.length : Int) := of_decide_eq_true (by first | (with_reducible assumption) | assumption); obtain ⟨ad124, e124, hx124_0⟩ := Kd.at_string (Kd.R_reads' HO121.out).2.2 1 p124 q124; obtain rfl : ad123 = ad124 := (by injection e124); (try simp only [show (1 : Int).toNat = 1 from rfl, Nat.reduceMul, Nat.reduceEqDiff, Go.Addr.add, ↓reduceIte] at hx124_0); have qi124 : (1 < t119.length) = True := eq_true (by omega); (try rw [show ((1 : Int)).toNat = 1 from rfl] at hx124_0); replace p124 := eq_true p124; replace q124 := eq_true q124))
            refine bodyPost_ret (results_list (rs := [.tmp 2, .tmp 3, .tmp 4, .tmp 5]) rfl (by simp) (.tmp (.tmp (.tmp (.tmp .nil))))) rfl ?_
            exact ⟨by first | rfl | (simp [errW_none, errW_some] <;> rfl) | (simp [*, errW_none, errW_some] <;> rfl), by repeat (first | (with_reducible first | exact HB.out | apply below_alloc | apply pw_below_drewN | apply below_drew1) | exact HB.out)⟩
        · rw [if_neg c21] at H
          exact absurd H (by simp)
      · rw [if_neg c20] at H
        exact absurd H (by simp)
    · rw [if_neg c19] at H
      have c19b0 : ((t119.length : Int) == 2) = false := beq_eq_false_iff_ne.mpr c19
      have c19b1 : ((t119.length : Int) != 2) = true := bne_iff_ne.mpr c19
      by_cases c36 : (t119.length : Int) = 3
      · rw [if_pos c36] at H
        have c36b0 : ((t119.length : Int) == 3) = true := beq_iff_eq.mpr c36
        have c36b1 : ((t119.length : Int) != 3) = false := bne_eq_false_iff_eq.mpr c36
        clear c36
        by_cases c37 : 0 < (t119.length : Int)
        · rw [if_pos c37] at H
          have c37b0 : decide (0 < (t119.length : Int)) = true := decide_eq_true c37
          have c37b1 : decide (0 < t119.length) = true := decide_eq_true (by omega)
          clear c37
          by_cases c38 : 1 < (t119.length : Int)
          · rw [if_pos c38] at H
            have c38b0 : decide (1 < (t119.length : Int)) = true := decide_eq_true c38
            have c38b1 : decide (1 < t119.length) = true := decide_eq_true (by omega)
            clear c38
            by_cases c39 : 2 < (t119.length : Int)
            · rw [if_pos c39] at H
              have c39b0 : decide (2 < (t119.length : Int)) = true := decide_eq_true c39
              have c39b1 : decide (2 < t119.length) = true := decide_eq_true (by omega)
              clear c39
              by_cases c40 : ((rdOf ByteArray.empty t119 1).size : Int) > 0
              · rw [if_pos c40] at H
                have c40b0 : decide (0 < ((rdOf ByteArray.empty t119 1).size : Int)) = true := decide_eq_true c40
                have c40b1 : decide (0 < (rdOf ByteArray.empty t119 1).size) = true := decide_eq_true (by omega)
                clear c40
                by_cases c41 : (rdOf ByteArray.empty t119 0).toList = ([104, 116, 116, 112] : List UInt8)
                · rw [if_pos c41] at H
                  have c41b0 : ((rdOf ByteArray.empty t119 0).toList == ([104, 116, 116, 112] : List UInt8)) = true := beq_iff_eq.mpr c41
                  have c41b1 : ((rdOf ByteArray.empty t119 0).toList != ([104, 116, 116, 112] : List UInt8)) = false := bne_eq_false_iff_eq.mpr c41
                  clear c41
                  simp only [Option.some.injEq, Prod.mk.injEq] at H
                  obtain ⟨rfl, rfl, rfl, rfl⟩ := H
                  go_enter Try.func17, Try.ntmps17
                  go_wp2_with (first | ((with_reducible refine gate_callee (f := 28) rfl ?_); refine goesL_ (some 8) rfl rfl Try.func28 (by kernel_rfl) rfl #[.string a0, .string (⟨#[58]⟩ : ByteArray)] rfl (by (try simp only [List.map_toArray, List.map_cons, List.map_nil]); first | done | rfl | (simp only [List.length_drop, List.length_take]; rfl)) ?_; (with_reducible refine (net_zzSplit.calls k a0 (⟨#[58]⟩ : ByteArray) t119 _ A2.out).mono ?_); rintro e w42 ⟨v120, rfl, ho0, hb⟩; refine ⟨_, rfl, ?_⟩; have n0_ := Aside0.mk (Kd.R_lower ho0 (below_size (by repeat (first | (with_reducible first | exact HB.out | apply below_alloc | apply pw_below_drewN | apply below_drew1) | exact HB.out)))); have n1_ := Aside0.mk (below_step (by repeat (first | (with_reducible first | exact HB.out | apply below_alloc | apply pw_below_drewN | apply below_drew1) | exact HB.out)) hb); clear HB; have HO121 := n0_; have HB := n1_; clear n0_ n1_; (try clear hb); (try clear hb2); (try clear hk); (try clear hi); (try clear ho0); obtain ⟨Ao43, co43, eo43⟩ := Kd.R_slice HO121.out; subst eo43; have p125 : 0 ≤ (0 : Int) := (by omega); have q125 : 0 < (t119.length : Int) := of_decide_eq_true (by first | (with_reducible assumption) | assumption); obtain ⟨ad125, e125, hx125_0⟩ := Kd.at_string (Kd.R_reads' HO121.out).2.2 0 p125 q125; cases e125; have qi125 : (0 < t119.length) = True := eq_true (by omega); (try rw [show ((0 : Int)).toNat = 0 from rfl] at hx125_0); (try rw [Addr.add_zero'] at hx125_0); replace p125 := eq_true p125; replace q125 := eq_true q125; have p126 : 0 ≤ (1 : Int) := (by omega); have q126 : 1 < (t119.length : Int) := of_decide_eq_true (by first | (with_reducible assumption) | assumption); obtain ⟨ad126, e126, hx126_0⟩ := Kd.at_string (Kd.R_reads' HO121.out).2.2 1 p126 q126; obtain rfl : ad125 = ad126 := (by injection e126); (try simp only [show (1 : Int).toNat = 1 from rfl, Nat.reduceMul, Nat.reduceEqDiff, Go.Addr.add, ↓reduceIte] at hx126_0); have qi126 : (1 < t119.length) = True := eq_true (by omega); (try rw [show ((1 : Int)).toNat = 1 from rfl] at hx126_0); replace p126 := eq_true p126; replace q126 := eq_true q126; have p127 : 0 ≤ (2 : Int) := (by omega); have q127 : 2 < (t119.length : Int) := of_decide_eq_true (by first | (with_reducible assumption) | assumption); obtain ⟨ad127, e127, hx127_0⟩ := Kd.at_string (Kd.R_reads' HO121.out).2.2 2 p127 q127; obtain rfl : ad125 = ad127 := (by injection e127); (try simp only [show (2 : Int).toNat = 2 from rfl, Nat.reduceMul, Nat.reduceEqDiff, Go.Addr.add, ↓reduceIte] at hx127_0); have qi127 : (2 < t119.length) = True := eq_true (by omega); (try rw [show ((2 : Int)).toNat = 2 from rfl] at hx127_0); replace p127 := eq_true p127; replace q127 := eq_true q127))
                  refine bodyPost_ret (results_list (rs := [.tmp 2, .tmp 3, .tmp 4, .tmp 5]) rfl (by simp) (.tmp (.tmp (.tmp (.tmp .nil))))) rfl ?_
                  exact ⟨by first | rfl | (simp [errW_none, errW_some] <;> rfl) | (simp [*, errW_none, errW_some] <;> rfl), by repeat (first | (with_reducible first | exact HB.out | apply below_alloc | apply pw_below_drewN | apply below_drew1) | exact HB.out)⟩
                · rw [if_neg c41] at H
                  have c41b0 : ((rdOf ByteArray.empty t119 0).toList == ([104, 116, 116, 112] : List UInt8)) = false := beq_eq_false_iff_ne.mpr c41
                  have c41b1 : ((rdOf ByteArray.empty t119 0).toList != ([104, 116, 116, 112] : List UInt8)) = true := bne_iff_ne.mpr c41
                  by_cases c44 : (rdOf ByteArray.empty t119 0).toList = ([104, 116, 116, 112, 115] : List UInt8)
                  · rw [if_pos c44] at H
                    have c44b0 : ((rdOf ByteArray.empty t119 0).toList == ([104, 116, 116, 112, 115] : List UInt8)) = true := beq_iff_eq.mpr c44
                    have c44b1 : ((rdOf ByteArray.empty t119 0).toList != ([104, 116, 116, 112, 115] : List UInt8)) = false := bne_eq_false_iff_eq.mpr c44
                    clear c44
                    simp only [Option.some.injEq, Prod.mk.injEq] at H
                    obtain ⟨rfl, rfl, rfl, rfl⟩ := H
                    go_enter Try.func17, Try.ntmps17
                    go_wp2_with (first | ((with_reducible refine gate_callee (f := 28) rfl ?_); refine goesL_ (some 8) rfl rfl Try.func28 (by kernel_rfl) rfl #[.string a0, .string (⟨#[58]⟩ : ByteArray)] rfl (by (try simp only [List.map_toArray, List.map_cons, List.map_nil]); first | done | rfl | (simp only [List.length_drop, List.length_take]; rfl)) ?_; (with_reducible refine (net_zzSplit.calls k a0 (⟨#[58]⟩ : ByteArray) t119 _ A2.out).mono ?_); rintro e w45 ⟨v120, rfl, ho0, hb⟩; refine ⟨_, rfl, ?_⟩; have n0_ := Aside0.mk (Kd.R_lower ho0 (below_size (by repeat (first | (with_reducible first | exact HB.out | apply below_alloc | apply pw_below_drewN | apply below_drew1) | exact HB.out)))); have n1_ := Aside0.mk (below_step (by repeat (first | (with_reducible first | exact HB.out | apply below_alloc | apply pw_below_drewN | apply below_drew1) | exact HB.out)) hb); clear HB; have HO121 := n0_; have HB := n1_; clear n0_ n1_; (try clear hb); (try clear hb2); (try clear hk); (try clear hi); (try clear ho0); obtain ⟨Ao46, co46, eo46⟩ := Kd.R_slice HO121.out; subst eo46; have p125 : 0 ≤ (0 : Int) := (by omega); have q125 : 0 < (t119.length : Int) := of_decide_eq_true (by first | (with_reducible assumption) | assumption); obtain ⟨ad125, e125, hx125_0⟩ := Kd.at_string (Kd.R_reads' HO121.out).2.2 0 p125 q125; cases e125; have qi125 : (0 < t119.length) = True := eq_true (by omega); (try rw [show ((0 : Int)).toNat = 0 from rfl] at hx125_0); (try rw [Addr.add_zero'] at hx125_0); replace p125 := eq_true p125; replace q125 := eq_true q125; have p126 : 0 ≤ (1 : Int) := (by omega); have q126 : 1 < (t119.length : Int) := of_decide_eq_true (by first | (with_reducible assumption) | assumption); obtain ⟨ad126, e126, hx126_0⟩ := Kd.at_string (Kd.R_reads' HO121.out).2.2 1 p126 q126; obtain rfl : ad125 = ad126 := (by injection e126); (try simp only [show (1 : Int).toNat = 1 from rfl, Nat.reduceMul, Nat.reduceEqDiff, Go.Addr.add, ↓reduceIte] at hx126_0); have qi126 : (1 < t119.length) = True := eq_true (by omega); (try rw [show ((1 : Int)).toNat = 1 from rfl] at hx126_0); replace p126 := eq_true p126; replace q126 := eq_true q126; have p127 : 0 ≤ (2 : Int) := (by omega); have q127 : 2 < (t119.length : Int) := of_decide_eq_true (by first | (with_reducible assumption) | assumption); obtain ⟨ad127, e127, hx127_0⟩ := Kd.at_string (Kd.R_reads' HO121.out).2.2 2 p127 q127; obtain rfl : ad125 = ad127 := (by injection e127); (try simp only [show (2 : Int).toNat = 2 from rfl, Nat.reduceMul, Nat.reduceEqDiff, Go.Addr.add, ↓reduceIte] at hx127_0); have qi127 : (2 < t119.length) = True := eq_true (by omega); (try rw [show ((2 : Int)).toNat = 2 from rfl] at hx127_0); replace p127 := eq_true p127; replace q127 := eq_true q127))
                    refine bodyPost_ret (results_list (rs := [.tmp 2, .tmp 3, .tmp 4, .tmp 5]) rfl (by simp) (.tmp (.tmp (.tmp (.tmp .nil))))) rfl ?_
                    exact ⟨by first | rfl | (simp [errW_none, errW_some] <;> rfl) | (simp [*, errW_none, errW_some] <;> rfl), by repeat (first | (with_reducible first | exact HB.out | apply below_alloc | apply pw_below_drewN | apply below_drew1) | exact HB.out)⟩
                  · rw [if_neg c44] at H
                    have c44b0 : ((rdOf ByteArray.empty t119 0).toList == ([104, 116, 116, 112, 115] : List UInt8)) = false := beq_eq_false_iff_ne.mpr c44
                    have c44b1 : ((rdOf ByteArray.empty t119 0).toList != ([104, 116, 116, 112, 115] : List UInt8)) = true := bne_iff_ne.mpr c44
                    by_cases c47 : (rdOf ByteArray.empty t119 0).toList = ([] : List UInt8)
                    · rw [if_pos c47] at H
                      have c47b0 : ((rdOf ByteArray.empty t119 0).toList == ([] : List UInt8)) = true := beq_iff_eq.mpr c47
                      have c47b1 : ((rdOf ByteArray.empty t119 0).toList != ([] : List UInt8)) = false := bne_eq_false_iff_eq.mpr c47
                      clear c47
                      simp only [Option.some.injEq, Prod.mk.injEq] at H
                      obtain ⟨rfl, rfl, rfl, rfl⟩ := H
                      go_enter Try.func17, Try.ntmps17
                      go_wp2_with (first | ((with_reducible refine gate_callee (f := 28) rfl ?_); refine goesL_ (some 8) rfl rfl Try.func28 (by kernel_rfl) rfl #[.string a0, .string (⟨#[58]⟩ : ByteArray)] rfl (by (try simp only [List.map_toArray, List.map_cons, List.map_nil]); first | done | rfl | (simp only [List.length_drop, List.length_take]; rfl)) ?_; (with_reducible refine (net_zzSplit.calls k a0 (⟨#[58]⟩ : ByteArray) t119 _ A2.out).mono ?_); rintro e w48 ⟨v120, rfl, ho0, hb⟩; refine ⟨_, rfl, ?_⟩; have n0_ := Aside0.mk (Kd.R_lower ho0 (below_size (by repeat (first | (with_reducible first | exact HB.out | apply below_alloc | apply pw_below_drewN | apply below_drew1) | exact HB.out)))); have n1_ := Aside0.mk (below_step (by repeat (first | (with_reducible first | exact HB.out | apply below_alloc | apply pw_below_drewN | apply below_drew1) | exact HB.out)) hb); clear HB; have HO121 := n0_; have HB := n1_; clear n0_ n1_; (try clear hb); (try clear hb2); (try clear hk); (try clear hi); (try clear ho0); obtain ⟨Ao49, co49, eo49⟩ := Kd.R_slice HO121.out; subst eo49; have p125 : 0 ≤ (0 : Int) := (by omega); have q125 : 0 < (t119.length : Int) := of_decide_eq_true (by first | (with_reducible assumption) | assumption); obtain ⟨ad125, e125, hx125_0⟩ := Kd.at_string (Kd.R_reads' HO121.out).2.2 0 p125 q125; cases e125; have qi125 : (0 < t119.length) = True := eq_true (by omega); (try rw [show ((0 : Int)).toNat = 0 from rfl] at hx125_0); (try rw [Addr.add_zero'] at hx125_0); replace p125 := eq_true p125; replace q125 := eq_true q125; have p126 : 0 ≤ (1 : Int) := (by omega); have q126 : 1 < (t119.length : Int) := of_decide_eq_true (by first | (with_reducible assumption) | assumption); obtain ⟨ad126, e126, hx126_0⟩ := Kd.at_string (Kd.R_reads' HO121.out).2.2 1 p126 q126; obtain rfl : ad125 = ad126 := (by injection e126); (try simp only [show (1 : Int).toNat = 1 from rfl, Nat.reduceMul, Nat.reduceEqDiff, Go.Addr.add, ↓reduceIte] at hx126_0); have qi126 : (1 < t119.length) = True := eq_true (by omega); (try rw [show ((1 : Int)).toNat = 1 from rfl] at hx126_0); replace p126 := eq_true p126; replace q126 := eq_true q126; have p127 : 0 ≤ (2 : Int) := (by omega); have q127 : 2 < (t119.length : Int) := of_decide_eq_true (by first | (with_reducible assumption) | assumption); obtain ⟨ad127, e127, hx127_0⟩ := Kd.at_string (Kd.R_reads' HO121.out).2.2 2 p127 q127; obtain rfl : ad125 = ad127 := (by injection e127); (try simp only [show (2 : Int).toNat = 2 from rfl, Nat.reduceMul, Nat.reduceEqDiff, Go.Addr.add, ↓reduceIte] at hx127_0); have qi127 : (2 < t119.length) = True := eq_true (by omega); (try rw [show ((2 : Int)).toNat = 2 from rfl] at hx127_0); replace p127 := eq_true p127; replace q127 := eq_true q127))
                      refine bodyPost_ret (results_list (rs := [.tmp 2, .tmp 3, .tmp 4, .tmp 5]) rfl (by simp) (.tmp (.tmp (.tmp (.tmp .nil))))) rfl ?_
                      exact ⟨by first | rfl | (simp [errW_none, errW_some] <;> rfl) | (simp [*, errW_none, errW_some] <;> rfl), by repeat (first | (with_reducible first | exact HB.out | apply below_alloc | apply pw_below_drewN | apply below_drew1) | exact HB.out)⟩
                    · rw [if_neg c47] at H
                      have c47b0 : ((rdOf ByteArray.empty t119 0).toList == ([] : List UInt8)) = false := beq_eq_false_iff_ne.mpr c47
                      have c47b1 : ((rdOf ByteArray.empty t119 0).toList != ([] : List UInt8)) = true := bne_iff_ne.mpr c47
                      simp only [Option.some.injEq, Prod.mk.injEq] at H
                      obtain ⟨rfl, rfl, rfl, rfl⟩ := H
                      go_enter Try.func17, Try.ntmps17
                      go_wp2_with (first | ((with_reducible refine gate_callee (f := 28) rfl ?_); refine goesL_ (some 8) rfl rfl Try.func28 (by kernel_rfl) rfl #[.string a0, .string (⟨#[58]⟩ : ByteArray)] rfl (by (try simp only [List.map_toArray, List.map_cons, List.map_nil]); first | done | rfl | (simp only [List.length_drop, List.length_take]; rfl)) ?_; (with_reducible refine (net_zzSplit.calls k a0 (⟨#[58]⟩ : ByteArray) t119 _ A2.out).mono ?_); rintro e w50 ⟨v120, rfl, ho0, hb⟩; refine ⟨_, rfl, ?_⟩; have n0_ := Aside0.mk (Kd.R_lower ho0 (below_size (by repeat (first | (with_reducible first | exact HB.out | apply below_alloc | apply pw_below_drewN | apply below_drew1) | exact HB.out)))); have n1_ := Aside0.mk (below_step (by repeat (first | (with_reducible first | exact HB.out | apply below_alloc | apply pw_below_drewN | apply below_drew1) | exact HB.out)) hb); clear HB; have HO121 := n0_; have HB := n1_; clear n0_ n1_; (try clear hb); (try clear hb2); (try clear hk); (try clear hi); (try clear ho0); obtain ⟨Ao51, co51, eo51⟩ := Kd.R_slice HO121.out; subst eo51; have p125 : 0 ≤ (0 : Int) := (by omega); have q125 : 0 < (t119.length : Int) := of_decide_eq_true (by first | (with_reducible assumption) | assumption); obtain ⟨ad125, e125, hx125_0⟩ := Kd.at_string (Kd.R_reads' HO121.out).2.2 0 p125 q125; cases e125; have qi125 : (0 < t119.length) = True := eq_true (by omega); (try rw [show ((0 : Int)).toNat = 0 from rfl] at hx125_0); (try rw [Addr.add_zero'] at hx125_0); replace p125 := eq_true p125; replace q125 := eq_true q125; have p126 : 0 ≤ (1 : Int) := (by omega); have q126 : 1 < (t119.length : Int) := of_decide_eq_true (by first | (with_reducible assumption) | assumption); obtain ⟨ad126, e126, hx126_0⟩ := Kd.at_string (Kd.R_reads' HO121.out).2.2 1 p126 q126; obtain rfl : ad125 = ad126 := (by injection e126); (try simp only [show (1 : Int).toNat = 1 from rfl, Nat.reduceMul, Nat.reduceEqDiff, Go.Addr.add, ↓reduceIte] at hx126_0); have qi126 : (1 < t119.length) = True := eq_true (by omega); (try rw [show ((1 : Int)).toNat = 1 from rfl] at hx126_0); replace p126 := eq_true p126; replace q126 := eq_true q126; have p127 : 0 ≤ (2 : Int) := (by omega); have q127 : 2 < (t119.length : Int) := of_decide_eq_true (by first | (with_reducible assumption) | assumption); obtain ⟨ad127, e127, hx127_0⟩ := Kd.at_string (Kd.R_reads' HO121.out).2.2 2 p127 q127; obtain rfl : ad125 = ad127 := (by injection e127); (try simp only [show (2 : Int).toNat = 2 from rfl, Nat.reduceMul, Nat.reduceEqDiff, Go.Addr.add, ↓reduceIte] at hx127_0); have qi127 : (2 < t119.length) = True := eq_true (by omega); (try rw [show ((2 : Int)).toNat = 2 from rfl] at hx127_0); replace p127 := eq_true p127; replace q127 := eq_true q127))
                      refine bodyPost_ret (results_list (rs := [.tmp 2, .tmp 3, .tmp 4, .tmp 5]) rfl (by simp) (.tmp (.tmp (.tmp (.tmp .nil))))) rfl ?_
                      exact ⟨by first | rfl | (simp [errW_none, errW_some] <;> rfl) | (simp [*, errW_none, errW_some] <;> rfl), by repeat (first | (with_reducible first | exact HB.out | apply below_alloc | apply pw_below_drewN | apply below_drew1) | exact HB.out)⟩
              · rw [if_neg c40] at H
                have c40b0 : decide (0 < ((rdOf ByteArray.empty t119 1).size : Int)) = false := decide_eq_false c40
                have c40b1 : decide (0 < (rdOf ByteArray.empty t119 1).size) = false := decide_eq_false (by omega)
                clear c40
                simp only [Option.some.injEq, Prod.mk.injEq] at H
                obtain ⟨rfl, rfl, rfl, rfl⟩ := H
                go_enter Try.func17, Try.ntmps17
                go_wp2_with (first | ((with_reducible refine gate_callee (f := 28) rfl ?_); refine goesL_ (some 8) rfl rfl Try.func28 (by kernel_rfl) rfl #[.string a0, .string (⟨#[58]⟩ : ByteArray)] rfl (by (try simp only [List.map_toArray, List.map_cons, List.map_nil]); first | done | rfl | (simp only [List.length_drop, List.length_take]; rfl)) ?_; (with_reducible refine (net_zzSplit.calls k a0 (⟨#[58]⟩ : ByteArray) t119 _ A2.out).mono ?_); rintro e w52 ⟨v120, rfl, ho0, hb⟩; refine ⟨_, rfl, ?_⟩; have n0_ := Aside0.mk (Kd.R_lower ho0 (below_size (by repeat (first | (with_reducible first | exact HB.out | apply below_alloc | apply pw_below_drewN | apply below_drew1) | exact HB.out)))); have n1_ := Aside0.mk (below_step (by repeat (first | (with_reducible first | exact HB.out | apply below_alloc | apply pw_below_drewN | apply below_drew1) | exact HB.out)) hb); clear HB; have HO121 := n0_; have HB := n1_; clear n0_ n1_; (try clear hb); (try clear hb2); (try clear hk); (try clear hi); (try clear ho0); obtain ⟨Ao53, co53, eo53⟩ := Kd.R_slice HO121.out; subst eo53; have p125 : 0 ≤ (0 : Int) := (by omega); have q125 : 0 < (t119.length : Int) := of_decide_eq_true (by first | (with_reducible assumption) | assumption); obtain ⟨ad125, e125, hx125_0⟩ := Kd.at_string (Kd.R_reads' HO121.out).2.2 0 p125 q125; cases e125; have qi125 : (0 < t119.length) = True := eq_true (by omega); (try rw [show ((0 : Int)).toNat = 0 from rfl] at hx125_0); (try rw [Addr.add_zero'] at hx125_0); replace p125 := eq_true p125; replace q125 := eq_true q125; have p126 : 0 ≤ (1 : Int) := (by omega); have q126 : 1 < (t119.length : Int) := of_decide_eq_true (by first | (with_reducible assumption) | assumption); obtain ⟨ad126, e126, hx126_0⟩ := Kd.at_string (Kd.R_reads' HO121.out).2.2 1 p126 q126; obtain rfl : ad125 = ad126 := (by injection e126); (try simp only [show (1 : Int).toNat = 1 from rfl, Nat.reduceMul, Nat.reduceEqDiff, Go.Addr.add, ↓reduceIte] at hx126_0); have qi126 : (1 < t119.length) = True := eq_true (by omega); (try rw [show ((1 : Int)).toNat = 1 from rfl] at hx126_0); replace p126 := eq_true p126; replace q126 := eq_true q126; have p127 : 0 ≤ (2 : Int) := (by omega); have q127 : 2 < (t119.length : Int) := of_decide_eq_true (by first | (with_reducible assumption) | assumption); obtain ⟨ad127, e127, hx127_0⟩ := Kd.at_string (Kd.R_reads' HO121.out).2.2 2 p127 q127; obtain rfl : ad125 = ad127 := (by injection e127); (try simp only [show (2 : Int).toNat = 2 from rfl, Nat.reduceMul, Nat.reduceEqDiff, Go.Addr.add, ↓reduceIte] at hx127_0); have qi127 : (2 < t119.length) = True := eq_true (by omega); (try rw [show ((2 : Int)).toNat = 2 from rfl] at hx127_0); replace p127 := eq_true p127; replace q127 := eq_true q127))
                refine bodyPost_ret (results_list (rs := [.tmp 2, .tmp 3, .tmp 4, .tmp 5]) rfl (by simp) (.tmp (.tmp (.tmp (.tmp .nil))))) rfl ?_
                exact ⟨by first | rfl | (simp [errW_none, errW_some] <;> rfl) | (simp [*, errW_none, errW_some] <;> rfl), by repeat (first | (with_reducible first | exact HB.out | apply below_alloc | apply pw_below_drewN | apply below_drew1) | exact HB.out)⟩
            · rw [if_neg c39] at H
              exact absurd H (by simp)
          · rw [if_neg c38] at H
            exact absurd H (by simp)
        · rw [if_neg c37] at H
          exact absurd H (by simp)
      · rw [if_neg c36] at H
        have c36b0 : ((t119.length : Int) == 3) = false := beq_eq_false_iff_ne.mpr c36
        have c36b1 : ((t119.length : Int) != 3) = true := bne_iff_ne.mpr c36
        simp only [Option.some.injEq, Prod.mk.injEq] at H
        obtain ⟨rfl, rfl, rfl, rfl⟩ := H
        go_enter Try.func17, Try.ntmps17
        go_wp2_with (first | ((with_reducible refine gate_callee (f := 28) rfl ?_); refine goesL_ (some 8) rfl rfl Try.func28 (by kernel_rfl) rfl #[.string a0, .string (⟨#[58]⟩ : ByteArray)] rfl (by (try simp only [List.map_toArray, List.map_cons, List.map_nil]); first | done | rfl | (simp only [List.length_drop, List.length_take]; rfl)) ?_; (with_reducible refine (net_zzSplit.calls k a0 (⟨#[58]⟩ : ByteArray) t119 _ A2.out).mono ?_); rintro e w54 ⟨v120, rfl, ho0, hb⟩; refine ⟨_, rfl, ?_⟩; have n0_ := Aside0.mk (Kd.R_lower ho0 (below_size (by repeat (first | (with_reducible first | exact HB.out | apply below_alloc | apply pw_below_drewN | apply below_drew1) | exact HB.out)))); have n1_ := Aside0.mk (below_step (by repeat (first | (with_reducible first | exact HB.out | apply below_alloc | apply pw_below_drewN | apply below_drew1) | exact HB.out)) hb); clear HB; have HO121 := n0_; have HB := n1_; clear n0_ n1_; (try clear hb); (try clear hb2); (try clear hk); (try clear hi); (try clear ho0); obtain ⟨Ao55, co55, eo55⟩ := Kd.R_slice HO121.out; subst eo55))
        refine bodyPost_ret (results_list (rs := [.tmp 2, .tmp 3, .tmp 4, .tmp 5]) rfl (by simp) (.tmp (.tmp (.tmp (.tmp .nil))))) rfl ?_
        exact ⟨by first | rfl | (simp [errW_none, errW_some] <;> rfl) | (simp [*, errW_none, errW_some] <;> rfl), by repeat (first | (with_reducible first | exact HB.out | apply below_alloc | apply pw_below_drewN | apply below_drew1) | exact HB.out)⟩

/-! ### impl_SchemeSplit: function 6 -/
def impl_SchemeSplit.f (k : Nat) (a0 : ByteArray) : Option (ByteArray × ByteArray × ByteArray × Bool) := (net_SplitSchemeNamePort.f k a0).bind fun bt128 => (some (bt128.1, bt128.2.1, bt128.2.2.1, bt128.2.2.2))
theorem impl_SchemeSplit.mono : ∀ a0 k, LeO (impl_SchemeSplit.f k a0) (impl_SchemeSplit.f (k + 1) a0) := by
  intro a0 k
  unfold impl_SchemeSplit.f
  repeat' first
      | (with_reducible exact net_SplitSchemeNamePort.mono _ _)
      | (with_reducible exact LeO.refl _)
      | (with_reducible exact LeO.none _)
      | (with_reducible refine LeO.ite ?_ ?_)
      | (with_reducible refine LeO.bind ?_ (fun _ => ?_))
      | exact net_SplitSchemeNamePort.mono _ _
      | exact LeO.none _
      | refine LeO.ite ?_ ?_
      | refine LeO.bind ?_ (fun _ => ?_)
set_option maxHeartbeats 8000000 in
set_option maxRecDepth 100000 in
theorem impl_SchemeSplit.calls (k : Nat) (a0 : ByteArray) (r1 : ByteArray) (r2 : ByteArray) (r3 : ByteArray) (r4 : Bool) (w : World) (h : impl_SchemeSplit.f k a0 = some (r1, r2, r3, r4)) :
    Calls Try.prog 6 #[.string a0] w fun e w' => e = .returned (.tuple #[.string r1, .string r2, .string r3, .bool r4]) ∧ Below w.heap.size w w' := by
  have HB := Aside0.mk (Below.refl w.heap.size w)
  have H : ((net_SplitSchemeNamePort.f k a0).bind fun bt128 => (some (bt128.1, bt128.2.1, bt128.2.2.1, bt128.2.2.2))) = some (r1, r2, r3, r4) := h
  clear h
  replace H := Option.bind_eq_some_iff.mp H
  obtain ⟨⟨t128, t129, t130, t131⟩, A20, H⟩ := H
  replace H : (some (t128, t129, t130, t131)) = some (r1, r2, r3, r4) := H
  have A2 := Aside0.mk A20
  clear A20
  simp only [Option.some.injEq, Prod.mk.injEq] at H
  obtain ⟨rfl, rfl, rfl, rfl⟩ := H
  go_enter Try.func6, Try.ntmps6
  go_wp2_with (first | ((with_reducible refine gate_callee (f := 17) rfl ?_); refine goesL_ (some 7) rfl rfl Try.func17 (by kernel_rfl) rfl #[.string a0] rfl (by (try simp only [List.map_toArray, List.map_cons, List.map_nil]); first | done | rfl | (simp only [List.length_drop, List.length_take]; rfl)) ?_; (with_reducible refine (net_SplitSchemeNamePort.calls k a0 t128 t129 t130 t131 _ A2.out).mono ?_); rintro e w3 ⟨rfl, hb⟩; refine ⟨_, rfl, ?_⟩; have n0_ := Aside0.mk (below_step (by repeat (first | (with_reducible first | exact HB.out | apply below_alloc | apply pw_below_drewN | apply below_drew1) | exact HB.out)) hb); clear HB; have HB := n0_; clear n0_; (try clear hb); (try clear hb2); (try clear hk); (try clear hi)))
  refine bodyPost_ret (results_list (rs := [.tmp 2, .tmp 3, .tmp 4, .tmp 5]) rfl (by simp) (.tmp (.tmp (.tmp (.tmp .nil))))) rfl ?_
  exact ⟨by first | rfl | (simp [errW_none, errW_some] <;> rfl) | (simp [*, errW_none, errW_some] <;> rfl), by repeat (first | (with_reducible first | exact HB.out | apply below_alloc | apply pw_below_drewN | apply below_drew1) | exact HB.out)⟩

end Go.Proofs.Ytmkpkpkcoieeiaa.XFnSchemeBack
