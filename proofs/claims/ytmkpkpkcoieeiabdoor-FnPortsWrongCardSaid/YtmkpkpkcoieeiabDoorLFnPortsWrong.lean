/- Ports: a number's digits, a text of one or two numbers, and what is parsed of it, on lists of bytes. -/
import Derived.Test.YtmkpkpkcoieeiabDoorXFnPortsWrongx
import Derived.Test.YtmkpkpkcoieeiabDoorStr
import Derived.Test.YtmkpkpkcoieeiabDoorNum
namespace Go.Proofs.YtmkpkpkcoieeiabDoor.LFnPortsWrong
open Go.RowKit Go.Proofs.YtmkpkpkcoieeiabDoor.XFnPortsWrong Go.Proofs.YtmkpkpkcoieeiabDoorW.PrintWords Go.Proofs.YtmkpkpkcoieeiabDoorW.PrintLast Go.Proofs.YtmkpkpkcoieeiabDoorW.PrintMore Go.Proofs.YtmkpkpkcoieeiabDoor.EvL Go.Proofs.YtmkpkpkcoieeiabDoor.Str Go.Proofs.YtmkpkpkcoieeiabDoor.Num

theorem zzIndex_l0 (s : ByteArray) (c : UInt8) (t : ByteArray) (ht : L t = [c]) (hs : s.size < 4611686018427387904) (n : Nat) : ∀ i : Nat, (L s).length - i = n → i ≤ (L s).length →
    Ev (fun k => net_zzIndex.l0 k s t i) (if place ((L s).drop i) c = -1 then -1 else i + place ((L s).drop i) c) := by
  have hz := size_L s
  have htz : t.size = 1 := by rw [size_L, ht]; rfl
  induction n with
  | zero =>
    intro i hn hi
    refine Ev.step (fun k => net_zzIndex.l0.eq_2 ..) ?_
    rw [htz, w64 (x := (i : Int) + ((1 : Nat) : Int)) (by omega) (by omega)]
    refine ifn (by omega) (now ?_)
    rw [List.drop_eq_nil_of_le (by omega), place_neg (by simp), if_pos rfl]
  | succ n ih =>
    intro i hn hi
    have hlt : i < (L s).length := by omega
    refine Ev.step (fun k => net_zzIndex.l0.eq_2 ..) ?_
    rw [htz, w64 (x := (i : Int) + ((1 : Nat) : Int)) (by omega) (by omega), w64 (x := (i : Int) + 1) (by omega) (by omega)]
    refine ifp (by omega) (ifp (by omega) (ifp (by omega) ?_))
    have hcut : (s.extract ((i : Int)).toNat (((i : Int) + ((1 : Nat) : Int))).toNat).toList = [(L s)[i]] := by
      rw [toList_L, L_extract, show ((i : Int)).toNat = i from by omega, show ((i : Int) + ((1 : Nat) : Int)).toNat - i = 1 from by omega, List.drop_eq_getElem_cons hlt]; rfl
    rw [hcut, toList_L, ht, List.drop_eq_getElem_cons hlt, place_cons]
    by_cases h : (L s)[i] = c
    · refine ifp (by rw [h]) (now ?_)
      rw [if_pos h, if_neg (by omega)]; omega
    · refine ifn (by simpa using h) ?_
      have := ih (i + 1) (by omega) (by omega)
      rw [if_neg h]
      rw [place_shift i _ (place_ge _ _)]
      exact this

/-- The first place of a text of one byte. -/
theorem zzIndex_ev (s : ByteArray) (c : UInt8) (t : ByteArray) (ht : L t = [c]) (hs : s.size < 4611686018427387904) : Ev (fun k => net_zzIndex.f k s t) (place (L s) c) := by
  unfold net_zzIndex.f
  have := zzIndex_l0 s c t ht hs _ 0 rfl (by omega)
  simp only [List.drop_zero] at this
  have e : (if place (L s) c = -1 then (-1 : Int) else ((0 : Nat) : Int) + place (L s) c) = place (L s) c := by split <;> simp_all
  rw [e] at this
  exact this
theorem whole_digs {l : List UInt8} (hd : digs l) (hne : l ≠ []) (h18 : l.length ≤ 18) : whole (-9223372036854775808) 9223372036854775807 l = some ((val 0 l : Nat) : Int) := by
  have h1 := val_lt l 0 hd
  have h2 : (10 : Nat) ^ l.length ≤ 10 ^ 18 := Nat.pow_le_pow_right (by decide) h18
  have h3 : (10 : Nat) ^ 18 = 1000000000000000000 := by decide
  cases l with
  | nil => exact absurd rfl hne
  | cons c r =>
    obtain ⟨hc, hr⟩ := digs_cons.1 hd
    unfold dig at hc
    have hb : body (c :: r) = c :: r := by show (if _ then _ else _) = _; rw [if_neg (by omega)]
    have hn : neg (c :: r) = false := by show decide _ = _; exact decide_eq_false (by omega)
    unfold whole num
    rw [hb, hn]
    simp only [Bool.false_eq_true, if_false]
    rw [if_pos ⟨hne, hd, by omega, by omega⟩]

theorem val_app : ∀ (a : List UInt8) (acc : Nat) (c : UInt8), val acc (a ++ [c]) = val acc a * 10 + (c.toNat - 48)
  | [], _, _ => rfl
  | x :: a, acc, c => val_app a (acc * 10 + (x.toNat - 48)) c

/-- A number's decimal digits. -/
theorem text_ev : ∀ (j n : Nat), n < 10 ^ (j + 1) → j < 18 → ∃ s : ByteArray, Ev (fun k => spec_digits.f k (n : Int)) s ∧ digs (L s) ∧ L s ≠ [] ∧ val 0 (L s) = n ∧ s.size ≤ j + 1 := by
  have dg : ∀ n : Nat, (48 + ((Int.tmod (n : Int) 10) % 256)) % 256 = ((48 + n % 10 : Nat) : Int) := by
    intro n
    have e : Int.tmod (n : Int) 10 = ((n % 10 : Nat) : Int) := by rw [Int.tmod_eq_emod_of_nonneg (by omega)]; omega
    rw [e]; omega
  have dg2 : ∀ n : Nat, n < 10 → (48 + ((n : Int) % 256)) % 256 = ((48 + n % 10 : Nat) : Int) := by
    intro n hn; omega
  have one : ∀ n : Nat, L (strOfNums [((48 + n % 10 : Nat) : Int)]) = [UInt8.ofNat (48 + n % 10)] := fun n => rfl
  have tn : ∀ n : Nat, (UInt8.ofNat (48 + n % 10)).toNat = 48 + n % 10 := fun n => by
    have : (UInt8.ofNat (48 + n % 10)).toNat = (48 + n % 10) % 256 := rfl
    omega
  have dd : ∀ n : Nat, dig (UInt8.ofNat (48 + n % 10)) := fun n => by unfold dig; rw [tn]; omega
  intro j
  induction j with
  | zero =>
    intro n hn _
    refine ⟨_, Ev.step (fun k => spec_digits.f.eq_2 ..) (ifp (by omega) (Ev.now _)), ?_⟩
    rw [dg2 n (by omega), size_L, one]
    refine ⟨fun c hc => by rw [List.mem_singleton.1 hc]; exact dd n, by simp, ?_, by simp⟩
    show 0 * 10 + ((UInt8.ofNat (48 + n % 10)).toNat - 48) = n
    rw [tn]; omega
  | succ j ih =>
    intro n hn hj
    by_cases h10 : n < 10
    · refine ⟨_, Ev.step (fun k => spec_digits.f.eq_2 ..) (ifp (by omega) (Ev.now _)), ?_⟩
      rw [dg2 n h10, size_L, one]
      refine ⟨fun c hc => by rw [List.mem_singleton.1 hc]; exact dd n, by simp, ?_, by simp⟩
      show 0 * 10 + ((UInt8.ofNat (48 + n % 10)).toNat - 48) = n
      rw [tn]; omega
    · obtain ⟨s, hs, h1, h2, h3, h4⟩ := ih (n / 10) (by rw [Nat.pow_succ] at hn; omega) (by omega)
      have e18 : (10 : Nat) ^ (j + 1 + 1) ≤ 10 ^ 18 := Nat.pow_le_pow_right (by decide) (by omega)
      have e18b : (10 : Nat) ^ 18 = 1000000000000000000 := by decide
      have e : IntKind.u64.wrap (Int.tdiv (n : Int) 10) = ((n / 10 : Nat) : Int) := by
        rw [Int.tdiv_eq_ediv_of_nonneg (by omega), IntKind.wrap_u64]; omega
      have z1 : (strOfNums [((48 + n % 10 : Nat) : Int)]).size = 1 := rfl
      refine ⟨s ++ strOfNums [((48 + n % 10 : Nat) : Int)], Ev.step (fun k => spec_digits.f.eq_2 ..) (ifn (by omega) ?_), ?_, ?_, ?_, ?_⟩
      · rw [e, dg]
        exact hs.bind (sb (ifp (by rw [z1]; omega) (Ev.now _)))
      · rw [L_append, one]
        intro c hc
        rcases List.mem_append.1 hc with h | h
        · exact h1 c h
        · rw [List.mem_singleton.1 h]; exact dd n
      · rw [L_append, one]; simp
      · rw [L_append, one, val_app, h3, tn]; omega
      · rw [ByteArray.size_append, z1]; omega

/-- A number's digits, of one from 0 to 2^20. -/
theorem number_ev (n : Int) (h0 : 0 ≤ n) (h1 : n ≤ 1048576) : ∃ s : ByteArray, Ev (fun k => spec_number.f k n) s ∧ digs (L s) ∧ L s ≠ [] ∧ ((val 0 (L s) : Nat) : Int) = n ∧ s.size ≤ 7 := by
  obtain ⟨s, e, d, ne, v, z⟩ := text_ev 6 n.toNat (by rw [show (10 : Nat) ^ (6 + 1) = 10000000 from by decide]; omega) (by omega)
  rw [show ((n.toNat : Nat) : Int) = n from by omega] at e
  refine ⟨s, ?_, d, ne, by omega, z⟩
  unfold spec_number.f
  refine ifn (by omega) ?_
  rw [show IntKind.u64.wrap n = n from by rw [IntKind.wrap_u64]; omega]
  exact e.bind (Ev.now _)

theorem space_no (c : Int) (h0 : 33 ≤ c) (h1 : c < 128) : net_zzSpace.f c = some false := by
  unfold net_zzSpace.f
  repeat rw [if_neg (by omega)]

/-- What stands at the ends is no white space. -/
structure Edges (s : ByteArray) : Prop where
  pos : 0 < s.size
  small : s.size ≤ 140737488351232
  first : 33 ≤ bt s 0 ∧ bt s 0 < 128
  last : 33 ≤ bt s ((s.size : Int) - 1) ∧ bt s ((s.size : Int) - 1) < 128

theorem trim_ev (s : ByteArray) (h : Edges s) : Ev (fun k => net_zzTrimSpace.f k s) s := by
  have hp := h.pos
  have hm := h.small
  have d1 : ∀ k, utf8_DecodeRuneInString.f k s = some (bt s 0, 1) := by
    intro k
    unfold utf8_DecodeRuneInString.f
    exact if_pos ⟨hp, h.first.2⟩
  have d2 : ∀ k, utf8_DecodeLastRuneInString.f k s = some (bt s ((s.size : Int) - 1), 1) := by
    intro k
    unfold utf8_DecodeLastRuneInString.f
    exact if_pos ⟨hp, by omega, h.last.2⟩
  unfold net_zzTrimSpace.f
  refine Ev.step (fun k => net_zzTrimSpace.l0.eq_2 ..) (ifp (by omega) ((Ev.congr d1 (Ev.now _)).bind (cb (space_no _ h.first.1 h.first.2) (ifn (by simp) ?_))))
  refine Ev.step (fun k => net_zzTrimSpace.j1.eq_2 ..) ?_
  exact Ev.step (fun k => net_zzTrimSpace.l1.eq_2 ..) (ifp (by omega) ((Ev.congr d2 (Ev.now _)).bind (cb (space_no _ h.last.1 h.last.2) (ifn (by simp) (Ev.now _)))))

/-- The ends of a text out of its bytes: all of them are between 33 and 127. -/
theorem edges_of (s : ByteArray) (hs : s.size ≤ 140737488351232) (hne : L s ≠ []) (h : ∀ c ∈ L s, 33 ≤ c.toNat ∧ c.toNat < 128) : Edges s := by
  have hz := size_L s
  have hp := List.length_pos_iff.2 hne
  have at_ : ∀ i : Nat, i < (L s).length → 33 ≤ bt s (i : Int) ∧ bt s (i : Int) < 128 := by
    intro i hi
    rw [bt_L s i hi]
    have := h _ (List.getElem_mem hi)
    omega
  refine ⟨by omega, hs, at_ 0 hp, ?_⟩
  have := at_ ((L s).length - 1) (by omega)
  rw [show (((L s).length - 1 : Nat) : Int) = (s.size : Int) - 1 from by omega] at this
  exact this

theorem minus : L (⟨#[45]⟩ : ByteArray) = [45] := rfl
theorem plus : L (⟨#[43]⟩ : ByteArray) = [43] := rfl
theorem one1 : (⟨#[45]⟩ : ByteArray).size = 1 := rfl
theorem one2 : (⟨#[43]⟩ : ByteArray).size = 1 := rfl

theorem parse_at (s : ByteArray) (h : Edges s) (hi : place (L s) 45 = -1 ∨ 0 ≤ place (L s) 45 ∧ place (L s) 45 + 1 ≤ s.size) (hj : place (L s) 43 = -1 ∨ 0 ≤ place (L s) 43 ∧ place (L s) 43 + 1 ≤ s.size) :
    Ev (fun k => impl_PortsParse.f k s) (portsV (portsOf s (place (L s) 45) (place (L s) 43))) := by
  have hp := h.pos
  have hm := h.small
  unfold impl_PortsParse.f
  refine (trim_ev s h).bind ((zzIndex_ev s 45 _ minus (by omega)).bind ((zzIndex_ev s 43 _ plus (by omega)).bind (ifp ⟨?_, hm, hi, hj⟩ (Ev.now _))))
  rw [toList_L]
  have hz := size_L s
  refine beq_eq_false_iff_ne.mpr ?_
  intro e
  have : (L s).length = 0 := by rw [e]; rfl
  omega

/-- Two numbers with a sign between. -/
def two (f : Int → Int → Option (Int × Int)) (A B : List UInt8) : Option (Int × Int) :=
  match whole (-9223372036854775808) 9223372036854775807 A with
  | none => none
  | some lo => match whole (-9223372036854775808) 9223372036854775807 B with
    | none => none
    | some hi => f lo hi

theorem place_bound {l : List UInt8} {c : UInt8} : place l c = -1 ∨ 0 ≤ place l c ∧ place l c + 1 ≤ (l.length : Int) := by
  rcases place_cases l c with ⟨_, h⟩ | ⟨a, b, e, _, h⟩
  · exact .inl h
  · refine .inr ⟨by omega, ?_⟩
    rw [h, e]; simp; omega

theorem parse_hyph (s : ByteArray) (A B : List UInt8) (h : Edges s) (e : L s = A ++ 45 :: B) (n1 : 45 ∉ A) (n2 : 43 ∉ L s) :
    Ev (fun k => impl_PortsParse.f k s) (portsV (two portRes A B)) := by
  have hz := size_L s
  have hp : place (L s) 45 = (A.length : Int) := by rw [e]; exact place_split n1
  have hq : place (L s) 43 = -1 := place_neg n2
  have := parse_at s h (by rw [hz]; exact place_bound) (.inl hq)
  rw [hp, hq] at this
  have e1 : (s.extract 0 ((A.length : Int)).toNat).data.toList = A := by
    show L (s.extract 0 ((A.length : Int)).toNat) = A
    rw [show ((A.length : Int)).toNat = A.length from by omega, L_upto, e]; simp
  have e2 : (s.extract ((A.length : Int) + 1).toNat s.size).data.toList = B := by
    show L (s.extract ((A.length : Int) + 1).toNat s.size) = B
    rw [show ((A.length : Int) + 1).toNat = A.length + 1 from by omega, L_from, e, show A ++ 45 :: B = (A ++ [45]) ++ B from by simp, List.drop_append_of_le_length (by simp)]; simp
  unfold portsOf at this
  rw [if_neg (by omega), if_pos rfl, e1, e2] at this
  exact this

theorem parse_plus (s : ByteArray) (A B : List UInt8) (h : Edges s) (e : L s = A ++ 43 :: B) (n1 : 43 ∉ A) (n2 : 45 ∉ L s) :
    Ev (fun k => impl_PortsParse.f k s) (portsV (two (fun lo d => portRes lo (wrap64 (lo + d))) A B)) := by
  have hz := size_L s
  have hp : place (L s) 43 = (A.length : Int) := by rw [e]; exact place_split n1
  have hq : place (L s) 45 = -1 := place_neg n2
  have := parse_at s h (.inl hq) (by rw [hz]; exact place_bound)
  rw [hp, hq] at this
  have e1 : (s.extract 0 ((A.length : Int)).toNat).data.toList = A := by
    show L (s.extract 0 ((A.length : Int)).toNat) = A
    rw [show ((A.length : Int)).toNat = A.length from by omega, L_upto, e]; simp
  have e2 : (s.extract ((A.length : Int) + 1).toNat s.size).data.toList = B := by
    show L (s.extract ((A.length : Int) + 1).toNat s.size) = B
    rw [show ((A.length : Int) + 1).toNat = A.length + 1 from by omega, L_from, e, show A ++ 43 :: B = (A ++ [43]) ++ B from by simp, List.drop_append_of_le_length (by simp)]; simp
  unfold portsOf at this
  rw [if_pos rfl, if_neg (by omega), e1, e2] at this
  exact this

theorem parse_one (s : ByteArray) (h : Edges s) (n1 : 45 ∉ L s) (n2 : 43 ∉ L s) :
    Ev (fun k => impl_PortsParse.f k s) (portsV (match whole (-9223372036854775808) 9223372036854775807 (L s) with | none => none | some v => portRes v v)) := by
  have hp : place (L s) 45 = -1 := place_neg n1
  have hq : place (L s) 43 = -1 := place_neg n2
  have := parse_at s h (.inl hp) (.inl hq)
  rw [hp, hq] at this
  exact this

theorem digs_no {l : List UInt8} (h : digs l) : 45 ∉ l ∧ 43 ∉ l := by
  constructor
  · intro hc; have := h _ hc; unfold dig at this; rw [show (45 : UInt8).toNat = 45 from rfl] at this; omega
  · intro hc; have := h _ hc; unfold dig at this; rw [show (43 : UInt8).toNat = 43 from rfl] at this; omega

theorem dig_in {l : List UInt8} (h : digs l) : ∀ c ∈ l, 33 ≤ c.toNat ∧ c.toNat < 128 := by
  intro c hc
  have := h c hc
  unfold dig at this
  omega

theorem whole_text {s : ByteArray} (d : digs (L s)) (ne : L s ≠ []) (z : s.size ≤ 7) : whole (-9223372036854775808) 9223372036854775807 (L s) = some ((val 0 (L s) : Nat) : Int) :=
  whole_digs d ne (by have := size_L s; omega)

theorem portRes_ok {lo hi : Int} (h0 : 0 ≤ lo) (h1 : lo ≤ hi) (h2 : hi ≤ 65535) : portRes lo hi = some (lo, hi - lo + 1) := by
  unfold portRes
  rw [if_neg (by omega), if_neg (by omega), if_neg (by omega), w64 (x := 1 + hi) (by omega) (by omega), w64 (by omega) (by omega)]
  congr 2
  omega

end Go.Proofs.YtmkpkpkcoieeiabDoor.LFnPortsWrong
