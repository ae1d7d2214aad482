/- Versions: the scanners of a text in plain Lean: white space, digits, words, the pieces between points. -/
import Derived.Test.YtmfgkidppchobaaDoorXWaysA
import Derived.Test.YtmfgkidppchobaaDoorXWaysB
import Derived.Test.YtmfgkidppchobaaDoorStr
import Derived.Test.YtmfgkidppchobaaDoorVerE
set_option linter.unusedSimpArgs false
set_option linter.unusedVariables false
namespace Go.Proofs.YtmfgkidppchobaaDoor.VerP
open Go.RowKit Go.Proofs.YtmfgkidppchobaaDoorW.PrintWords Go.Proofs.YtmfgkidppchobaaDoorW.PrintLast Go.Proofs.YtmfgkidppchobaaDoor.XFnVersionWays Go.Proofs.YtmfgkidppchobaaDoor.EvL Go.Proofs.YtmfgkidppchobaaDoor.Str
def wh (c : UInt8) : Bool := decide (c.toNat = 32 ∨ c.toNat = 9 ∨ c.toNat = 10 ∨ c.toNat = 12 ∨ c.toNat = 13)
def dg (c : UInt8) : Bool := decide (48 ≤ c.toNat ∧ c.toNat ≤ 57)
def wd (c : UInt8) : Bool := decide ((48 ≤ c.toNat ∧ c.toNat ≤ 57) ∨ (65 ≤ c.toNat ∧ c.toNat ≤ 90) ∨ (97 ≤ c.toNat ∧ c.toNat ≤ 122) ∨ c.toNat = 45)
def cnt (p : UInt8 → Bool) : List UInt8 → Nat
 | [] => 0
 | c :: r => if p c = true then cnt p r + 1 else 0
def run (p : UInt8 → Bool) : List UInt8 → Nat
 | [] => 0
 | c :: r => if p c = true then run p r + 1 else if c = 46 ∧ cnt p r ≠ 0 then run p r + 1 else 0
theorem cnt_cons (p : UInt8 → Bool) (c : UInt8) (r : List UInt8) : cnt p (c :: r) = if p c = true then cnt p r + 1 else 0 := rfl
theorem run_cons (p : UInt8 → Bool) (c : UInt8) (r : List UInt8) : run p (c :: r) = if p c = true then run p r + 1 else if c = 46 ∧ cnt p r ≠ 0 then run p r + 1 else 0 := rfl
theorem cnt_le (p : UInt8 → Bool) (l : List UInt8) : cnt p l ≤ l.length := by
 induction l with
 | nil => exact Nat.le_refl _
 | cons c r ih => unfold cnt; split <;> simp <;> omega
theorem run_le (p : UInt8 → Bool) (l : List UInt8) : run p l ≤ l.length := by
 induction l with
 | nil => exact Nat.le_refl _
 | cons c r ih => unfold run; split <;> (try split) <;> simp <;> omega
theorem run_cnt (p : UInt8 → Bool) (l : List UInt8) : run p l = cnt p l + run p (l.drop (cnt p l)) := by
 induction l with
 | nil => rfl
 | cons c r ih =>
  by_cases h : p c = true
  ·have e1 : cnt p (c :: r) = cnt p r + 1 := by rw [cnt_cons, if_pos h]
   have e2 : run p (c :: r) = run p r + 1 := by rw [run_cons, if_pos h]
   rw [e1, e2, List.drop_succ_cons]; omega
  ·have e1 : cnt p (c :: r) = 0 := by rw [cnt_cons, if_neg h]
   rw [e1]; simp
theorem cnt_drop (p : UInt8 → Bool) (l : List UInt8) : cnt p (l.drop (cnt p l)) = 0 := by
 induction l with
 | nil => rfl
 | cons c r ih =>
  by_cases h : p c = true
  ·have e1 : cnt p (c :: r) = cnt p r + 1 := by rw [cnt_cons, if_pos h]
   rw [e1, List.drop_succ_cons]; exact ih
  ·have e1 : cnt p (c :: r) = 0 := by rw [cnt_cons, if_neg h]
   rw [e1, List.drop_zero, e1]
theorem blanks_l0 (s : ByteArray) (hs : s.size < 4611686018427387904) (n : Nat) : ∀ i : Nat, (L s).length - i = n → i ≤ (L s).length →
  Ev (fun k => version_zzBlanks.l0 k s i) ((i + cnt wh ((L s).drop i) : Nat) : Int) := by
 have hz := size_L s
 induction n with
 | zero =>
  intro i hn hi
  refine Ev.step (fun k => version_zzBlanks.l0.eq_2 ..) (ifn (by omega) (now ?_))
  rw [List.drop_eq_nil_of_le (by omega)]; rfl
 | succ n ih =>
  intro i hn hi
  have hlt : i < (L s).length := by omega
  have hb := bt_L s i hlt
  have w1 : wrap64 ((i : Int) + 1) = ((i + 1 : Nat) : Int) := w64 (by omega) (by omega)
  have nx := ih (i + 1) (by omega) (by omega)
  refine Ev.step (fun k => version_zzBlanks.l0.eq_2 ..) (ifp (by omega) (ifp (by omega) ?_))
  rw [hb, w1, List.drop_eq_getElem_cons hlt, cnt_cons]
  have e2 : ∀ m, i + 1 + m = i + (m + 1) := by omega
  rw [e2] at nx
  have yes : ∀ m : Nat, (L s)[i].toNat = m → (m = 32 ∨ m = 9 ∨ m = 10 ∨ m = 12 ∨ m = 13) → wh (L s)[i] = true := by
   intro m h1 h2; unfold wh; rw [h1]; exact decide_eq_true h2
  by_cases h1 : (L s)[i].toNat = 32
  ·refine ifp (by rw [h1]; rfl) ?_
   rw [if_pos (yes _ h1 (by omega))]; exact nx
  refine ifn (by omega) ?_
  by_cases h2 : (L s)[i].toNat = 9
  ·refine ifp (by rw [h2]; rfl) ?_
   rw [if_pos (yes _ h2 (by omega))]; exact nx
  refine ifn (by omega) ?_
  by_cases h3 : (L s)[i].toNat = 10
  ·refine ifp (by rw [h3]; rfl) ?_
   rw [if_pos (yes _ h3 (by omega))]; exact nx
  refine ifn (by omega) ?_
  by_cases h4 : (L s)[i].toNat = 12
  ·refine ifp (by rw [h4]; rfl) ?_
   rw [if_pos (yes _ h4 (by omega))]; exact nx
  refine ifn (by omega) ?_
  by_cases h5 : (L s)[i].toNat = 13
  ·refine ifp (by rw [h5]; rfl) ?_
   rw [if_pos (yes _ h5 (by omega))]; exact nx
  refine ifn (by omega) (now ?_)
  rw [if_neg (by unfold wh; rw [decide_eq_true_eq]; omega)]; simp
theorem blanks_ev (s : ByteArray) (hs : s.size < 4611686018427387904) (i : Nat) (hi : i ≤ (L s).length) : Ev (fun k => version_zzBlanks.f k s i) ((i + cnt wh ((L s).drop i) : Nat) : Int) := blanks_l0 s hs _ i rfl hi
theorem digits_l0 (s : ByteArray) (hs : s.size < 4611686018427387904) (n : Nat) : ∀ i : Nat, (L s).length - i = n → i ≤ (L s).length →
  Ev (fun k => version_zzDigits_83.l0 k s i) ((i + cnt dg ((L s).drop i) : Nat) : Int) := by
 have hz := size_L s
 induction n with
 | zero =>
  intro i hn hi
  refine Ev.step (fun k => version_zzDigits_83.l0.eq_2 ..) (ifn (by omega) (now ?_))
  rw [List.drop_eq_nil_of_le (by omega)]; rfl
 | succ n ih =>
  intro i hn hi
  have hlt : i < (L s).length := by omega
  have hb := bt_L s i hlt
  have w1 : wrap64 ((i : Int) + 1) = ((i + 1 : Nat) : Int) := w64 (by omega) (by omega)
  have nx := ih (i + 1) (by omega) (by omega)
  refine Ev.step (fun k => version_zzDigits_83.l0.eq_2 ..) (ifp (by omega) (ifp (by omega) ?_))
  rw [hb, w1, List.drop_eq_getElem_cons hlt, cnt_cons]
  have e2 : ∀ m, i + 1 + m = i + (m + 1) := by omega
  rw [e2] at nx
  by_cases h1 : 48 ≤ (L s)[i].toNat
  ·refine ifp (by omega) ?_
   by_cases h2 : (L s)[i].toNat ≤ 57
   ·refine ifp (by omega) ?_
    rw [if_pos (show dg (L s)[i] = true from decide_eq_true ⟨h1, h2⟩)]; exact nx
   ·refine ifn (by omega) (now ?_)
    rw [if_neg (by unfold dg; rw [decide_eq_true_eq]; omega)]; simp
  ·refine ifn (by omega) (now ?_)
   rw [if_neg (by unfold dg; rw [decide_eq_true_eq]; omega)]; simp
theorem digits_ev (s : ByteArray) (hs : s.size < 4611686018427387904) (i : Nat) (hi : i ≤ (L s).length) : Ev (fun k => version_zzDigits_83.f k s i) ((i + cnt dg ((L s).drop i) : Nat) : Int) := digits_l0 s hs _ i rfl hi
def at0 (l : List UInt8) : Nat := cnt wh l + (if (l.drop (cnt wh l)).head? = some 118 then 1 else 0)
def verL (s : ByteArray) : List ByteArray :=
 if cnt dg ((L s).drop (at0 (L s))) = 0 then []
 else if 10 ∈ (L s).drop (at0 (L s) + run dg ((L s).drop (at0 (L s)))) then []
 else [s, s.extract (at0 (L s)) (at0 (L s) + run dg ((L s).drop (at0 (L s)))), s.extract (at0 (L s) + run dg ((L s).drop (at0 (L s)))) s.size]
theorem ver_l1 (s : ByteArray) (hs : s.size < 4611686018427387904) (a e : Nat) (hae : a ≤ e) (hes : e ≤ (L s).length) (n : Nat) : ∀ i : Nat, (L s).length - i = n → i ≤ (L s).length →
  Ev (fun k => version_zzVersion.l1 k s a e i) (if 10 ∈ (L s).drop i then [] else [s, s.extract a e, s.extract e s.size]) := by
 have hz := size_L s
 induction n with
 | zero =>
  intro i hn hi
  refine Ev.step (fun k => version_zzVersion.l1.eq_2 ..) (ifn (by omega) (ifp (by omega) (ifp (by omega) (ifp (by omega) (ifp (by omega) (now ?_))))))
  rw [List.drop_eq_nil_of_le (by omega), if_neg (by simp), Int.toNat_natCast, Int.toNat_natCast]
 | succ n ih =>
  intro i hn hi
  have hlt : i < (L s).length := by omega
  have hb := bt_L s i hlt
  have w1 : wrap64 ((i : Int) + 1) = ((i + 1 : Nat) : Int) := w64 (by omega) (by omega)
  have nx := ih (i + 1) (by omega) (by omega)
  refine Ev.step (fun k => version_zzVersion.l1.eq_2 ..) (ifp (by omega) (ifp (by omega) ?_))
  rw [hb, w1, List.drop_eq_getElem_cons hlt]
  by_cases h : (L s)[i] = 10
  ·refine ifp (by rw [h]; rfl) (now ?_)
   rw [if_pos (by simp [h])]
  ·refine ifn (fun e => h ((byte_eq (b := 10)).1 e)) ?_
   have h2 : ¬ (10 : UInt8) = (L s)[i] := fun e => h e.symm
   simp only [List.mem_cons, h2, false_or]
   exact nx
theorem ver_l0 (s : ByteArray) (hs : s.size < 4611686018427387904) (a : Nat) (n : Nat) : ∀ i : Nat, (L s).length - i ≤ n → i ≤ (L s).length → a ≤ i → cnt dg ((L s).drop i) = 0 →
  Ev (fun k => version_zzVersion.l0 k s a i) (if 10 ∈ (L s).drop (i + run dg ((L s).drop i)) then [] else [s, s.extract a (i + run dg ((L s).drop i)), s.extract (i + run dg ((L s).drop i)) s.size]) := by
 have hz := size_L s
 induction n with
 | zero =>
  intro i hn hi ha hc
  refine Ev.step (fun k => version_zzVersion.l0.eq_2 ..) (ifn (by omega) ?_)
  refine Ev.step (fun k => version_zzVersion.j3.eq_2 ..) (ifn (by simp) ?_)
  refine Ev.step (fun k => version_zzVersion.j4.eq_2 ..) ?_
  rw [show run dg ((L s).drop i) = 0 from by rw [List.drop_eq_nil_of_le (by omega)]; rfl, Nat.add_zero]
  exact ver_l1 s hs a i ha hi _ i rfl hi
 | succ n ih =>
  intro i hn hi ha hc
  rcases Nat.lt_or_ge i (L s).length with hlt | hge
  case inr =>
   refine Ev.step (fun k => version_zzVersion.l0.eq_2 ..) (ifn (by omega) ?_)
   refine Ev.step (fun k => version_zzVersion.j3.eq_2 ..) (ifn (by simp) ?_)
   refine Ev.step (fun k => version_zzVersion.j4.eq_2 ..) ?_
   rw [show run dg ((L s).drop i) = 0 from by rw [List.drop_eq_nil_of_le (by omega)]; rfl, Nat.add_zero]
   exact ver_l1 s hs a i ha hi _ i rfl hi
  have hb := bt_L s i hlt
  have w1 : wrap64 ((i : Int) + 1) = ((i + 1 : Nat) : Int) := w64 (by omega) (by omega)
  refine Ev.step (fun k => version_zzVersion.l0.eq_2 ..) (ifp (by omega) (ifp (by omega) ?_))
  rw [hb]
  have hd := List.drop_eq_getElem_cons hlt
  have hnd : ¬ dg (L s)[i] = true := by
   intro h; rw [hd, cnt_cons, if_pos h] at hc; omega
  by_cases h : (L s)[i] = 46
  ·rw [show (((L s)[i].toNat : Int) == 46) = true from by rw [h]; rfl]
   refine Ev.step (fun k => version_zzVersion.j3.eq_2 ..) (ifp rfl ?_)
   rw [w1]
   refine (digits_ev s hs (i + 1) (by omega)).bind ?_
   by_cases h0 : cnt dg ((L s).drop (i + 1)) = 0
   ·refine ifp (by omega) ?_
    refine Ev.step (fun k => version_zzVersion.j4.eq_2 ..) ?_
    rw [show run dg ((L s).drop i) = 0 from by rw [hd, run_cons, if_neg hnd, if_neg (by rintro ⟨_, h2⟩; exact h2 h0)], Nat.add_zero]
    exact ver_l1 s hs a i ha hi _ i rfl hi
   ·refine ifn (by omega) ?_
    have hle := cnt_le dg ((L s).drop (i + 1))
    rw [List.length_drop] at hle
    have nx := ih (i + 1 + cnt dg ((L s).drop (i + 1))) (by omega) (by omega) (by omega) (by
     have := cnt_drop dg ((L s).drop (i + 1))
     rwa [List.drop_drop] at this)
    have e1 : i + run dg ((L s).drop i) = i + 1 + cnt dg ((L s).drop (i + 1)) + run dg ((L s).drop (i + 1 + cnt dg ((L s).drop (i + 1)))) := by
     rw [hd, run_cons, if_neg hnd, if_pos ⟨h, h0⟩, run_cnt dg ((L s).drop (i + 1)), List.drop_drop]; omega
    rw [e1]; exact nx
  ·rw [show (((L s)[i].toNat : Int) == 46) = false from beq_eq_false_iff_ne.2 (fun e => h ((byte_eq (b := 46)).1 e))]
   refine Ev.step (fun k => version_zzVersion.j3.eq_2 ..) (ifn (by simp) ?_)
   refine Ev.step (fun k => version_zzVersion.j4.eq_2 ..) ?_
   rw [show run dg ((L s).drop i) = 0 from by rw [hd, run_cons, if_neg hnd, if_neg (by rintro ⟨h2, _⟩; exact h h2)], Nat.add_zero]
   exact ver_l1 s hs a i ha hi _ i rfl hi
theorem ver_j1 (s : ByteArray) (hs : s.size < 4611686018427387904) (i : Nat) (hi : i ≤ (L s).length) :
  Ev (fun k => version_zzVersion.j1 k s i) (if cnt dg ((L s).drop i) = 0 then [] else if 10 ∈ (L s).drop (i + run dg ((L s).drop i)) then [] else [s, s.extract i (i + run dg ((L s).drop i)), s.extract (i + run dg ((L s).drop i)) s.size]) := by
 have hz := size_L s
 refine Ev.step (fun k => version_zzVersion.j1.eq_2 ..) ?_
 refine (digits_ev s hs i hi).bind ?_
 by_cases h0 : cnt dg ((L s).drop i) = 0
 ·refine ifp (by omega) (now ?_)
  rw [if_pos h0]
 ·refine ifn (by omega) ?_
  rw [if_neg h0]
  have hle := cnt_le dg ((L s).drop i)
  rw [List.length_drop] at hle
  have nx := ver_l0 s hs i _ (i + cnt dg ((L s).drop i)) (Nat.le_refl _) (by omega) (by omega) (by
   have := cnt_drop dg ((L s).drop i)
   rwa [List.drop_drop] at this)
  have e1 : i + run dg ((L s).drop i) = i + cnt dg ((L s).drop i) + run dg ((L s).drop (i + cnt dg ((L s).drop i))) := by
   rw [run_cnt dg ((L s).drop i), List.drop_drop]; omega
  rw [e1]; exact nx
theorem head_at (l : List UInt8) (i : Nat) (h : i < l.length) : (l.drop i).head? = some l[i] := by
 rw [List.drop_eq_getElem_cons h]; rfl
theorem zzVersion_ev (s : ByteArray) (hs : s.size < 4611686018427387904) : Ev (fun k => version_zzVersion.f k s) (verL s) := by
 have hz := size_L s
 unfold version_zzVersion.f
 refine (blanks_ev s hs 0 (by omega)).bind ?_
 have hle := cnt_le wh ((L s).drop 0)
 simp only [List.drop_zero, Nat.zero_add, List.length_drop, Nat.sub_zero] at hle ⊢
 unfold verL
 rcases Nat.lt_or_ge (cnt wh (L s)) (L s).length with hlt | hge
 ·refine ifp (by omega) (ifp (by omega) ?_)
  rw [bt_L s _ hlt]
  have hh := head_at (L s) _ hlt
  by_cases h : (L s)[cnt wh (L s)] = 118
  ·rw [show (((L s)[cnt wh (L s)].toNat : Int) == 118) = true from by rw [h]; rfl]
   refine Ev.step (fun k => version_zzVersion.j0.eq_2 ..) (ifp rfl ?_)
   rw [show wrap64 ((cnt wh (L s) : Int) + 1) = ((cnt wh (L s) + 1 : Nat) : Int) from w64 (by omega) (by omega)]
   rw [show at0 (L s) = cnt wh (L s) + 1 from by unfold at0; rw [hh, h, if_pos rfl]]
   exact ver_j1 s hs _ (by omega)
  ·rw [show (((L s)[cnt wh (L s)].toNat : Int) == 118) = false from beq_eq_false_iff_ne.2 (fun e => h ((byte_eq (b := 118)).1 e))]
   refine Ev.step (fun k => version_zzVersion.j0.eq_2 ..) (ifn (by simp) ?_)
   rw [show at0 (L s) = cnt wh (L s) from by unfold at0; rw [hh, if_neg (by simpa using h), Nat.add_zero]]
   exact ver_j1 s hs _ (by omega)
 ·refine ifn (by omega) ?_
  refine Ev.step (fun k => version_zzVersion.j0.eq_2 ..) (ifn (by simp) ?_)
  rw [show at0 (L s) = cnt wh (L s) from by unfold at0; rw [List.drop_eq_nil_of_le hge]; rfl]
  exact ver_j1 s hs _ (by omega)
def spl (c : UInt8) : List UInt8 → List (List UInt8)
 | [] => [[]]
 | a :: r => if a = c then [] :: spl c r else match spl c r with
  | [] => [[a]]
  | h :: t => (a :: h) :: t
theorem spl_ne (c : UInt8) (l : List UInt8) : spl c l ≠ [] := by
 cases l with
 | nil => simp [spl]
 | cons a r => unfold spl; split <;> (try split) <;> simp
theorem spl_none {c : UInt8} {l : List UInt8} (h : c ∉ l) : spl c l = [l] := by
 induction l with
 | nil => rfl
 | cons a r ih =>
  have h1 : ¬ a = c := fun e => h (by simp [e])
  rw [spl, if_neg h1, ih (fun hm => h (by simp [hm]))]
theorem spl_at {c : UInt8} {a b : List UInt8} (h : c ∉ a) : spl c (a ++ c :: b) = a :: spl c b := by
 induction a with
 | nil => rw [List.nil_append, spl, if_pos rfl]
 | cons x r ih =>
  have h1 : ¬ x = c := fun e => h (by simp [e])
  rw [List.cons_append, spl, if_neg h1, ih (fun hm => h (by simp [hm]))]
theorem spl_len (c : UInt8) (l : List UInt8) : (spl c l).length ≤ l.length + 1 := by
 induction l with
 | nil => simp [spl]
 | cons a r ih =>
  unfold spl
  split
  ·simp; omega
  ·split
   ·simp
   ·rename_i h t e
    rw [e] at ih
    simp at ih ⊢; omega
theorem spl_mem {c : UInt8} {l x : List UInt8} (h : x ∈ spl c l) : x.length ≤ l.length ∧ ∀ b ∈ x, b ∈ l := by
 induction l generalizing x with
 | nil =>
  have : x = [] := by simpa [spl] using h
  subst this; simp
 | cons a r ih =>
  unfold spl at h
  split at h
  ·rcases List.mem_cons.1 h with rfl | h
   ·simp
   ·have := ih h
    exact ⟨by simp; omega, fun b hb => List.mem_cons_of_mem _ (this.2 b hb)⟩
  ·split at h
   ·obtain rfl : x = [a] := by simpa using h
    simp
   ·rename_i h' t e
    rcases List.mem_cons.1 h with rfl | h
    ·have := ih (x := h') (by rw [e]; simp)
     refine ⟨by simp; omega, fun b hb => ?_⟩
     rcases List.mem_cons.1 hb with rfl | hb
     ·simp
     ·exact List.mem_cons_of_mem _ (this.2 b hb)
    ·have := ih (x := x) (by rw [e]; simp [h])
     exact ⟨by simp; omega, fun b hb => List.mem_cons_of_mem _ (this.2 b hb)⟩
def mk (l : List UInt8) : ByteArray := ⟨l.toArray⟩
theorem mk_L (s : ByteArray) : mk (L s) = s := (L_of s).symm
theorem L_mk' (l : List UInt8) : L (mk l) = l := L_mk l
theorem mk_eq {s : ByteArray} {l : List UInt8} (h : L s = l) : s = mk l := by rw [← h, mk_L]
theorem index_l0 (s : ByteArray) (c : UInt8) (t : ByteArray) (ht : L t = [c]) (hs : s.size < 4611686018427387904) (n : Nat) : ∀ i : Nat, (L s).length - i = n → i ≤ (L s).length →
  Ev (fun k => version_zzIndex.l0 k s t i) (if place ((L s).drop i) c = -1 then -1 else i + place ((L s).drop i) c) := by
 have hz := size_L s
 have htz : t.size = 1 := by rw [size_L, ht]; rfl
 induction n with
 | zero =>
  intro i hn hi
  refine Ev.step (fun k => version_zzIndex.l0.eq_2 ..) ?_
  rw [htz, w64 (x := (i : Int) + ((1 : Nat) : Int)) (by omega) (by omega)]
  refine ifn (by omega) (now ?_)
  rw [List.drop_eq_nil_of_le (by omega), place_neg (by simp), if_pos rfl]
 | succ n ih =>
  intro i hn hi
  have hlt : i < (L s).length := by omega
  refine Ev.step (fun k => version_zzIndex.l0.eq_2 ..) ?_
  rw [htz, w64 (x := (i : Int) + ((1 : Nat) : Int)) (by omega) (by omega), w64 (x := (i : Int) + 1) (by omega) (by omega)]
  refine ifp (by omega) (ifp (by omega) (ifp (by omega) ?_))
  have hcut : (s.extract ((i : Int)).toNat (((i : Int) + ((1 : Nat) : Int))).toNat).toList = [(L s)[i]] := by
   rw [toList_L, L_extract, show ((i : Int)).toNat = i from by omega, show ((i : Int) + ((1 : Nat) : Int)).toNat - i = 1 from by omega, List.drop_eq_getElem_cons hlt]; rfl
  rw [hcut, toList_L, ht, List.drop_eq_getElem_cons hlt, place_cons]
  by_cases h : (L s)[i] = c
  ·refine ifp (by rw [h]) (now ?_)
   rw [if_pos h, if_neg (by omega)]; omega
  ·refine ifn (by simpa using h) ?_
   have := ih (i + 1) (by omega) (by omega)
   rw [if_neg h]
   rw [place_shift i _ (place_ge _ _)]
   exact this
theorem index_ev (s : ByteArray) (c : UInt8) (t : ByteArray) (ht : L t = [c]) (hs : s.size < 4611686018427387904) : Ev (fun k => version_zzIndex.f k s t) (place (L s) c) := by
 unfold version_zzIndex.f
 have := index_l0 s c t ht hs _ 0 rfl (by omega)
 simp only [List.drop_zero] at this
 have e : (if place (L s) c = -1 then (-1 : Int) else ((0 : Nat) : Int) + place (L s) c) = place (L s) c := by split <;> simp_all
 rw [e] at this
 exact this
theorem split_l1 (c : UInt8) (t : ByteArray) (ht : L t = [c]) (n : Nat) : ∀ (s : ByteArray) (out : List ByteArray), (L s).length ≤ n → s.size < 4611686018427387904 → out.length + (L s).length < 8796093022208 →
  Ev (fun k => version_zzSplit.l1 k s t out) (out ++ (spl c (L s)).map mk) := by
 have htz : t.size = 1 := by rw [size_L, ht]; rfl
 induction n with
 | zero =>
  intro s out hn hs ho
  have hz := size_L s
  refine Ev.step (fun k => version_zzSplit.l1.eq_2 ..) ((index_ev s c t ht hs).bind ?_)
  have h0 : L s = [] := List.eq_nil_of_length_eq_zero (by omega)
  rw [h0, place_neg (by simp)]
  refine ifp (by omega) (ifp (by omega) (now ?_))
  rw [spl_none (by simp)]
  show out ++ [s] = out ++ [mk []]
  rw [mk_eq h0]
 | succ n ih =>
  intro s out hn hs ho
  have hz := size_L s
  refine Ev.step (fun k => version_zzSplit.l1.eq_2 ..) ((index_ev s c t ht hs).bind ?_)
  rcases place_cases (L s) c with ⟨hn1, hp⟩ | ⟨a, b, e, hn1, hp⟩
  ·rw [hp]
   refine ifp (by omega) (ifp (by omega) (now ?_))
   rw [spl_none hn1]
   show out ++ [s] = out ++ [mk (L s)]
   rw [mk_L]
  ·rw [hp]
   have hl : (L s).length = a.length + (b.length + 1) := by rw [e]; simp
   have w1 : wrap64 ((a.length : Int) + (t.size : Int)) = ((a.length + 1 : Nat) : Int) := by rw [htz]; exact w64 (by omega) (by omega)
   rw [w1]
   refine ifn (by omega) (ifp (by omega) (ifp (by omega) (ifp (by omega) (ifp (by omega) (ifp (by omega) ?_)))))
   rw [Int.toNat_natCast, Int.toNat_natCast]
   have e1 : s.extract 0 a.length = mk a := mk_eq (by rw [L_upto, e]; simp)
   have e2 : s.extract (a.length + 1) s.size = mk b := mk_eq (by
    rw [L_from, e, show a ++ c :: b = (a ++ [c]) ++ b from by simp, List.drop_left' (by simp)])
   rw [e1, e2]
   have hb : (mk b).size = b.length := by rw [size_L, L_mk']
   have nx := ih (mk b) (out ++ [mk a]) (by rw [L_mk']; omega) (by omega) (by rw [L_mk']; simp; omega)
   rw [L_mk'] at nx
   rw [e, spl_at hn1, List.map_cons, show out ++ mk a :: (spl c b).map mk = (out ++ [mk a]) ++ (spl c b).map mk from by simp]
   exact nx
theorem split_ev (s : ByteArray) (hs : s.size < 4398046511104) : Ev (fun k => version_zzSplit.f k s ⟨#[46]⟩) ((spl 46 (L s)).map mk) := by
 have hz := size_L s
 unfold version_zzSplit.f
 refine ifn (by decide) ?_
 exact split_l1 46 ⟨#[46]⟩ rfl _ s [] (Nat.le_refl _) (by omega) (by simp; omega)
def wlen (l : List UInt8) : Nat := if cnt wd l = 0 then 0 else run wd l
theorem wlen_le (l : List UInt8) : wlen l ≤ l.length := by unfold wlen; split; omega; exact run_le wd l
theorem wd_tests {α : Type} (b : UInt8) {f g : Nat → Option α} {r : α} (h : Ev (if wd b = true then f else g) r) :
  Ev (fun k => (if 48 ≤ (b.toNat : Int) then (if (b.toNat : Int) ≤ 57 then f k else (if 65 ≤ (b.toNat : Int) then (if (b.toNat : Int) ≤ 90 then f k else (if 97 ≤ (b.toNat : Int) then (if (b.toNat : Int) ≤ 122 then f k else (if (b.toNat : Int) = 45 then f k else g k)) else (if (b.toNat : Int) = 45 then f k else g k))) else (if 97 ≤ (b.toNat : Int) then (if (b.toNat : Int) ≤ 122 then f k else (if (b.toNat : Int) = 45 then f k else g k)) else (if (b.toNat : Int) = 45 then f k else g k)))) else (if 65 ≤ (b.toNat : Int) then (if (b.toNat : Int) ≤ 90 then f k else (if 97 ≤ (b.toNat : Int) then (if (b.toNat : Int) ≤ 122 then f k else (if (b.toNat : Int) = 45 then f k else g k)) else (if (b.toNat : Int) = 45 then f k else g k))) else (if 97 ≤ (b.toNat : Int) then (if (b.toNat : Int) ≤ 122 then f k else (if (b.toNat : Int) = 45 then f k else g k)) else (if (b.toNat : Int) = 45 then f k else g k))))) r := by
 obtain ⟨m, hm⟩ : ∃ m : Nat, b.toNat = m := ⟨_, rfl⟩
 unfold wd at h
 rw [hm] at h ⊢
 by_cases hw : (48 ≤ m ∧ m ≤ 57) ∨ (65 ≤ m ∧ m ≤ 90) ∨ (97 ≤ m ∧ m ≤ 122) ∨ m = 45
 ·rw [if_pos (decide_eq_true hw)] at h
  refine Ev.congr (fun k => ?_) h
  repeat' split
  all_goals (first | rfl | (exfalso; omega))
 ·rw [if_neg (by rw [decide_eq_true_eq]; exact hw)] at h
  refine Ev.congr (fun k => ?_) h
  repeat' split
  all_goals (first | rfl | (exfalso; omega))
theorem words_l1 (s : ByteArray) (hs : s.size < 4611686018427387904) (a e : Int) (n : Nat) : ∀ (i : Nat) (r : Int), (L s).length - i = n → i ≤ (L s).length → Ev (fun k => version_zzWords.j2 k s a e ((i + cnt wd ((L s).drop i) : Nat) : Int)) r →
  Ev (fun k => version_zzWords.l1 k s a e i) r := by
 have hz := size_L s
 induction n with
 | zero =>
  intro i r hn hi h
  refine Ev.step (fun k => version_zzWords.l1.eq_2 ..) (ifn (by omega) ?_)
  rw [List.drop_eq_nil_of_le (by omega)] at h
  exact h
 | succ n ih =>
  intro i r hn hi h
  have hlt : i < (L s).length := by omega
  have hb := bt_L s i hlt
  have w1 : wrap64 ((i : Int) + 1) = ((i + 1 : Nat) : Int) := w64 (by omega) (by omega)
  refine Ev.step (fun k => version_zzWords.l1.eq_2 ..) (ifp (by omega) (ifp (by omega) ?_))
  rw [hb, w1]
  rw [List.drop_eq_getElem_cons hlt, cnt_cons] at h
  refine wd_tests (L s)[i] ?_
  by_cases hw : wd (L s)[i] = true
  ·rw [if_pos hw]
   rw [if_pos hw, show i + (cnt wd ((L s).drop (i + 1)) + 1) = i + 1 + cnt wd ((L s).drop (i + 1)) from by omega] at h
   exact ih (i + 1) r (by omega) (by omega) h
  ·rw [if_neg hw]
   rw [if_neg hw] at h
   exact h
theorem words_l0 (s : ByteArray) (hs : s.size < 4611686018427387904) (n : Nat) : ∀ (i : Nat) (e : Int), (L s).length - i ≤ n → i ≤ (L s).length →
  Ev (fun k => version_zzWords.l0 k s i e) (if cnt wd ((L s).drop i) = 0 then e else ((i + run wd ((L s).drop i) : Nat) : Int)) := by
 have hz := size_L s
 induction n with
 | zero =>
  intro i e hn hi
  refine Ev.step (fun k => version_zzWords.l0.eq_2 ..) ?_
  refine words_l1 s hs _ _ _ i _ rfl hi ?_
  refine Ev.step (fun k => version_zzWords.j2.eq_2 ..) ?_
  rw [List.drop_eq_nil_of_le (by omega)]
  refine ifp (by simp [cnt]) (now ?_)
  rw [if_pos (by rfl)]
 | succ n ih =>
  intro i e hn hi
  refine Ev.step (fun k => version_zzWords.l0.eq_2 ..) ?_
  refine words_l1 s hs _ _ _ i _ rfl hi ?_
  refine Ev.step (fun k => version_zzWords.j2.eq_2 ..) ?_
  have hle := cnt_le wd ((L s).drop i)
  rw [List.length_drop] at hle
  by_cases h0 : cnt wd ((L s).drop i) = 0
  ·refine ifp (by omega) (now ?_)
   rw [if_pos h0]
  refine ifn (by omega) ?_
  rw [if_neg h0]
  have hr := run_cnt wd ((L s).drop i)
  have hd := cnt_drop wd ((L s).drop i)
  rw [List.drop_drop] at hr hd
  rcases Nat.lt_or_ge (i + cnt wd ((L s).drop i)) (L s).length with hlt | hge
  ·refine ifn (by omega) (ifp (by omega) (ifp (by omega) ?_))
   rw [bt_L s _ hlt]
   obtain ⟨j, hj⟩ : ∃ j, i + cnt wd ((L s).drop i) = j := ⟨_, rfl⟩
   simp only [hj] at hlt hr hd ⊢
   have hc := List.drop_eq_getElem_cons hlt
   have hnw : ¬ wd (L s)[j] = true := by
    intro h; rw [hc, cnt_cons, if_pos h] at hd; omega
   by_cases h46 : (L s)[j] = 46
   ·refine ifp (by rw [h46]; rfl) ?_
    rw [show wrap64 ((j : Int) + 1) = ((j + 1 : Nat) : Int) from w64 (by omega) (by omega)]
    have nx := ih (j + 1) (j : Int) (by omega) (by omega)
    rw [hr, hc, run_cons, if_neg hnw]
    by_cases h1 : cnt wd ((L s).drop (j + 1)) = 0
    ·rw [if_pos h1] at nx
     rw [if_neg (fun h => h.2 h1)]
     rw [show ((i + (cnt wd ((L s).drop i) + 0) : Nat) : Int) = (j : Int) from by omega]
     exact nx
    ·rw [if_neg h1] at nx
     rw [if_pos ⟨h46, h1⟩]
     rw [show ((i + (cnt wd ((L s).drop i) + (run wd ((L s).drop (j + 1)) + 1)) : Nat) : Int) = ((j + 1 + run wd ((L s).drop (j + 1)) : Nat) : Int) from by omega]
     exact nx
   ·refine ifn (fun e => h46 ((byte_eq (b := 46)).1 e)) (now ?_)
    rw [hr, hc, run_cons, if_neg hnw, if_neg (fun h => h46 h.1)]
    omega
  ·refine ifp (by omega) (now ?_)
   rw [hr, List.drop_eq_nil_of_le hge]
   show _ = ((i + (cnt wd ((L s).drop i) + 0) : Nat) : Int)
   omega
theorem words_ev (s : ByteArray) (hs : s.size < 4611686018427387904) (i : Nat) (hi : i ≤ (L s).length) : Ev (fun k => version_zzWords.f k s i) ((i + wlen ((L s).drop i) : Nat) : Int) := by
 unfold version_zzWords.f
 have := words_l0 s hs _ i (i : Int) (Nat.le_refl _) hi
 unfold wlen
 by_cases h : cnt wd ((L s).drop i) = 0
 ·rw [if_pos h] at this ⊢; simpa using this
 ·rw [if_neg h] at this ⊢; exact this
def sgn (c : UInt8) : List UInt8 → Nat
 | [] => 0
 | a :: r => if a = c then wlen r else 0
theorem sgn_cons (c a : UInt8) (r : List UInt8) : sgn c (a :: r) = if a = c then wlen r else 0 := rfl
theorem sgn_le (c : UInt8) (l : List UInt8) : sgn c l ≤ l.length := by
 cases l with
 | nil => exact Nat.le_refl _
 | cons a r =>
  have := wlen_le r
  rw [sgn_cons, List.length_cons]
  split <;> omega
def sAt (c : UInt8) (i : Nat) (l : List UInt8) : Nat := if sgn c (l.drop i) = 0 then i else i + 1 + sgn c (l.drop i)
def sTx (c : UInt8) (i : Nat) (s : ByteArray) : ByteArray := if sgn c ((L s).drop i) = 0 then ⟨#[]⟩ else s.extract (i + 1) (i + 1 + sgn c ((L s).drop i))
def extL (s : ByteArray) : List ByteArray :=
 if sAt 43 (sAt 45 0 (L s)) (L s) + cnt wh ((L s).drop (sAt 43 (sAt 45 0 (L s)) (L s))) < (L s).length then [] else [s, sTx 45 0 s, sTx 43 (sAt 45 0 (L s)) s]
theorem ext_j2 (s : ByteArray) (hs : s.size < 4611686018427387904) (i : Nat) (hi : i ≤ (L s).length) (pre : ByteArray) (b : Bool) (hb : b = decide ((((L s).drop i).head?) = some 43)) :
  Ev (fun k => version_zzExtra.j2 k s i pre ⟨#[]⟩ b) (if sAt 43 i (L s) + cnt wh ((L s).drop (sAt 43 i (L s))) < (L s).length then [] else [s, pre, sTx 43 i s]) := by
 have hz := size_L s
 refine Ev.step (fun k => version_zzExtra.j2.eq_2 ..) ?_
 have stay : sgn 43 ((L s).drop i) = 0 → Ev (fun k => (version_zzBlanks.f k s i).bind fun t152 => (if t152 < (s.size : Int) then (some ([] : List ByteArray)) else (some (([s, pre, ⟨#[]⟩] : List ByteArray))))) (if sAt 43 i (L s) + cnt wh ((L s).drop (sAt 43 i (L s))) < (L s).length then [] else [s, pre, sTx 43 i s]) := by
  intro h0
  refine (blanks_ev s hs i hi).bind ?_
  unfold sAt sTx
  rw [if_pos h0, if_pos h0]
  by_cases h : i + cnt wh ((L s).drop i) < (L s).length
  ·rw [if_pos h]; exact ifp (by omega) (now rfl)
  ·rw [if_neg h]; exact ifn (by omega) (now rfl)
 by_cases hh : ((L s).drop i).head? = some 43
 ·refine ifp (by rw [hb]; exact decide_eq_true hh) ?_
  have hlt : i < (L s).length := by
   rcases Nat.lt_or_ge i (L s).length with h | h
   ·exact h
   ·rw [List.drop_eq_nil_of_le h] at hh; cases hh
  have h43 : (L s)[i] = 43 := by rw [head_at _ _ hlt] at hh; exact Option.some.inj hh
  have hw : wlen ((L s).drop (i + 1)) = sgn 43 ((L s).drop i) := by rw [List.drop_eq_getElem_cons hlt]; rw [sgn_cons, if_pos h43]
  rw [show wrap64 ((i : Int) + 1) = ((i + 1 : Nat) : Int) from w64 (by omega) (by omega)]
  refine (words_ev s hs (i + 1) (by omega)).bind ?_
  rw [hw]
  by_cases h0 : sgn 43 ((L s).drop i) = 0
  ·refine ifn (by omega) (stay h0)
  ·have hle := sgn_le 43 ((L s).drop i)
   have hwl := wlen_le ((L s).drop (i + 1))
   rw [hw, List.length_drop] at hwl
   refine ifp (by omega) (ifp (by omega) (ifp (by omega) (ifp (by omega) ?_)))
   refine (blanks_ev s hs (i + 1 + sgn 43 ((L s).drop i)) (by omega)).bind ?_
   unfold sAt sTx
   rw [if_neg h0, if_neg h0, Int.toNat_natCast, Int.toNat_natCast]
   by_cases h : i + 1 + sgn 43 ((L s).drop i) + cnt wh ((L s).drop (i + 1 + sgn 43 ((L s).drop i))) < (L s).length
   ·rw [if_pos h]; exact ifp (by omega) (now rfl)
   ·rw [if_neg h]; exact ifn (by omega) (now rfl)
 ·refine ifn (by rw [hb, decide_eq_true_eq]; exact hh) (stay ?_)
  cases hq : (L s).drop i with
  | nil => rfl
  | cons x r =>
   rw [hq] at hh
   rw [sgn_cons, if_neg (by simpa using hh)]
theorem ext_j1 (s : ByteArray) (hs : s.size < 4611686018427387904) (i : Nat) (hi : i ≤ (L s).length) (pre : ByteArray) :
  Ev (fun k => version_zzExtra.j1 k s i pre ⟨#[]⟩) (if sAt 43 i (L s) + cnt wh ((L s).drop (sAt 43 i (L s))) < (L s).length then [] else [s, pre, sTx 43 i s]) := by
 have hz := size_L s
 refine Ev.step (fun k => version_zzExtra.j1.eq_2 ..) ?_
 rcases Nat.lt_or_ge i (L s).length with hlt | hge
 ·refine ifp (by omega) (ifp (by omega) ?_)
  rw [bt_L s i hlt]
  refine ext_j2 s hs i hi pre _ ?_
  rw [head_at _ _ hlt]
  by_cases h : (L s)[i] = 43
  ·rw [h]; rfl
  ·rw [show (((L s)[i].toNat : Int) == 43) = false from beq_eq_false_iff_ne.2 (fun e => h ((byte_eq (b := 43)).1 e))]
   exact (decide_eq_false (by simpa using h)).symm
 ·refine ifn (by omega) ?_
  refine ext_j2 s hs i hi pre _ ?_
  rw [List.drop_eq_nil_of_le hge]; rfl
theorem zzExtra_ev (s : ByteArray) (hs : s.size < 4611686018427387904) : Ev (fun k => version_zzExtra.f k s) (extL s) := by
 have hz := size_L s
 unfold version_zzExtra.f extL
 have stay : sgn 45 ((L s).drop 0) = 0 → Ev (fun k => version_zzExtra.j1 k s 0 ⟨#[]⟩ ⟨#[]⟩) (if sAt 43 (sAt 45 0 (L s)) (L s) + cnt wh ((L s).drop (sAt 43 (sAt 45 0 (L s)) (L s))) < (L s).length then [] else [s, sTx 45 0 s, sTx 43 (sAt 45 0 (L s)) s]) := by
  intro h0
  have := ext_j1 s hs 0 (by omega) ⟨#[]⟩
  rw [show sAt 45 0 (L s) = 0 from by unfold sAt; rw [if_pos h0], show sTx 45 0 s = ⟨#[]⟩ from by unfold sTx; rw [if_pos h0]]
  exact this
 rcases Nat.lt_or_ge 0 (L s).length with hlt | hge
 ·refine ifp (by omega) ?_
  have hb := bt_L s 0 hlt
  rw [show bt s 0 = ((L s)[0].toNat : Int) from hb]
  by_cases h : (L s)[0] = 45
  ·rw [show (((L s)[0].toNat : Int) == 45) = true from by rw [h]; rfl]
   refine Ev.step (fun k => version_zzExtra.j0.eq_2 ..) (ifp rfl ?_)
   rw [show wrap64 ((0 : Int) + 1) = ((1 : Nat) : Int) from w64 (by omega) (by omega)]
   have hw : wlen ((L s).drop 1) = sgn 45 ((L s).drop 0) := by rw [List.drop_eq_getElem_cons hlt]; rw [sgn_cons, if_pos h]
   refine (words_ev s hs 1 (by omega)).bind ?_
   rw [hw]
   by_cases h0 : sgn 45 ((L s).drop 0) = 0
   ·exact ifn (by omega) (stay h0)
   ·have hwl := wlen_le ((L s).drop 1)
    rw [hw, List.length_drop] at hwl
    refine ifp (by omega) (ifp (by omega) (ifp (by omega) (ifp (by omega) ?_)))
    have e1 : sAt 45 0 (L s) = 1 + sgn 45 ((L s).drop 0) := by unfold sAt; rw [if_neg h0]; try omega
    rw [Int.toNat_natCast, Int.toNat_natCast]
    have := ext_j1 s hs (1 + sgn 45 ((L s).drop 0)) (by omega) (s.extract 1 (1 + sgn 45 ((L s).drop 0)))
    rw [e1, show sTx 45 0 s = s.extract 1 (1 + sgn 45 ((L s).drop 0)) from by unfold sTx; rw [if_neg h0]; try simp]
    exact this
  ·rw [show (((L s)[0].toNat : Int) == 45) = false from beq_eq_false_iff_ne.2 (fun e => h ((byte_eq (b := 45)).1 e))]
   refine Ev.step (fun k => version_zzExtra.j0.eq_2 ..) (ifn (by simp) (stay ?_))
   rw [List.drop_eq_getElem_cons hlt]; rw [sgn_cons, if_neg h]
 ·refine ifn (by omega) ?_
  refine Ev.step (fun k => version_zzExtra.j0.eq_2 ..) (ifn (by simp) (stay ?_))
  rw [List.drop_eq_nil_of_le hge]; rfl
end Go.Proofs.YtmfgkidppchobaaDoor.VerP


set_option linter.unusedSimpArgs false
set_option linter.unusedVariables false
namespace Go.Proofs.YtmfgkidppchobaaDoor.VerQ
open Go.RowKit Go.Proofs.YtmfgkidppchobaaDoorW.PrintWords Go.Proofs.YtmfgkidppchobaaDoorW.PrintLast Go.Proofs.YtmfgkidppchobaaDoor.XFnVersionWays Go.Proofs.YtmfgkidppchobaaDoor.EvL Go.Proofs.YtmfgkidppchobaaDoor.Str Go.Proofs.YtmfgkidppchobaaDoor.VerP Go.Proofs.YtmfgkidppchobaaDoor.Ver1 Go.Proofs.YtmfgkidppchobaaDoor.Ver3 Go.Proofs.YtmfgkidppchobaaDoor.Ver4 Go.Proofs.YtmfgkidppchobaaDoor.Ver5 Go.Proofs.YtmfgkidppchobaaDoor.Ver6
def pieces (s : ByteArray) : List ByteArray := (spl 46 (L s)).map mk
theorem pieces_ok {s : ByteArray} (hs : s.size ≤ 2147483648) : okC (pieces s) := by
 have hz := size_L s
 refine ⟨fun c hc => ?_, ?_⟩
 ·obtain ⟨x, hx, rfl⟩ := List.mem_map.1 hc
  have := (spl_mem hx).1
  rw [size_L, L_mk']; omega
 ·have := spl_len 46 (L s)
  unfold pieces
  rw [List.length_map]; omega
theorem verL_cases (s : ByteArray) : verL s = [] ∨ ∃ a b, verL s = [s, a, b] ∧ a.size ≤ s.size ∧ b.size ≤ s.size := by
 unfold verL
 split
 ·exact .inl rfl
 ·split
  ·exact .inl rfl
  ·refine .inr ⟨_, _, rfl, ?_, ?_⟩ <;> rw [ByteArray.size_extract] <;> omega
theorem extL_cases (s : ByteArray) : extL s = [] ∨ ∃ a b, extL s = [s, a, b] ∧ a.size ≤ s.size ∧ b.size ≤ s.size := by
 have key : ∀ c i, (sTx c i s).size ≤ s.size := by
  intro c i
  unfold sTx
  split
  ·exact Nat.zero_le _
  ·rw [ByteArray.size_extract]; omega
 unfold extL
 split
 ·exact .inl rfl
 ·exact .inr ⟨_, _, rfl, key _ _, key _ _⟩
def restL (sv : Bool) (x2 : ByteArray) (cs : List ByteArray) : Option PV :=
 if sv = false then (if cs.length < 2 then none else (compsP false true cs).map fun ns => (ns, E0, E0))
 else if ¬ cs.length = 3 then none
 else if x2.toList = [] then (compsP true true cs).map fun ns => (ns, E0, E0)
 else if extL x2 = [] then none
 else (compsP true true cs).bind (tl (pieces (rdOf ByteArray.empty (extL x2) 1)) (rdOf ByteArray.empty (extL x2) 1) (rdOf ByteArray.empty (extL x2) 2))
def parseL (sv : Bool) (s : ByteArray) : Option PV :=
 if verL s = [] then none else restL sv (rdOf ByteArray.empty (verL s) 2) (pieces (rdOf ByteArray.empty (verL s) 1))
theorem rd1 (a b c : ByteArray) : rdOf ByteArray.empty [a, b, c] 1 = b := rfl
theorem rd2 (a b c : ByteArray) : rdOf ByteArray.empty [a, b, c] 2 = c := rfl
theorem rest_ev (sv : Bool) (x2 : ByteArray) (cs : List ByteArray) (hs : x2.size < 4611686018427387904) (hx : ∀ a b, extL x2 = [x2, a, b] → a.size ≤ 2147483648) : Ev (fun k => restF k sv x2 cs) (restL sv x2 cs) := by
 unfold restF restL
 by_cases h1 : sv = false
 ·refine ifp h1 ?_
  rw [if_pos h1]
  by_cases h2 : cs.length < 2
  ·simp only [if_pos h2]; exact now rfl
  ·simp only [if_neg h2]; exact now rfl
 refine ifn h1 ?_
 rw [if_neg h1]
 by_cases h2 : ¬ cs.length = 3
 ·rw [if_pos h2]; exact ifp h2 (now rfl)
 refine ifn h2 ?_
 rw [if_neg h2]
 by_cases h3 : x2.toList = []
 ·rw [if_pos h3]; exact ifp h3 (now rfl)
 refine ifn h3 ((zzExtra_ev x2 hs).bind ?_)
 rw [if_neg h3]
 rcases extL_cases x2 with he | ⟨a, b, he, ha, hb⟩
 ·rw [he, if_pos rfl]; exact ifp rfl (now rfl)
 ·have := hx a b he
  rw [he, if_neg (by simp), rd1, rd2]
  refine ifn (by simp) (ifp rfl ?_)
  refine (split_ev a (by omega)).bind ?_
  exact ifp (pieces_ok (by omega)) (now rfl)
theorem parse_ev2 (sv : Bool) (s : ByteArray) (hs : s.size < 4611686018427387904) (hx : ∀ a b, verL s = [s, a, b] → a.size < 4398046511104 ∧ okC (pieces a) ∧ ∀ c d, extL b = [b, c, d] → c.size ≤ 2147483648) : Ev (fun k => parseF k sv s) (parseL sv s) := by
 unfold parseF parseL
 refine (zzVersion_ev s hs).bind ?_
 rcases verL_cases s with he | ⟨a, b, he, ha, hb⟩
 ·rw [he, if_pos rfl]; exact ifp rfl (now rfl)
 ·obtain ⟨h1, h2, h3⟩ := hx a b he
  rw [he, if_neg (by simp), rd1, rd2]
  refine ifn (by simp) (ifp rfl ?_)
  refine (split_ev a h1).bind ?_
  exact ifp h2 (rest_ev sv b _ (by omega) h3)
theorem parse_ev (sv : Bool) (s : ByteArray) (hs : s.size ≤ 2147483648) : Ev (fun k => parseF k sv s) (parseL sv s) := by
 refine parse_ev2 sv s (by omega) ?_
 intro a b he
 rcases verL_cases s with h | ⟨a', b', h, ha, hb⟩
 ·rw [he] at h; cases h
 ·rw [he] at h
  obtain ⟨rfl, rfl⟩ : a = a' ∧ b = b' := by simpa using h
  refine ⟨by omega, pieces_ok (by omega), ?_⟩
  intro c d he2
  rcases extL_cases b with h | ⟨c', d', h, hc, hd⟩
  ·rw [he2] at h; cases h
  ·rw [he2] at h
   obtain ⟨rfl, rfl⟩ : c = c' ∧ d = d' := by simpa using h
   omega
theorem comps_len {sv : Bool} {first : Bool} {cs : List ByteArray} {ns : List Int} (h : compsP sv first cs = some ns) : ns.length = cs.length := by
 induction cs generalizing first ns with
 | nil => simp [compsP] at h; subst h; rfl
 | cons c cs ih =>
  unfold compsP at h
  obtain ⟨n, _, h⟩ := Option.bind_eq_some_iff.mp h
  obtain ⟨m, h2, rfl⟩ := Option.map_eq_some_iff.mp h
  simp [ih h2]
theorem comps_u64 {sv : Bool} {first : Bool} {cs : List ByteArray} {ns : List Int} (h : compsP sv first cs = some ns) : U64 ns := by
 induction cs generalizing first ns with
 | nil => simp [compsP] at h; subst h; intro x hx; cases hx
 | cons c cs ih =>
  unfold compsP at h
  obtain ⟨n, h1, h⟩ := Option.bind_eq_some_iff.mp h
  obtain ⟨m, h2, rfl⟩ := Option.map_eq_some_iff.mp h
  intro x hx
  rcases List.mem_cons.1 hx with rfl | hx
  ·unfold compP at h1
   split at h1
   ·cases h1
   ·cases hn : numU c with
    | none => rw [hn] at h1; simp at h1
    | some u =>
     rw [hn] at h1
     have e : (u : Int) = x := by simpa using h1
     have := numU_lt hn
     omega
  ·exact ih h2 x hx
theorem rest_facts {sv : Bool} {x2 : ByteArray} {cs : List ByteArray} {ns : List Int} {pre bld : ByteArray} (hs : x2.size ≤ 2147483648) (h : restL sv x2 cs = some (ns, pre, bld)) :
  2 ≤ ns.length ∧ ns.length = cs.length ∧ U64 ns ∧ pre.size ≤ 2147483648 ∧ bld.size ≤ 2147483648 := by
 unfold restL at h
 have e0 : E0.size ≤ 2147483648 := by decide
 split at h
 ·split at h
  ·cases h
  ·obtain ⟨m, h2, h3⟩ := Option.map_eq_some_iff.mp h
   obtain ⟨rfl, rfl, rfl⟩ : m = ns ∧ E0 = pre ∧ E0 = bld := by simpa using h3
   have hl := comps_len h2
   exact ⟨by omega, hl, comps_u64 h2, e0, e0⟩
 split at h
 ·cases h
 rename_i h3
 split at h
 ·obtain ⟨m, h2, h4⟩ := Option.map_eq_some_iff.mp h
  obtain ⟨rfl, rfl, rfl⟩ : m = ns ∧ E0 = pre ∧ E0 = bld := by simpa using h4
  have hl := comps_len h2
  exact ⟨by omega, hl, comps_u64 h2, e0, e0⟩
 split at h
 ·cases h
 ·obtain ⟨m, h2, h4⟩ := Option.bind_eq_some_iff.mp h
  have hl := comps_len h2
  rcases extL_cases x2 with he | ⟨a, b, he, ha, hb⟩
  ·rename_i hne; exact absurd he hne
  ·rw [he, rd1, rd2] at h4
   unfold tl at h4
   split at h4
   ·cases h4
   ·obtain ⟨rfl, rfl, rfl⟩ : m = ns ∧ a = pre ∧ b = bld := by simpa using h4
    exact ⟨by omega, hl, comps_u64 h2, by omega, by omega⟩
theorem parse_facts {sv : Bool} {s : ByteArray} {ns : List Int} {pre bld : ByteArray} (hs : s.size ≤ 2147483647) (h : parseL sv s = some (ns, pre, bld)) :
  2 ≤ ns.length ∧ ns.length ≤ 2147483648 ∧ U64 ns ∧ pre.size ≤ 2147483648 ∧ bld.size ≤ 2147483648 := by
 unfold parseL at h
 rcases verL_cases s with he | ⟨a, b, he, ha, hb⟩
 ·rw [he, if_pos rfl] at h; cases h
 ·rw [he, if_neg (by simp), rd1, rd2] at h
  obtain ⟨h1, h2, h3, h4, h5⟩ := rest_facts (by omega) h
  have hl := spl_len 46 (L a)
  have hz := size_L a
  unfold pieces at h2
  rw [List.length_map] at h2
  exact ⟨h1, by omega, h3, h4, h5⟩
def parsedL (kind : Int) (s : ByteArray) : Option (Bool × PV) :=
 if kind = 1 then (parseL false s).map fun v => (false, v)
 else if kind = 2 then (parseL true s).map fun v => (true, v)
 else if kind = 3 then (parseL false s).map fun v => (false, [rd v.1 0, rd v.1 1], E0, E0)
 else match parseL true s with
  | some v => some (true, v)
  | none => (parseL false s).map fun v => (false, v)
theorem ev_map {α β : Type} {g : Nat → Option α} {a : α} {f : α → β} (h : Ev g a) : Ev (fun k => (g k).map f) (f a) := by
 obtain ⟨K, hK⟩ := h
 exact ⟨K, fun k hk => by show (g k).map f = _; rw [hK k hk]; rfl⟩
theorem parsed_ev2 (kind : Int) (s : ByteArray) (hf : Ev (fun k => parseF k false s) (parseL false s)) (ht : Ev (fun k => parseF k true s) (parseL true s)) (h2 : ∀ ns pre bld, parseL false s = some (ns, pre, bld) → 2 ≤ ns.length) : Ev (fun k => parsedF k kind s) (parsedL kind s) := by
 unfold parsedF parsedL
 by_cases h1 : kind = 1
 ·rw [if_pos h1]; exact ifp h1 (ev_map hf)
 refine ifn h1 ?_
 rw [if_neg h1]
 by_cases h3 : kind = 2
 ·rw [if_pos h3]; exact ifp h3 (ev_map ht)
 refine ifn h3 ?_
 rw [if_neg h3]
 by_cases h4 : kind = 3
 ·rw [if_pos h4]
  refine ifp h4 ?_
  unfold twoF
  refine hf.bind ?_
  cases h : parseL false s with
  | none => exact now rfl
  | some v =>
   obtain ⟨ns, pre, bld⟩ := v
   exact ifp (h2 _ _ _ h) (now rfl)
 ·rw [if_neg h4]
  refine ifn h4 ?_
  unfold anyF
  refine ht.bind ?_
  cases h : parseL true s with
  | none => exact ev_map hf
  | some v => exact now rfl
theorem parsed_ev (kind : Int) (s : ByteArray) (hs : s.size ≤ 2147483647) : Ev (fun k => parsedF k kind s) (parsedL kind s) :=
 parsed_ev2 kind s (parse_ev false s (by omega)) (parse_ev true s (by omega)) (fun _ _ _ h => (parse_facts hs h).1)
end Go.Proofs.YtmfgkidppchobaaDoor.VerQ

