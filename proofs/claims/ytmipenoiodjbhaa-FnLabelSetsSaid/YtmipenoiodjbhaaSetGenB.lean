/- Sets kept as 'map[K]bool', as lists of their members. -/
import Derived.Test.YtmipenoiodjbhaaSetGen
namespace Go.Proofs.Ytmipenoiodjbhaa.SetGenB
open Go.RowKit Go.Maps Go.Proofs.YtmipenoiodjbhaaW.PrintWords
open Go.Proofs.Ytmipenoiodjbhaa.SetGen (KeyKit)
section
variable {α : Type} [DecidableEq α] {P : Program} {eb k : TypeId} {enc : α → Value} {lit : α → Lit} {OK : α → Prop}

/-- Block b is a set with the members of l, of at most N entries. -/
def Su (P : Program) (eb k : TypeId) (lit : α → Lit) (OK : α → Prop) (w : World) (b N : Nat) (l : List α) : Prop :=
  ∃ (n : Nat) (D : DataW Nat), w.ownsMap P k (plainElem P eb) b n D ∧ n ≤ N ∧ (∀ x, OK x → has D (lit x) = decide (x ∈ l)) ∧ ∀ x ∈ l, OK x

theorem Su.kept {w w' : World} {b N : Nat} {l : List α} {row : Option Nat} (h : Su P eb k lit OK w b N l) (hg : w.grownBy w' row) (hne : some b ≠ row) : Su P eb k lit OK w' b N l := by
  obtain ⟨n, D, h1, h2⟩ := h
  exact ⟨n, D, h1.kept hg hne, h2⟩

theorem Su.lt {w : World} {b N : Nat} {l : List α} (h : Su P eb k lit OK w b N l) : b < w.heap.size := by
  obtain ⟨n, D, h1, h2⟩ := h
  exact h1.lt

/-- The same members. -/
theorem Su.congr {w : World} {b N N' : Nat} {l l' : List α} (h : Su P eb k lit OK w b N l) (hl : N ≤ N') (hm : ∀ x, x ∈ l ↔ x ∈ l') : Su P eb k lit OK w b N' l' := by
  obtain ⟨n, D, h1, h2, h3, h4⟩ := h
  exact ⟨n, D, h1, Nat.le_trans h2 hl, fun x hx => by rw [h3 x hx]; simp [hm x], fun x hx => h4 x ((hm x).2 hx)⟩

theorem Su.made (w : World) : Su P eb k lit OK (w.alloc (.map #[] 0)) w.heap.size 0 ([] : List α) :=
  ⟨0, _, World.ownsMap_made w P k (plainElem P eb), Nat.le_refl _, fun x _ => by simp [has_eq], fun x hx => by cases hx⟩

/-- A loop over a set: 'done' has come. -/
def Rg (P : Program) (eb k : TypeId) (lit : α → Lit) (OK : α → Prop) (w : World) (b r N : Nat) (l done : List α) : Prop :=
  ∃ (n : Nat) (D : DataW Nat) (left : Lit → Bool) (cnt : Nat), w.ranges P k (plainElem P eb) b r n D left cnt ∧ n ≤ N ∧ (∀ x, OK x → has D (lit x) = decide (x ∈ l)) ∧ (∀ x ∈ l, OK x) ∧
    done.Nodup ∧ (∀ x ∈ done, x ∈ l) ∧ ∀ x, OK x → left (lit x) = (decide (x ∈ l) && !decide (x ∈ done))

theorem Rg.kept {w w' : World} {b r N : Nat} {l done : List α} {row : Option Nat} (h : Rg P eb k lit OK w b r N l done) (hg : w.grownBy w' row) (hb : some b ≠ row) (hr : some r ≠ row) : Rg P eb k lit OK w' b r N l done := by
  obtain ⟨n, D, left, cnt, h1, h2⟩ := h
  exact ⟨n, D, left, cnt, h1.kept hg hb hr, h2⟩

theorem Rg.set {w : World} {b r N : Nat} {l done : List α} (h : Rg P eb k lit OK w b r N l done) : Su P eb k lit OK w b N l := by
  obtain ⟨n, D, left, cnt, h1, h2, h3, h4, _⟩ := h
  exact ⟨n, D, h1.owns, h2, h3, h4⟩

theorem Rg.lt {w : World} {b r N : Nat} {l done : List α} (h : Rg P eb k lit OK w b r N l done) : r < w.heap.size := by
  obtain ⟨n, D, left, cnt, h1, _⟩ := h
  exact h1.lt

theorem Rg.ne {w : World} {b r N : Nat} {l done : List α} (h : Rg P eb k lit OK w b r N l done) : r ≠ b := by
  obtain ⟨n, D, left, cnt, h1, _⟩ := h
  exact h1.ne

/-- The measure. -/
theorem Rg.left {w w' : World} {b r N : Nat} {l done : List α} {row : Option Nat} (h : Rg P eb k lit OK w b r N l done) (hg : w.grownBy w' row) (hb : some b ≠ row) (hr : some r ≠ row) : w'.rangeLeft b r = w.rangeLeft b r := by
  obtain ⟨n, D, left, cnt, h1, _⟩ := h
  rw [(h1.kept hg hb hr).left_eq, h1.left_eq]

theorem Rg.length {w : World} {b r N : Nat} {l done : List α} (h : Rg P eb k lit OK w b r N l done) : done.length ≤ l.length := by
  obtain ⟨n, D, left, cnt, _, _, _, _, h5, h6, _⟩ := h
  exact SetGen.nodup_length h5 h6

/-- How many entries a set has: as many as it has members. -/
theorem Su.size (kk : KeyKit P k enc lit OK) {w : World} {b N : Nat} {l : List α} (h : Su P eb k lit OK w b N l) : ∃ (n : Nat) (D : DataW Nat), w.ownsMap P k (plainElem P eb) b n D ∧ n ≤ N ∧ (∀ x, OK x → has D (lit x) = decide (x ∈ l)) ∧ (∀ x ∈ l, OK x) ∧
    ∃ xs : List α, xs.Nodup ∧ (∀ x, x ∈ xs ↔ x ∈ l) ∧ Maps.size D = xs.length := by
  obtain ⟨n, D, h1, h2, h3, h4⟩ := h
  refine ⟨n, D, h1, h2, h3, h4, ?_⟩
  obtain ⟨es, hD, hpw, _⟩ := h1.entries kk.K
  obtain ⟨es', hD', hko⟩ := h1.keysOf
  obtain rfl : es = es' := by rw [hD] at hD'; simpa using hD'
  have key : ∀ L : List (Lit × DataW Nat), L.Pairwise (fun p q => p.1 ≠ q.1) → (∀ p ∈ L, KeysOf P k p.1) → ∃ xs : List α, L.map Prod.fst = xs.map lit ∧ xs.Nodup ∧ ∀ x ∈ xs, OK x := by
    intro L
    induction L with
    | nil => intro _ _; exact ⟨[], rfl, List.nodup_nil, by simp⟩
    | cons p L ih =>
      intro hp hk
      obtain ⟨hp1, hp2⟩ := List.pairwise_cons.1 hp
      obtain ⟨xs, e, hn, ho⟩ := ih hp2 (fun q hq => hk q (by simp [hq]))
      obtain ⟨v, hv⟩ := hk p (by simp)
      obtain ⟨x, _, hx, hok⟩ := kk.inv _ _ hv
      refine ⟨x :: xs, by simp [e, hx], List.nodup_cons.2 ⟨fun hm => ?_, hn⟩, ?_⟩
      · have : lit x ∈ L.map Prod.fst := by rw [e]; exact List.mem_map_of_mem hm
        obtain ⟨q, hq, hqe⟩ := List.mem_map.1 this
        exact hp1 q hq (by rw [hx, hqe])
      · intro y hy
        rcases List.mem_cons.1 hy with rfl | hy
        · exact hok
        · exact ho y hy
  obtain ⟨xs, e, hn, ho⟩ := key es hpw hko
  refine ⟨xs, hn, fun x => ?_, by rw [hD, Maps.size_eq]; have := congrArg List.length e; simpa using this⟩
  have hmem : ∀ x, has D (lit x) = true ↔ x ∈ xs := by
    intro x
    rw [hD, has_eq, List.any_eq_true]
    constructor
    · rintro ⟨p, hp, hs⟩
      have : p.1 ∈ xs.map lit := by rw [← e]; exact List.mem_map_of_mem hp
      obtain ⟨y, hy, hye⟩ := List.mem_map.1 this
      rw [← hye] at hs
      rw [← (kk.same y x).1 hs]; exact hy
    · intro hx
      have : lit x ∈ es.map Prod.fst := by rw [e]; exact List.mem_map_of_mem hx
      obtain ⟨p, hp, hpe⟩ := List.mem_map.1 this
      exact ⟨p, hp, by rw [hpe]; exact (kk.same x x).2 rfl⟩
  constructor
  · intro hx
    have h5 := (hmem x).2 hx
    rw [h3 x (ho x hx)] at h5
    simpa using h5
  · intro hx
    refine (hmem x).1 ?_
    rw [h3 x (h4 x hx)]
    simpa using hx

section
variable (w : World) {ops : Array Oper} {rest : List Oper} {o : Oper} {a : Act} {Q : Exit → Act → World → Prop}

/-- 'm[x] = struct{}{}'. -/
theorem wp_put (kk : KeyKit P k enc lit OK) (hg : o.guard = none) (m x v : Operand) (t : TypeId) (hop : o.op = Op.mapUpdate t m x v) (e : TypeId) (ht : P.underlying t = some (.map k e)) (b N : Nat) (l : List α)
    (hm : a.eval m = .map (some b)) (heb : P.underlying eb = some .bool) (hv : a.eval v = .bool true) (hS : Su P eb k lit OK w b N l) (hl : N < maxLen) (y : α) (hy : OK y) (hx : a.eval x = enc y)
    (hK : ∀ w', Su P eb k lit OK w' b (N + 1) (l ++ [y]) → w.grownBy w' (some b) → wpList P ops Q rest (a.put o.dst undef) w') :
    wpList P ops Q (o :: rest) a w := by
  obtain ⟨n, D, h1, h2, h3, h4⟩ := hS
  refine wpList_mapUpdate_own w hg m x v t hop k e kk.K ht (plainElem P eb) b n D hm h1 (by omega) _ _ (lit y) hx hv (kk.make y hy) (.lit (.bool true)) [] (plainElem_bool heb true) ?_
  intro w' ho hgr
  refine hK w' ⟨n + 1, _, ho, by omega, fun z hz => ?_, fun z hz => ?_⟩ hgr
  · by_cases e : z = y
    · subst e
      rw [has_put_same h1.isMap (kk.isKey z)]
      simp
    · rw [has_put_other (fun e1 => e ((kk.same z y).1 (by rw [e1]; exact WideAt.sameKey_self (kk.isKey y)))), h3 z hz]
      simp [e]
  · rcases List.mem_append.1 hz with h | h
    · exact h4 z h
    · rw [List.mem_singleton.1 h]; exact hy

/-- 'len(m)'. -/
theorem wp_len (kk : KeyKit P k enc lit OK) (hg : o.guard = none) (m : Operand) (t : TypeId) (hop : o.op = Op.call { callee := Callee.builtin Builtin.len, args := #[m], argTypes := #[t] }) (e : TypeId) (ht : P.underlying t = some (.map k e)) (b N : Nat) (l : List α)
    (hm : a.eval m = .map (some b)) (hS : Su P eb k lit OK w b N l)
    (hK : ∀ xs : List α, xs.Nodup → (∀ x, x ∈ xs ↔ x ∈ l) → xs.length ≤ N → wpList P ops Q rest (a.put o.dst (.int .i64 xs.length)) w) :
    wpList P ops Q (o :: rest) a w := by
  obtain ⟨n, D, h1, h2, h3, h4, xs, hn, hmem, hsz⟩ := hS.size kk
  refine wpList_len_own w hg m t hop k e ht (plainElem P eb) b n D hm h1 ?_
  rw [hsz]
  exact hK xs hn hmem (by have := h1.size_le; omega)

/-- 'range m'. -/
theorem wp_range (kk : KeyKit P k enc lit OK) (hg : o.guard = none) (m : Operand) (t : TypeId) (hop : o.op = Op.range t m) (e : TypeId) (ht : P.underlying t = some (.map k e)) (b N : Nat) (l : List α)
    (hm : a.eval m = .map (some b)) (hS : Su P eb k lit OK w b N l)
    (hK : ∀ w', Rg P eb k lit OK w' b w.heap.size N l [] → w.grownBy w' none → w'.heap.size = w.heap.size + 1 → wpList P ops Q rest (a.put o.dst (.pointer (some ⟨w.heap.size, 0, none⟩))) w') :
    wpList P ops Q (o :: rest) a w := by
  obtain ⟨n, D, h1, h2, h3, h4⟩ := hS
  refine wpList_range_own w hg m t hop k e kk.K ht (plainElem P eb) b n D hm h1 ?_
  intro w' hr hgr hs
  exact hK w' ⟨n, D, _, _, hr, h2, h3, h4, List.nodup_nil, (fun x hx => by cases hx), fun x hx => by rw [h3 x hx]; simp⟩ hgr hs

/-- The step. -/
theorem wp_next (kk : KeyKit P k enc lit OK) (hg : o.guard = none) (it : Operand) (hop : o.op = Op.next it false) (b r N : Nat) (l done : List α) (hit : a.eval it = .pointer (some ⟨r, 0, none⟩)) (h : Rg P eb k lit OK w b r N l done)
    (hDone : (∀ x ∈ l, x ∈ done) → wpList P ops Q rest (a.put o.dst (.tuple #[.bool false])) w)
    (hMore : ∀ (x : α) (c : Value) (w' : World), OK x → x ∈ l → x ∉ done → Rg P eb k lit OK w' b r N l (done ++ [x]) → w'.rangeLeft b r < w.rangeLeft b r → w.grownBy w' (some r) → w'.heap.size = w.heap.size →
      (Instr.entry (.pointer (some ⟨r, 0, none⟩))).run P w' = .ok (.tuple #[enc x, c]) w' → wpList P ops Q rest (a.put o.dst (.tuple #[.bool true, enc x, c])) w') :
    wpList P ops Q (o :: rest) a w := by
  obtain ⟨n, D, left, cnt, h1, h2, h3, h4, h5, h6, h7⟩ := h
  refine wpList_next_ranges (α := α) (β := Value) w hg it hop k kk.K (plainElem P eb) enc (fun v => v) (fun key kl hk => ?_) (fun v y _ => ?_) b r n D left cnt hit h1 ?_ ?_
  · obtain ⟨x, hx, _⟩ := kk.inv key kl hk
    exact ⟨x, hx⟩
  · exact ⟨v, rfl⟩
  · intro _ hl0
    refine hDone (fun x hx => ?_)
    have := hl0 (lit x)
    rw [h7 x (h4 x hx)] at this
    simpa [hx] using this
  · intro x c kl y w' cnt' hkey hlk _ hat hr hlt hgr hs hen
    obtain ⟨x', hx', rfl, hok⟩ := kk.inv _ _ hkey
    obtain rfl : x = x' := kk.encInj _ _ hx'
    rw [h7 x hok] at hlk
    simp only [Bool.and_eq_true, decide_eq_true_eq, Bool.not_eq_true', decide_eq_false_iff_not] at hlk
    refine hMore x c w' hok hlk.1 hlk.2 ⟨n, D, _, cnt', hr, h2, h3, h4, ?_, ?_, ?_⟩ (by rw [hr.left_eq, h1.left_eq]; exact hlt) hgr hs hen
    · exact List.nodup_append.2 ⟨h5, by simp, fun p hp q hq e => by rw [List.mem_singleton.1 hq] at e; exact hlk.2 (e ▸ hp)⟩
    · intro z hz
      rcases List.mem_append.1 hz with h | h
      · exact h6 z h
      · rw [List.mem_singleton.1 h]; exact hlk.1
    · intro z hz
      have e1 : (lit z).sameKey (lit x) = decide (z = x) := by
        rw [Bool.eq_iff_iff, kk.same z x]; simp
      rw [h7 z hz, e1]
      by_cases e : z = x <;> simp [e]

end
end
end Go.Proofs.Ytmipenoiodjbhaa.SetGenB
