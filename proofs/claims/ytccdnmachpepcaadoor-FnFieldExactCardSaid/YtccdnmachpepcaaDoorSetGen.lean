/- Sets ('map[K]struct{}') as lists of their members: what a map's block holds, a loop over it, the operations. -/
import Derived.Test.YtccdnmachpepcaaDoorWMore
import Derived.Maps.AppendAt
import Derived.Maps.RangeWalk
import Derived.Sort.KeysCollected
import Derived.Sort.OwnSortedInts
namespace Go.Proofs.YtccdnmachpepcaaDoor.SetGen
open Go.RowKit Go.Maps Go.Proofs.YtccdnmachpepcaaDoorW.PrintWords

theorem run_makeMap_hint {P : Program} {t k e : TypeId} (ht : P.underlying t = some (.map k e)) (n : Int) (w : World) : (Instr.makeMap t (some (.int .i64 n))).run P w = .ok (.map (some w.heap.size)) (w.alloc (.map #[] 0)) := by
  simp [Instr.makeMap, run_underlying ht, Result.andThen, asInt, asIntOf]

/-- How the keys of a type read. -/
structure KeyKit {α : Type} (P : Program) (k : TypeId) (enc : α → Value) (lit : α → Lit) (OK : α → Prop) : Prop where
  K : Keyed P k
  make : ∀ x, OK x → keyOf P k (enc x) = some (lit x)
  inv : ∀ key kl, keyOf P k key = some kl → ∃ x, key = enc x ∧ kl = lit x ∧ OK x
  same : ∀ x y, (lit x).sameKey (lit y) = true ↔ x = y
  isKey : ∀ x, WideAt.IsKeyLit (lit x)
  encInj : ∀ x y, enc x = enc y → x = y

theorem intKit {P : Program} {k : TypeId} (hk : P.underlying k = some (.int .i64)) : KeyKit P k (Value.int .i64) (Lit.int .i64) (fun x => (Lit.int .i64 x).wf = true) where
  K := int_keyed hk
  make := fun x hx => keyOf_int_mk hk hx
  inv := fun key kl h => Maps.keyOf_int_inv hk h
  same := fun x y => ⟨fun h => by have := WideAt.sameKey_eq h; injection this, fun h => by subst h; exact WideAt.sameKey_self (by simp [WideAt.IsKeyLit])⟩
  isKey := fun x => by simp [WideAt.IsKeyLit]
  encInj := fun x y h => by injection h

theorem strKit {P : Program} {k : TypeId} (hk : P.underlying k = some .string) : KeyKit P k Value.string (fun s : ByteArray => Lit.string s.data.toList) (fun s => s.size ≤ maxLen) where
  K := string_keyed hk
  make := fun x hx => by
    have h : keyOf P k (.string x) = some (.string x.data.toList) := by simp [keyOf, hk, mapKey, hx]
    exact h
  inv := fun key kl h => by
    cases key <;> simp [keyOf, hk, mapKey] at h
    rename_i s
    obtain ⟨hs, rfl⟩ := h
    exact ⟨s, rfl, rfl, hs⟩
  same := fun x y => ⟨fun h => by
    have := WideAt.sameKey_eq h
    injection this with h1
    cases x; cases y; congr 1; exact Array.toList_inj.1 h1, fun h => by subst h; exact WideAt.sameKey_self (by simp [WideAt.IsKeyLit])⟩
  isKey := fun x => by simp [WideAt.IsKeyLit]
  encInj := fun x y h => by injection h

section
variable {α : Type} [DecidableEq α] {P : Program} {k : TypeId} {enc : α → Value} {lit : α → Lit} {OK : α → Prop}

/-- Block b is a set with the members of l, of at most N entries. -/
def Su (P : Program) (k : TypeId) (lit : α → Lit) (OK : α → Prop) (w : World) (b N : Nat) (l : List α) : Prop :=
  ∃ (n : Nat) (D : DataW Nat), w.ownsMap P k unitElem b n D ∧ n ≤ N ∧ (∀ x, OK x → has D (lit x) = decide (x ∈ l)) ∧ ∀ x ∈ l, OK x

theorem Su.kept {w w' : World} {b N : Nat} {l : List α} {row : Option Nat} (h : Su P k lit OK w b N l) (hg : w.grownBy w' row) (hne : some b ≠ row) : Su P k lit OK w' b N l := by
  obtain ⟨n, D, h1, h2⟩ := h
  exact ⟨n, D, h1.kept hg hne, h2⟩

theorem Su.lt {w : World} {b N : Nat} {l : List α} (h : Su P k lit OK w b N l) : b < w.heap.size := by
  obtain ⟨n, D, h1, h2⟩ := h
  exact h1.lt

/-- The same members. -/
theorem Su.congr {w : World} {b N N' : Nat} {l l' : List α} (h : Su P k lit OK w b N l) (hl : N ≤ N') (hm : ∀ x, x ∈ l ↔ x ∈ l') : Su P k lit OK w b N' l' := by
  obtain ⟨n, D, h1, h2, h3, h4⟩ := h
  exact ⟨n, D, h1, Nat.le_trans h2 hl, fun x hx => by rw [h3 x hx]; simp [hm x], fun x hx => h4 x ((hm x).2 hx)⟩

theorem Su.made (w : World) : Su P k lit OK (w.alloc (.map #[] 0)) w.heap.size 0 ([] : List α) :=
  ⟨0, _, World.ownsMap_made w P k unitElem, Nat.le_refl _, fun x _ => by simp [has_eq], fun x hx => by cases hx⟩

/-- A loop over a set: 'done' has come. -/
def Rg (P : Program) (k : TypeId) (lit : α → Lit) (OK : α → Prop) (w : World) (b r N : Nat) (l done : List α) : Prop :=
  ∃ (n : Nat) (D : DataW Nat) (left : Lit → Bool) (cnt : Nat), w.ranges P k unitElem b r n D left cnt ∧ n ≤ N ∧ (∀ x, OK x → has D (lit x) = decide (x ∈ l)) ∧ (∀ x ∈ l, OK x) ∧
    done.Nodup ∧ (∀ x ∈ done, x ∈ l) ∧ ∀ x, OK x → left (lit x) = (decide (x ∈ l) && !decide (x ∈ done))

theorem Rg.kept {w w' : World} {b r N : Nat} {l done : List α} {row : Option Nat} (h : Rg P k lit OK w b r N l done) (hg : w.grownBy w' row) (hb : some b ≠ row) (hr : some r ≠ row) : Rg P k lit OK w' b r N l done := by
  obtain ⟨n, D, left, cnt, h1, h2⟩ := h
  exact ⟨n, D, left, cnt, h1.kept hg hb hr, h2⟩

theorem Rg.set {w : World} {b r N : Nat} {l done : List α} (h : Rg P k lit OK w b r N l done) : Su P k lit OK w b N l := by
  obtain ⟨n, D, left, cnt, h1, h2, h3, h4, _⟩ := h
  exact ⟨n, D, h1.owns, h2, h3, h4⟩

theorem Rg.lt {w : World} {b r N : Nat} {l done : List α} (h : Rg P k lit OK w b r N l done) : r < w.heap.size := by
  obtain ⟨n, D, left, cnt, h1, _⟩ := h
  exact h1.lt

theorem Rg.ne {w : World} {b r N : Nat} {l done : List α} (h : Rg P k lit OK w b r N l done) : r ≠ b := by
  obtain ⟨n, D, left, cnt, h1, _⟩ := h
  exact h1.ne

/-- The measure. -/
theorem Rg.left {w w' : World} {b r N : Nat} {l done : List α} {row : Option Nat} (h : Rg P k lit OK w b r N l done) (hg : w.grownBy w' row) (hb : some b ≠ row) (hr : some r ≠ row) : w'.rangeLeft b r = w.rangeLeft b r := by
  obtain ⟨n, D, left, cnt, h1, _⟩ := h
  rw [(h1.kept hg hb hr).left_eq, h1.left_eq]

theorem nodup_length {l m : List α} (hn : l.Nodup) (hs : ∀ x ∈ l, x ∈ m) : l.length ≤ m.length := by
  induction l generalizing m with
  | nil => simp
  | cons a l ih =>
    obtain ⟨h1, h2⟩ := List.nodup_cons.1 hn
    have ha : a ∈ m := hs a (by simp)
    have := ih (m := m.erase a) h2 (fun x hx => (List.mem_erase_of_ne (fun (e : x = a) => h1 (e ▸ hx))).2 (hs x (by simp [hx])))
    rw [List.length_erase_of_mem ha] at this
    have hp : 0 < m.length := List.length_pos_of_mem ha
    simp only [List.length_cons]
    omega

theorem Rg.length {w : World} {b r N : Nat} {l done : List α} (h : Rg P k lit OK w b r N l done) : done.length ≤ l.length := by
  obtain ⟨n, D, left, cnt, _, _, _, _, h5, h6, _⟩ := h
  exact nodup_length h5 h6

/-- How many entries a set has: as many as it has members. -/
theorem Su.size (kk : KeyKit P k enc lit OK) {w : World} {b N : Nat} {l : List α} (h : Su P k lit OK w b N l) : ∃ (n : Nat) (D : DataW Nat), w.ownsMap P k unitElem b n D ∧ n ≤ N ∧ (∀ x, OK x → has D (lit x) = decide (x ∈ l)) ∧ (∀ x ∈ l, OK x) ∧
    ∃ xs : List α, xs.Nodup ∧ (∀ x, x ∈ xs ↔ x ∈ l) ∧ Maps.size D = xs.length := by
  obtain ⟨n, D, h1, h2, h3, h4⟩ := h
  refine ⟨n, D, h1, h2, h3, h4, ?_⟩
  obtain ⟨es, hD, hpw, _⟩ := h1.entries kk.K
  obtain ⟨es', hD', hko⟩ := h1.keysOf
  obtain rfl : es = es' := by rw [hD] at hD'; simpa using hD'
  have key : ∀ L : List (Lit × DataW Nat), L.Pairwise (fun p q => p.1 ≠ q.1) → (∀ p ∈ L, KeysOf P k p.1) → ∃ xs : List α, L.map Prod.fst = xs.map lit ∧ xs.Nodup ∧ ∀ x ∈ xs, OK x := by
    intro L
    induction L with
    | nil => intro _ _; exact ⟨[], rfl, List.nodup_nil, by simp⟩
    | cons p L ih =>
      intro hp hk
      obtain ⟨hp1, hp2⟩ := List.pairwise_cons.1 hp
      obtain ⟨xs, e, hn, ho⟩ := ih hp2 (fun q hq => hk q (by simp [hq]))
      obtain ⟨v, hv⟩ := hk p (by simp)
      obtain ⟨x, _, hx, hok⟩ := kk.inv _ _ hv
      refine ⟨x :: xs, by simp [e, hx], List.nodup_cons.2 ⟨fun hm => ?_, hn⟩, ?_⟩
      · have : lit x ∈ L.map Prod.fst := by rw [e]; exact List.mem_map_of_mem hm
        obtain ⟨q, hq, hqe⟩ := List.mem_map.1 this
        exact hp1 q hq (by rw [hx, hqe])
      · intro y hy
        rcases List.mem_cons.1 hy with rfl | hy
        · exact hok
        · exact ho y hy
  obtain ⟨xs, e, hn, ho⟩ := key es hpw hko
  refine ⟨xs, hn, fun x => ?_, by rw [hD, Maps.size_eq]; have := congrArg List.length e; simpa using this⟩
  have hmem : ∀ x, has D (lit x) = true ↔ x ∈ xs := by
    intro x
    rw [hD, has_eq, List.any_eq_true]
    constructor
    · rintro ⟨p, hp, hs⟩
      have : p.1 ∈ xs.map lit := by rw [← e]; exact List.mem_map_of_mem hp
      obtain ⟨y, hy, hye⟩ := List.mem_map.1 this
      rw [← hye] at hs
      rw [← (kk.same y x).1 hs]; exact hy
    · intro hx
      have : lit x ∈ es.map Prod.fst := by rw [e]; exact List.mem_map_of_mem hx
      obtain ⟨p, hp, hpe⟩ := List.mem_map.1 this
      exact ⟨p, hp, by rw [hpe]; exact (kk.same x x).2 rfl⟩
  constructor
  · intro hx
    have h5 := (hmem x).2 hx
    rw [h3 x (ho x hx)] at h5
    simpa using h5
  · intro hx
    refine (hmem x).1 ?_
    rw [h3 x (h4 x hx)]
    simpa using hx

section
variable (w : World) {ops : Array Oper} {rest : List Oper} {o : Oper} {a : Act} {Q : Exit → Act → World → Prop}

/-- 'm[x] = struct{}{}'. -/
theorem wp_put (kk : KeyKit P k enc lit OK) (hg : o.guard = none) (m x v : Operand) (t : TypeId) (hop : o.op = Op.mapUpdate t m x v) (e : TypeId) (ht : P.underlying t = some (.map k e)) (b N : Nat) (l : List α)
    (hm : a.eval m = .map (some b)) (hv : a.eval v = .agg #[]) (hS : Su P k lit OK w b N l) (hl : N < maxLen) (y : α) (hy : OK y) (hx : a.eval x = enc y)
    (hK : ∀ w', Su P k lit OK w' b (N + 1) (l ++ [y]) → w.grownBy w' (some b) → wpList P ops Q rest (a.put o.dst undef) w') :
    wpList P ops Q (o :: rest) a w := by
  obtain ⟨n, D, h1, h2, h3, h4⟩ := hS
  refine wpList_mapUpdate_own w hg m x v t hop k e kk.K ht unitElem b n D hm h1 (by omega) _ _ (lit y) hx hv (kk.make y hy) (.agg []) [] unitElem_mk ?_
  intro w' ho hgr
  refine hK w' ⟨n + 1, _, ho, by omega, fun z hz => ?_, fun z hz => ?_⟩ hgr
  · by_cases e : z = y
    · subst e
      rw [has_put_same h1.isMap (kk.isKey z)]
      simp
    · rw [has_put_other (fun e1 => e ((kk.same z y).1 (by rw [e1]; exact WideAt.sameKey_self (kk.isKey y)))), h3 z hz]
      simp [e]
  · rcases List.mem_append.1 hz with h | h
    · exact h4 z h
    · rw [List.mem_singleton.1 h]; exact hy

/-- 'delete(m, x)': the bound on the list's length stays. -/
theorem wp_del (kk : KeyKit P k enc lit OK) (hg : o.guard = none) (m x : Operand) (t : TypeId) (hop : o.op = Op.call { callee := Callee.builtin Builtin.delete, args := #[m, x], argTypes := #[t, k] }) (e : TypeId) (ht : P.underlying t = some (.map k e)) (b N : Nat) (l : List α)
    (hm : a.eval m = .map (some b)) (hS : Su P k lit OK w b N l) (y : α) (hy : OK y) (hx : a.eval x = enc y)
    (hK : ∀ w', Su P k lit OK w' b N (l.filter fun z => z ≠ y) → w.grownBy w' (some b) → wpList P ops Q rest (a.put o.dst (.tuple #[])) w') :
    wpList P ops Q (o :: rest) a w := by
  obtain ⟨n, D, h1, h2, h3, h4⟩ := hS
  refine wpList_delete_own w hg m x t k hop e kk.K ht unitElem b n D hm h1 _ (lit y) hx (kk.make y hy) ?_
  intro w' ho htu
  refine hK w' ⟨n, _, ho, h2, fun z hz => ?_, fun z hz => h4 z (List.mem_filter.1 hz).1⟩ htu.grown
  by_cases e : z = y
  · subst e
    rw [has_del_same]
    simp
  · rw [has_del_other (fun e1 => e ((kk.same z y).1 (by rw [e1]; exact WideAt.sameKey_self (kk.isKey y)))), h3 z hz]
    simp [e]

/-- 'v, ok := m[x]'. -/
theorem wp_has (kk : KeyKit P k enc lit OK) (hg : o.guard = none) (m x : Operand) (t : TypeId) (hop : o.op = Op.lookup t m x true) (e : TypeId) (ht : P.underlying t = some (.map k e)) (hz : (zeroValue e).run P w = .ok (.agg #[]) w) (b N : Nat) (l : List α)
    (hm : a.eval m = .map (some b)) (hS : Su P k lit OK w b N l) (y : α) (hy : OK y) (hx : a.eval x = enc y)
    (hK : wpList P ops Q rest (a.put o.dst (.tuple #[.agg #[], .bool (decide (y ∈ l))])) w) :
    wpList P ops Q (o :: rest) a w := by
  obtain ⟨n, D, h1, h2, h3, h4⟩ := hS
  refine wpList_lookup_own_unit w hg m x t hop k e kk.K ht hz b n D hm h1 _ (lit y) hx (kk.make y hy) ?_
  rw [h3 y hy]
  exact hK

/-- 'len(m)'. -/
theorem wp_len (kk : KeyKit P k enc lit OK) (hg : o.guard = none) (m : Operand) (t : TypeId) (hop : o.op = Op.call { callee := Callee.builtin Builtin.len, args := #[m], argTypes := #[t] }) (e : TypeId) (ht : P.underlying t = some (.map k e)) (b N : Nat) (l : List α)
    (hm : a.eval m = .map (some b)) (hS : Su P k lit OK w b N l)
    (hK : ∀ xs : List α, xs.Nodup → (∀ x, x ∈ xs ↔ x ∈ l) → xs.length ≤ N → wpList P ops Q rest (a.put o.dst (.int .i64 xs.length)) w) :
    wpList P ops Q (o :: rest) a w := by
  obtain ⟨n, D, h1, h2, h3, h4, xs, hn, hmem, hsz⟩ := hS.size kk
  refine wpList_len_own w hg m t hop k e ht unitElem b n D hm h1 ?_
  rw [hsz]
  exact hK xs hn hmem (by have := h1.size_le; omega)

/-- 'make(map, n)'. -/
theorem wp_makeMap (hg : o.guard = none) (t : TypeId) (x : Operand) (hop : o.op = Op.makeMap t (some x)) (e : TypeId) (ht : P.underlying t = some (.map k e)) (n : Int) (hx : a.eval x = .int .i64 n)
    (hK : ∀ w', Su P k lit OK w' w.heap.size 0 ([] : List α) → w.grownBy w' none → w.heap.size < w'.heap.size → wpList P ops Q rest (a.put o.dst (.map (some w.heap.size))) w') :
    wpList P ops Q (o :: rest) a w := by
  refine wpList_plain hg fun K' hK' => ?_
  unfold Oper.wp
  simp [execOp, hop, hx, run_makeMap_hint ht, Result.andThen]
  exact hK' _ _ (hK _ (Su.made w) (World.grownBy_alloc _ _ _) (by simp))

/-- 'clear(m)'. -/
theorem wp_clear (hg : o.guard = none) (m : Operand) (t : TypeId) (hop : o.op = Op.call { callee := Callee.builtin Builtin.clear, args := #[m], argTypes := #[t] }) (e : TypeId) (ht : P.underlying t = some (.map k e)) (b N : Nat) (l : List α)
    (hm : a.eval m = .map (some b)) (hS : Su P k lit OK w b N l)
    (hK : ∀ w', Su P k lit OK w' b 0 ([] : List α) → w.grownBy w' (some b) → wpList P ops Q rest (a.put o.dst (.tuple #[])) w') :
    wpList P ops Q (o :: rest) a w := by
  obtain ⟨n, D, ⟨es, clock, hb, hfit, hrest⟩, h2⟩ := hS
  have hrun : (Builtin.clear_ #[t] o.type #[.map (some b)]).run P w = .ok (.tuple #[]) (Go.ChangeMaps.setBlock w b (.map #[] clock)) := by
    simp [Builtin.clear_, run_underlying ht, MapKept.run_getObj_map hb, MapKept.run_setObj_map _ hb, Go.ChangeMaps.setBlock, Result.andThen]
  refine wpList_plain hg fun K' hK' => ?_
  unfold Oper.wp
  simp [execOp, hop, resolve, invoke, builtin, hm, hrun, Result.andThen]
  refine hK' _ _ (hK _ ⟨0, .map [], ⟨#[], clock, ?_, ⟨by simp, ⟨by simp, by simp, by simp⟩, by simp⟩, by simp, by simp⟩, Nat.le_refl _, fun x _ => by simp [has_eq], fun x hx => by cases hx⟩ ?_)
  · simp [Go.ChangeMaps.setBlock, blk_lt hb]
  · exact World.mapTurned.grown ⟨es, clock, _, _, hb, rfl⟩

/-- 'range m'. -/
theorem wp_range (kk : KeyKit P k enc lit OK) (hg : o.guard = none) (m : Operand) (t : TypeId) (hop : o.op = Op.range t m) (e : TypeId) (ht : P.underlying t = some (.map k e)) (b N : Nat) (l : List α)
    (hm : a.eval m = .map (some b)) (hS : Su P k lit OK w b N l)
    (hK : ∀ w', Rg P k lit OK w' b w.heap.size N l [] → w.grownBy w' none → w'.heap.size = w.heap.size + 1 → wpList P ops Q rest (a.put o.dst (.pointer (some ⟨w.heap.size, 0, none⟩))) w') :
    wpList P ops Q (o :: rest) a w := by
  obtain ⟨n, D, h1, h2, h3, h4⟩ := hS
  refine wpList_range_own w hg m t hop k e kk.K ht unitElem b n D hm h1 ?_
  intro w' hr hgr hs
  exact hK w' ⟨n, D, _, _, hr, h2, h3, h4, List.nodup_nil, (fun x hx => by cases hx), fun x hx => by rw [h3 x hx]; simp⟩ hgr hs

/-- The step. -/
theorem wp_next (kk : KeyKit P k enc lit OK) (hg : o.guard = none) (it : Operand) (hop : o.op = Op.next it false) (b r N : Nat) (l done : List α) (hit : a.eval it = .pointer (some ⟨r, 0, none⟩)) (h : Rg P k lit OK w b r N l done)
    (hDone : (∀ x ∈ l, x ∈ done) → wpList P ops Q rest (a.put o.dst (.tuple #[.bool false])) w)
    (hMore : ∀ (x : α) (w' : World), OK x → x ∈ l → x ∉ done → Rg P k lit OK w' b r N l (done ++ [x]) → w'.rangeLeft b r < w.rangeLeft b r → w.grownBy w' (some r) → w'.heap.size = w.heap.size →
      (Instr.entry (.pointer (some ⟨r, 0, none⟩))).run P w' = .ok (.tuple #[enc x, .agg #[]]) w' → wpList P ops Q rest (a.put o.dst (.tuple #[.bool true, enc x, .agg #[]])) w') :
    wpList P ops Q (o :: rest) a w := by
  obtain ⟨n, D, left, cnt, h1, h2, h3, h4, h5, h6, h7⟩ := h
  refine wpList_next_ranges (α := α) (β := Unit) w hg it hop k kk.K unitElem enc (fun _ => .agg #[]) (fun key kl hk => ?_) (fun v y hv => ?_) b r n D left cnt hit h1 ?_ ?_
  · obtain ⟨x, hx, _⟩ := kk.inv key kl hk
    exact ⟨x, hx⟩
  · exact ⟨(), (unitElem_inv hv).1⟩
  · intro _ hl0
    refine hDone (fun x hx => ?_)
    have := hl0 (lit x)
    rw [h7 x (h4 x hx)] at this
    simpa [hx] using this
  · intro x c kl y w' cnt' hkey hlk _ hat hr hlt hgr hs hen
    obtain ⟨x', hx', rfl, hok⟩ := kk.inv _ _ hkey
    obtain rfl : x = x' := kk.encInj _ _ hx'
    rw [h7 x hok] at hlk
    simp only [Bool.and_eq_true, decide_eq_true_eq, Bool.not_eq_true', decide_eq_false_iff_not] at hlk
    refine hMore x w' hok hlk.1 hlk.2 ⟨n, D, _, cnt', hr, h2, h3, h4, ?_, ?_, ?_⟩ (by rw [hr.left_eq, h1.left_eq]; exact hlt) hgr hs hen
    · exact List.nodup_append.2 ⟨h5, by simp, fun p hp q hq e => by rw [List.mem_singleton.1 hq] at e; exact hlk.2 (e ▸ hp)⟩
    · intro z hz
      rcases List.mem_append.1 hz with h | h
      · exact h6 z h
      · rw [List.mem_singleton.1 h]; exact hlk.1
    · intro z hz
      have e1 : (lit z).sameKey (lit x) = decide (z = x) := by
        rw [Bool.eq_iff_iff, kk.same z x]; simp
      rw [h7 z hz, e1]
      by_cases e : z = x <;> simp [e]

end
end
theorem cell_new (w : World) (v : Value) (t : TypeId) : (w.alloc (.cells #[v] t)).cell? ⟨w.heap.size, 0, none⟩ = some v := by
  have := cell_one_new w v t 0 v rfl
  rwa [add_plain] at this
theorem cell_new2 (w : World) (o : Obj) (v : Value) (t : TypeId) : ((w.alloc o).alloc (.cells #[v] t)).cell? ⟨w.heap.size + 1, 0, none⟩ = some v := by
  have h := cell_new (w.alloc o) v t
  have e : (w.alloc o).heap.size = w.heap.size + 1 := by simp
  rwa [e] at h
/-- A step of a loop over a set that writes another set (block bn, the call's own). -/
theorem add_round {α : Type} [DecidableEq α] {P : Program} {k : TypeId} {lit : α → Lit} {OK : α → Prop} {wr w2 w4 w : World} {b r bn N : Nat} {l done : List α} (hG2 : Rg P k lit OK w2 b r N l done) (hlt : w2.rangeLeft b r < wr.rangeLeft b r)
    (hg2 : wr.grownBy w2 (some r)) (hgg : w2.grownBy w4 (some bn)) (hb : b < bn) (hbn : w.heap.size ≤ bn) (hr : bn < r) (hB : Below w.heap.size w wr) :
    Rg P k lit OK w4 b r N l done ∧ w4.rangeLeft b r < wr.rangeLeft b r ∧ Below w.heap.size w w4 := by
  have n1 : some b ≠ some bn := by simp; omega
  have n2 : some r ≠ some bn := by simp; omega
  refine ⟨hG2.kept hgg n1 n2, by rw [hG2.left hgg n1 n2]; exact hlt, ?_⟩
  have h2 : Below w.heap.size w w2 := Below.grown hB hg2 hB.size (fun j hj => by cases hj; omega)
  exact Below.grown h2 hgg h2.size (fun j hj => by cases hj; exact hbn)
theorem alloc_then {w2 w4 : World} {o : Obj} {row : Option Nat} (h : (w2.alloc o).grownBy w4 row) : w2.grownBy w4 row := (World.grownBy_alloc w2 o row).andThen h (fun _ hj => .inr hj)
theorem Rg.row_ne {α : Type} [DecidableEq α] {P : Program} {k : TypeId} {lit : α → Lit} {OK : α → Prop} {w : World} {b r N base n size : Nat} {e : TypeId} {v : Value} {xs : List Value} {l done : List α} (h : Rg P k lit OK w b r N l done) (ho : w.ownsRow base e size v n xs) : some r ≠ v.ownBlock := by
  obtain ⟨n, D, left, cnt, h1, _⟩ := h
  exact row_ne_iter ho h1
/-- Each member once. -/
def ded {α : Type} [DecidableEq α] : List α → List α
  | [] => []
  | a :: l => if a ∈ ded l then ded l else a :: ded l
theorem mem_ded {α : Type} [DecidableEq α] (x : α) : ∀ l : List α, x ∈ ded l ↔ x ∈ l
  | [] => by simp [ded]
  | a :: l => by
    have ih := mem_ded x l
    unfold ded
    split
    · rename_i h
      rw [ih, List.mem_cons]
      constructor
      · exact fun h1 => .inr h1
      · rintro (rfl | h1)
        · exact (mem_ded _ l).1 h
        · exact h1
    · rw [List.mem_cons, List.mem_cons, ih]
theorem nodup_ded {α : Type} [DecidableEq α] : ∀ l : List α, (ded l).Nodup
  | [] => by simp [ded]
  | a :: l => by
    unfold ded
    split
    · exact nodup_ded l
    · rename_i h
      exact List.nodup_cons.2 ⟨h, nodup_ded l⟩
theorem ded_perm {α : Type} [DecidableEq α] {l m : List α} (hn : m.Nodup) (hm : ∀ x, x ∈ m ↔ x ∈ l) : m.Perm (ded l) :=
  (List.perm_ext_iff_of_nodup hn (nodup_ded l)).2 (fun x => by rw [hm x, mem_ded])
theorem sort_perm_int {l m : List Int} (h : l.Perm m) : (l.mergeSort fun x y => decide (x ≤ y)) = m.mergeSort fun x y => decide (x ≤ y) := by
  have tr : ∀ a b c : Int, decide (a ≤ b) = true → decide (b ≤ c) = true → decide (a ≤ c) = true := fun a b c h1 h2 => by simp only [decide_eq_true_eq] at *; omega
  have tot : ∀ a b : Int, (decide (a ≤ b) || decide (b ≤ a)) = true := fun a b => by simp only [Bool.or_eq_true, decide_eq_true_eq]; omega
  refine List.Perm.eq_of_pairwise (le := fun a b => decide (a ≤ b) = true) (fun a b _ _ h1 h2 => ?_) (List.pairwise_mergeSort tr tot l) (List.pairwise_mergeSort tr tot m) (((List.mergeSort_perm l _).trans h).trans (List.mergeSort_perm m _).symm)
  simp only [decide_eq_true_eq] at h1 h2
  omega
/-- 'len(m)': how many members there are. -/
theorem wp_len2 {α : Type} [DecidableEq α] {P : Program} {k : TypeId} {enc : α → Value} {lit : α → Lit} {OK : α → Prop} (w : World) {ops : Array Oper} {rest : List Oper} {o : Oper} {a : Act} {Q : Exit → Act → World → Prop}
    (kk : KeyKit P k enc lit OK) (hg : o.guard = none) (m : Operand) (t : TypeId) (hop : o.op = Op.call { callee := Callee.builtin Builtin.len, args := #[m], argTypes := #[t] }) (e : TypeId) (ht : P.underlying t = some (.map k e)) (b N : Nat) (l : List α)
    (hm : a.eval m = .map (some b)) (hS : Su P k lit OK w b N l)
    (hK : wpList P ops Q rest (a.put o.dst (.int .i64 (ded l).length)) w) : wpList P ops Q (o :: rest) a w :=
  wp_len w kk hg m t hop e ht b N l hm hS (fun xs hn hx _ => by
    have := (ded_perm hn hx).length_eq
    rw [this]
    exact hK)
end Go.Proofs.YtccdnmachpepcaaDoor.SetGen
