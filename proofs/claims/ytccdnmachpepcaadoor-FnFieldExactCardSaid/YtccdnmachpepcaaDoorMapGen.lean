/- Maps from texts to texts as partial functions: what a map's block holds, a loop over it, the operations. -/
import Derived.Test.YtccdnmachpepcaaDoorSetGen
import Derived.Maps.StringElems
namespace Go.Proofs.YtccdnmachpepcaaDoor.MapGen
open Go.RowKit Go.Maps Go.Proofs.YtccdnmachpepcaaDoorW.PrintWords Go.Proofs.YtccdnmachpepcaaDoor.SetGen

abbrev lit (s : ByteArray) : Lit := Lit.string s.data.toList
theorem lit_same (x y : ByteArray) : (lit x).sameKey (lit y) = true ↔ x = y :=
  ⟨fun h => by
    have := WideAt.sameKey_eq h
    injection this with h1
    cases x; cases y; congr 1; exact Array.toList_inj.1 h1, fun h => by subst h; exact WideAt.sameKey_self (by simp [WideAt.IsKeyLit])⟩
theorem lit_ne {x y : ByteArray} (h : x ≠ y) : lit x ≠ lit y := fun e => h ((lit_same x y).1 (by rw [e]; exact WideAt.sameKey_self (by simp [WideAt.IsKeyLit])))
theorem lit_isKey (x : ByteArray) : WideAt.IsKeyLit (lit x) := by simp [WideAt.IsKeyLit]
theorem key_make {P : Program} {k : TypeId} (hk : P.underlying k = some .string) (x : ByteArray) (hx : x.size ≤ maxLen) : keyOf P k (.string x) = some (lit x) := by
  simp [keyOf, hk, mapKey, hx]
theorem key_inv {P : Program} {k : TypeId} (hk : P.underlying k = some .string) {key : Value} {kl : Lit} (h : keyOf P k key = some kl) : ∃ s : ByteArray, key = .string s ∧ kl = lit s ∧ s.size ≤ maxLen := by
  cases key <;> simp [keyOf, hk, mapKey] at h
  rename_i s
  obtain ⟨hs, rfl⟩ := h
  exact ⟨s, rfl, rfl, hs⟩
/-- The empty text, as the model's zero value has it. -/
abbrev E0 : ByteArray := ⟨#[]⟩

section
variable {P : Program} {k : TypeId}

/-- Block b is a map that is the partial function f, of at most N entries. -/
def Mp (P : Program) (k : TypeId) (w : World) (b N : Nat) (f : ByteArray → Option ByteArray) : Prop :=
  ∃ (n : Nat) (D : DataW Nat), w.ownsMap P k (plainElem P k) b n D ∧ n ≤ N ∧ (∀ x, x.size ≤ maxLen → has D (lit x) = (f x).isSome) ∧ (∀ x v, f x = some v → x.size ≤ maxLen ∧ v.size ≤ maxLen ∧ ∀ zd, D.atKey (lit x) zd = .lit (lit v))

theorem Mp.kept {w w' : World} {b N : Nat} {f : ByteArray → Option ByteArray} {row : Option Nat} (h : Mp P k w b N f) (hg : w.grownBy w' row) (hne : some b ≠ row) : Mp P k w' b N f := by
  obtain ⟨n, D, h1, h2⟩ := h
  exact ⟨n, D, h1.kept hg hne, h2⟩
theorem Mp.lt {w : World} {b N : Nat} {f : ByteArray → Option ByteArray} (h : Mp P k w b N f) : b < w.heap.size := by
  obtain ⟨n, D, h1, h2⟩ := h
  exact h1.lt
theorem Mp.mono {w : World} {b N N' : Nat} {f : ByteArray → Option ByteArray} (h : Mp P k w b N f) (hN : N ≤ N') : Mp P k w b N' f := by
  obtain ⟨n, D, h1, h2, h3⟩ := h
  exact ⟨n, D, h1, Nat.le_trans h2 hN, h3⟩
theorem Mp.congr {w : World} {b N : Nat} {f f' : ByteArray → Option ByteArray} (h : Mp P k w b N f) (hf : ∀ x, f x = f' x) : Mp P k w b N f' := by
  obtain rfl : f = f' := funext hf
  exact h
theorem Mp.made (w : World) : Mp P k (w.alloc (.map #[] 0)) w.heap.size 0 (fun _ => none) :=
  ⟨0, _, World.ownsMap_made w P k (plainElem P k), Nat.le_refl _, fun x _ => by simp [has_eq], fun x v hx => by cases hx⟩
theorem Mp.vals {w : World} {b N : Nat} {f : ByteArray → Option ByteArray} (h : Mp P k w b N f) {x v : ByteArray} (hx : f x = some v) : x.size ≤ maxLen ∧ v.size ≤ maxLen := by
  obtain ⟨n, D, _, _, _, h4⟩ := h
  exact ⟨(h4 x v hx).1, (h4 x v hx).2.1⟩

instance memB (x : ByteArray) (l : List ByteArray) : Decidable (x ∈ l) := @List.instDecidableMemOfLawfulBEq ByteArray instBEqOfDecidableEq inferInstance x l
/-- A loop over a map: the keys in 'done' have come. -/
def Mr (P : Program) (k : TypeId) (w : World) (b r N : Nat) (f : ByteArray → Option ByteArray) (done : List ByteArray) : Prop :=
  ∃ (n : Nat) (D : DataW Nat) (left : Lit → Bool) (cnt : Nat), w.ranges P k (plainElem P k) b r n D left cnt ∧ n ≤ N ∧ (∀ x, x.size ≤ maxLen → has D (lit x) = (f x).isSome) ∧ (∀ x v, f x = some v → x.size ≤ maxLen ∧ v.size ≤ maxLen ∧ ∀ zd, D.atKey (lit x) zd = .lit (lit v)) ∧
    done.Nodup ∧ (∀ x ∈ done, (f x).isSome) ∧ ∀ x, x.size ≤ maxLen → left (lit x) = ((f x).isSome && !decide (x ∈ done))

theorem Mr.kept {w w' : World} {b r N : Nat} {f : ByteArray → Option ByteArray} {done : List ByteArray} {row : Option Nat} (h : Mr P k w b r N f done) (hg : w.grownBy w' row) (hb : some b ≠ row) (hr : some r ≠ row) : Mr P k w' b r N f done := by
  obtain ⟨n, D, left, cnt, h1, h2⟩ := h
  exact ⟨n, D, left, cnt, h1.kept hg hb hr, h2⟩
theorem Mr.map {w : World} {b r N : Nat} {f : ByteArray → Option ByteArray} {done : List ByteArray} (h : Mr P k w b r N f done) : Mp P k w b N f := by
  obtain ⟨n, D, left, cnt, h1, h2, h3, h4, _⟩ := h
  exact ⟨n, D, h1.owns, h2, h3, h4⟩
theorem Mr.lt {w : World} {b r N : Nat} {f : ByteArray → Option ByteArray} {done : List ByteArray} (h : Mr P k w b r N f done) : r < w.heap.size := by
  obtain ⟨n, D, left, cnt, h1, _⟩ := h
  exact h1.lt
theorem Mr.left {w w' : World} {b r N : Nat} {f : ByteArray → Option ByteArray} {done : List ByteArray} {row : Option Nat} (h : Mr P k w b r N f done) (hg : w.grownBy w' row) (hb : some b ≠ row) (hr : some r ≠ row) : w'.rangeLeft b r = w.rangeLeft b r := by
  obtain ⟨n, D, left, cnt, h1, _⟩ := h
  rw [(h1.kept hg hb hr).left_eq, h1.left_eq]
theorem Mr.nodup {w : World} {b r N : Nat} {f : ByteArray → Option ByteArray} {done : List ByteArray} (h : Mr P k w b r N f done) : done.Nodup ∧ ∀ x ∈ done, (f x).isSome := by
  obtain ⟨n, D, left, cnt, _, _, _, _, h5, h6, _⟩ := h
  exact ⟨h5, h6⟩
theorem Mr.row_ne {w : World} {b r N base n size : Nat} {e : TypeId} {v : Value} {xs : List Value} {f : ByteArray → Option ByteArray} {done : List ByteArray} (h : Mr P k w b r N f done) (ho : w.ownsRow base e size v n xs) : some r ≠ v.ownBlock := by
  obtain ⟨n, D, left, cnt, h1, _⟩ := h
  exact row_ne_iter ho h1

/-- The keys of a map. -/
theorem Mp.keys (hk : P.underlying k = some .string) {w : World} {b N : Nat} {f : ByteArray → Option ByteArray} (h : Mp P k w b N f) : ∃ (n : Nat) (D : DataW Nat), w.ownsMap P k (plainElem P k) b n D ∧ n ≤ N ∧
    ∃ xs : List ByteArray, xs.Nodup ∧ (∀ x, x ∈ xs ↔ (f x).isSome) ∧ Maps.size D = xs.length := by
  obtain ⟨n, D, h1, h2, h3, h4⟩ := h
  refine ⟨n, D, h1, h2, ?_⟩
  obtain ⟨es, hD, hpw, _⟩ := h1.entries (string_keyed hk)
  obtain ⟨es', hD', hko⟩ := h1.keysOf
  obtain rfl : es = es' := by rw [hD] at hD'; simpa using hD'
  have key : ∀ L : List (Lit × DataW Nat), L.Pairwise (fun p q => p.1 ≠ q.1) → (∀ p ∈ L, KeysOf P k p.1) → ∃ xs : List ByteArray, L.map Prod.fst = xs.map lit ∧ xs.Nodup ∧ ∀ x ∈ xs, x.size ≤ maxLen := by
    intro L
    induction L with
    | nil => intro _ _; exact ⟨[], rfl, List.nodup_nil, by simp⟩
    | cons p L ih =>
      intro hp hk'
      obtain ⟨hp1, hp2⟩ := List.pairwise_cons.1 hp
      obtain ⟨xs, e, hn, ho⟩ := ih hp2 (fun q hq => hk' q (by simp [hq]))
      obtain ⟨v, hv⟩ := hk' p (by simp)
      obtain ⟨x, _, hx, hok⟩ := key_inv hk hv
      refine ⟨x :: xs, by simp [e, hx], List.nodup_cons.2 ⟨fun hm => ?_, hn⟩, ?_⟩
      · have : lit x ∈ L.map Prod.fst := by rw [e]; exact List.mem_map_of_mem hm
        obtain ⟨q, hq, hqe⟩ := List.mem_map.1 this
        exact hp1 q hq (by rw [hx, hqe])
      · intro y hy
        rcases List.mem_cons.1 hy with rfl | hy
        · exact hok
        · exact ho y hy
  obtain ⟨xs, e, hn, ho⟩ := key es hpw hko
  refine ⟨xs, hn, fun x => ?_, by rw [hD, Maps.size_eq]; have := congrArg List.length e; simpa using this⟩
  have hmem : ∀ x, has D (lit x) = true ↔ x ∈ xs := by
    intro x
    rw [hD, has_eq, List.any_eq_true]
    constructor
    · rintro ⟨p, hp, hs⟩
      have : p.1 ∈ xs.map lit := by rw [← e]; exact List.mem_map_of_mem hp
      obtain ⟨y, hy, hye⟩ := List.mem_map.1 this
      rw [← hye] at hs
      rw [← (lit_same y x).1 hs]; exact hy
    · intro hx
      have : lit x ∈ es.map Prod.fst := by rw [e]; exact List.mem_map_of_mem hx
      obtain ⟨p, hp, hpe⟩ := List.mem_map.1 this
      exact ⟨p, hp, by rw [hpe]; exact (lit_same x x).2 rfl⟩
  constructor
  · intro hx
    rw [← h3 x (ho x hx)]
    exact (hmem x).2 hx
  · intro hx
    obtain ⟨v, hv⟩ := Option.isSome_iff_exists.1 hx
    refine (hmem x).1 ?_
    rw [h3 x (h4 x v hv).1]
    exact hx

theorem Mr.length (hk : P.underlying k = some .string) {w : World} {b r N : Nat} {f : ByteArray → Option ByteArray} {done : List ByteArray} (h : Mr P k w b r N f done) : done.length ≤ N := by
  obtain ⟨n, D, h1, h2, xs, hn, hm, hs⟩ := h.map.keys hk
  have := nodup_length h.nodup.1 (fun x hx => (hm x).2 (h.nodup.2 x hx))
  have := h1.size_le
  omega
/-- A step of a loop over a map that writes block bn, the call's own. -/
theorem map_round {wr w2 w4 w : World} {b r bn N : Nat} {f : ByteArray → Option ByteArray} {done : List ByteArray} (hG2 : Mr P k w2 b r N f done) (hlt : w2.rangeLeft b r < wr.rangeLeft b r)
    (hg2 : wr.grownBy w2 (some r)) (hgg : w2.grownBy w4 (some bn)) (hb : b < bn) (hbn : w.heap.size ≤ bn) (hr : bn < r) (hB : Below w.heap.size w wr) :
    Mr P k w4 b r N f done ∧ w4.rangeLeft b r < wr.rangeLeft b r ∧ Below w.heap.size w w4 := by
  have n1 : some b ≠ some bn := by simp; omega
  have n2 : some r ≠ some bn := by simp; omega
  refine ⟨hG2.kept hgg n1 n2, by rw [hG2.left hgg n1 n2]; exact hlt, ?_⟩
  have h2 : Below w.heap.size w w2 := Below.grown hB hg2 hB.size (fun j hj => by cases hj; omega)
  exact Below.grown h2 hgg h2.size (fun j hj => by cases hj; exact hbn)

section
variable (w : World) {ops : Array Oper} {rest : List Oper} {o : Oper} {a : Act} {Q : Exit → Act → World → Prop}

/-- 'make(map)', 'map{}'. -/
theorem wp_make (hg : o.guard = none) (t : TypeId) (hop : o.op = Op.makeMap t none)
    (hK : ∀ w', Mp P k w' w.heap.size 0 (fun _ => none) → w.grownBy w' none → w.heap.size < w'.heap.size → wpList P ops Q rest (a.put o.dst (.map (some w.heap.size))) w') :
    wpList P ops Q (o :: rest) a w := by
  refine wpList_plain hg fun K' hK' => ?_
  unfold Oper.wp
  simp [execOp, hop, run_makeMap, Result.andThen]
  exact hK' _ _ (hK _ (Mp.made w) (World.grownBy_alloc _ _ _) (by simp))

/-- 'm[x] = v'. -/
theorem wp_put (hk : P.underlying k = some .string) (hg : o.guard = none) (m x v : Operand) (t : TypeId) (hop : o.op = Op.mapUpdate t m x v) (ht : P.underlying t = some (.map k k)) (b N : Nat) (f : ByteArray → Option ByteArray)
    (hm : a.eval m = .map (some b)) (hS : Mp P k w b N f) (hl : N < maxLen) (y z : ByteArray) (hy : y.size ≤ maxLen) (hz : z.size ≤ maxLen) (hx : a.eval x = .string y) (hv : a.eval v = .string z)
    (hK : ∀ w', Mp P k w' b (N + 1) (fun q => if q = y then some z else f q) → w.grownBy w' (some b) → wpList P ops Q rest (a.put o.dst undef) w') :
    wpList P ops Q (o :: rest) a w := by
  obtain ⟨n, D, h1, h2, h3, h4⟩ := hS
  refine wpList_mapUpdate_own w hg m x v t hop k k (string_keyed hk) ht (plainElem P k) b n D hm h1 (by omega) _ _ (lit y) hx hv (key_make hk y hy) (.lit (lit z)) [] (plainElem_string hk hz) ?_
  intro w' ho hgr
  refine hK w' ⟨n + 1, _, ho, by omega, fun q hq => ?_, fun q u hq => ?_⟩ hgr
  · by_cases e : q = y
    · subst e
      rw [has_put_same h1.isMap (lit_isKey q)]
      simp
    · rw [has_put_other (lit_ne e), h3 q hq]
      simp [e]
  · by_cases e : q = y
    · subst e
      have hu : z = u := by simpa using hq
      subst hu
      exact ⟨hy, hz, fun zd => atKey_put_same h1.isMap (lit_isKey q) _ _⟩
    · have hq' : f q = some u := by simpa [e] using hq
      obtain ⟨a1, a2, a3⟩ := h4 q u hq'
      exact ⟨a1, a2, fun zd => by rw [atKey_put_other (lit_ne e)]; exact a3 zd⟩

theorem look_val (hk : P.underlying k = some .string) {w : World} {b n : Nat} {D : DataW Nat} {f : ByteArray → Option ByteArray} (_h : w.ownsMap P k (plainElem P k) b n D) (h3 : ∀ x, x.size ≤ maxLen → has D (lit x) = (f x).isSome) (h4 : ∀ x v, f x = some v → x.size ≤ maxLen ∧ v.size ≤ maxLen ∧ ∀ zd, D.atKey (lit x) zd = .lit (lit v))
    {y : ByteArray} (hy : y.size ≤ maxLen) {v : Value} {ps : List MemPlace} (hv : plainElem P k v = some (D.atKey (lit y) (.lit (lit E0)), ps)) : v = .string ((f y).getD E0) := by
  obtain ⟨s, rfl, e, _⟩ := plainElem_string_inv hk hv
  simp only [Prod.mk.injEq] at e
  have e1 : D.atKey (lit y) (.lit (lit E0)) = .lit (lit s) := e.1
  rcases hf : f y with _ | u
  · rw [atKey_of_not_has (by rw [h3 y hy, hf]; rfl)] at e1
    injection e1 with e1
    have := (lit_same E0 s).1 (by rw [e1]; exact WideAt.sameKey_self (lit_isKey _))
    rw [← this]
    rfl
  · rw [(h4 y u hf).2.2] at e1
    injection e1 with e1
    have := (lit_same u s).1 (by rw [e1]; exact WideAt.sameKey_self (lit_isKey _))
    rw [← this]
    rfl

/-- 'v, ok := m[x]'. -/
theorem wp_look2 (hk : P.underlying k = some .string) (hg : o.guard = none) (m x : Operand) (t : TypeId) (hop : o.op = Op.lookup t m x true) (ht : P.underlying t = some (.map k k)) (hz : (zeroValue k).run P w = .ok (.string E0) w) (b N : Nat) (f : ByteArray → Option ByteArray)
    (hm : a.eval m = .map (some b)) (hS : Mp P k w b N f) (y : ByteArray) (hy : y.size ≤ maxLen) (hx : a.eval x = .string y)
    (hK : wpList P ops Q rest (a.put o.dst (.tuple #[.string ((f y).getD E0), .bool (f y).isSome])) w) :
    wpList P ops Q (o :: rest) a w := by
  obtain ⟨n, D, h1, h2, h3, h4⟩ := hS
  refine wpList_lookup_own_ok w hg m x t hop k k (string_keyed hk) ht (plainElem P k) hz (.lit (lit E0)) [] (plainElem_string hk (by decide)) b n D hm h1 _ (lit y) hx (key_make hk y hy) ?_
  intro v ps hv
  rw [look_val hk h1 h3 h4 hy hv, h3 y hy]
  exact hK

theorem wp_look2_some (hk : P.underlying k = some .string) (hg : o.guard = none) (m x : Operand) (t : TypeId) (hop : o.op = Op.lookup t m x true) (ht : P.underlying t = some (.map k k)) (hz : (zeroValue k).run P w = .ok (.string E0) w) (b N : Nat) (f : ByteArray → Option ByteArray)
    (hm : a.eval m = .map (some b)) (hS : Mp P k w b N f) (y u : ByteArray) (hy : y.size ≤ maxLen) (hf : f y = some u) (hx : a.eval x = .string y)
    (hK : wpList P ops Q rest (a.put o.dst (.tuple #[.string u, .bool true])) w) :
    wpList P ops Q (o :: rest) a w := by
  refine wp_look2 w hk hg m x t hop ht hz b N f hm hS y hy hx ?_
  rw [hf]
  exact hK
theorem wp_look2_none (hk : P.underlying k = some .string) (hg : o.guard = none) (m x : Operand) (t : TypeId) (hop : o.op = Op.lookup t m x true) (ht : P.underlying t = some (.map k k)) (hz : (zeroValue k).run P w = .ok (.string E0) w) (b N : Nat) (f : ByteArray → Option ByteArray)
    (hm : a.eval m = .map (some b)) (hS : Mp P k w b N f) (y : ByteArray) (hy : y.size ≤ maxLen) (hf : f y = none) (hx : a.eval x = .string y)
    (hK : wpList P ops Q rest (a.put o.dst (.tuple #[.string E0, .bool false])) w) :
    wpList P ops Q (o :: rest) a w := by
  refine wp_look2 w hk hg m x t hop ht hz b N f hm hS y hy hx ?_
  rw [hf]
  exact hK

/-- 'm[x]'. -/
theorem wp_look (hk : P.underlying k = some .string) (hg : o.guard = none) (m x : Operand) (t : TypeId) (hop : o.op = Op.lookup t m x false) (ht : P.underlying t = some (.map k k)) (hz : (zeroValue k).run P w = .ok (.string E0) w) (b N : Nat) (f : ByteArray → Option ByteArray)
    (hm : a.eval m = .map (some b)) (hS : Mp P k w b N f) (y : ByteArray) (hy : y.size ≤ maxLen) (hx : a.eval x = .string y)
    (hK : wpList P ops Q rest (a.put o.dst (.string ((f y).getD E0))) w) :
    wpList P ops Q (o :: rest) a w := by
  obtain ⟨n, D, h1, h2, h3, h4⟩ := hS
  refine wpList_plain hg fun K' hK' => ?_
  obtain ⟨v, ps, hrun, hv⟩ := h1.lookup (string_keyed hk) ht hz (plainElem_string (H := Nat) hk (s := E0) (by decide)) (key_make hk y hy)
  have e := look_val hk h1 h3 h4 hy hv
  subst e
  unfold Oper.wp
  simp [execOp, hop, hm, hx, hrun, Result.andThen]
  exact hK' _ _ hK

/-- 'len(m)'. -/
theorem wp_len (hk : P.underlying k = some .string) (hg : o.guard = none) (m : Operand) (t : TypeId) (hop : o.op = Op.call { callee := Callee.builtin Builtin.len, args := #[m], argTypes := #[t] }) (ht : P.underlying t = some (.map k k)) (b N : Nat) (f : ByteArray → Option ByteArray)
    (hm : a.eval m = .map (some b)) (hS : Mp P k w b N f)
    (hK : ∀ xs : List ByteArray, xs.Nodup → (∀ x, x ∈ xs ↔ (f x).isSome) → xs.length ≤ N → wpList P ops Q rest (a.put o.dst (.int .i64 xs.length)) w) :
    wpList P ops Q (o :: rest) a w := by
  obtain ⟨n, D, h1, h2, xs, hn, hmem, hsz⟩ := hS.keys hk
  refine wpList_len_own w hg m t hop k k ht (plainElem P k) b n D hm h1 ?_
  rw [hsz]
  exact hK xs hn hmem (by have := h1.size_le; omega)

/-- 'range m'. -/
theorem wp_range (hk : P.underlying k = some .string) (hg : o.guard = none) (m : Operand) (t : TypeId) (hop : o.op = Op.range t m) (ht : P.underlying t = some (.map k k)) (b N : Nat) (f : ByteArray → Option ByteArray)
    (hm : a.eval m = .map (some b)) (hS : Mp P k w b N f)
    (hK : ∀ w', Mr P k w' b w.heap.size N f [] → w.grownBy w' none → w'.heap.size = w.heap.size + 1 → wpList P ops Q rest (a.put o.dst (.pointer (some ⟨w.heap.size, 0, none⟩))) w') :
    wpList P ops Q (o :: rest) a w := by
  obtain ⟨n, D, h1, h2, h3, h4⟩ := hS
  refine wpList_range_own w hg m t hop k k (string_keyed hk) ht (plainElem P k) b n D hm h1 ?_
  intro w' hr hgr hs
  exact hK w' ⟨n, D, _, _, hr, h2, h3, h4, List.nodup_nil, (fun x hx => by cases hx), fun x hx => by rw [h3 x hx]; simp⟩ hgr hs

/-- The step. -/
theorem wp_next (hk : P.underlying k = some .string) (hg : o.guard = none) (it : Operand) (hop : o.op = Op.next it false) (b r N : Nat) (f : ByteArray → Option ByteArray) (done : List ByteArray) (hit : a.eval it = .pointer (some ⟨r, 0, none⟩)) (h : Mr P k w b r N f done)
    (hDone : (∀ x, (f x).isSome → x ∈ done) → wpList P ops Q rest (a.put o.dst (.tuple #[.bool false])) w)
    (hMore : ∀ (x v : ByteArray) (w' : World), x.size ≤ maxLen → f x = some v → v.size ≤ maxLen → x ∉ done → Mr P k w' b r N f (done ++ [x]) → w'.rangeLeft b r < w.rangeLeft b r → w.grownBy w' (some r) → w'.heap.size = w.heap.size →
      (Instr.entry (.pointer (some ⟨r, 0, none⟩))).run P w' = .ok (.tuple #[.string x, .string v]) w' → wpList P ops Q rest (a.put o.dst (.tuple #[.bool true, .string x, .string v])) w') :
    wpList P ops Q (o :: rest) a w := by
  obtain ⟨n, D, left, cnt, h1, h2, h3, h4, h5, h6, h7⟩ := h
  refine wpList_next_ranges (α := ByteArray) (β := ByteArray) w hg it hop k (string_keyed hk) (plainElem P k) Value.string Value.string (fun key kl hkey => ?_) (fun v y hv => ?_) b r n D left cnt hit h1 ?_ ?_
  · obtain ⟨x, hx, _⟩ := key_inv hk hkey
    exact ⟨x, hx⟩
  · obtain ⟨s, hs, _⟩ := plainElem_string_inv hk hv
    exact ⟨s, hs⟩
  · intro _ hl0
    refine hDone (fun x hx => ?_)
    obtain ⟨v, hv⟩ := Option.isSome_iff_exists.1 hx
    have := hl0 (lit x)
    rw [h7 x (h4 x v hv).1] at this
    simpa [hv] using this
  · intro x c kl y w' cnt' hkey hlk hel hat hr hlt hgr hs hen
    obtain ⟨x', hx', rfl, hok⟩ := key_inv hk hkey
    obtain rfl : x = x' := by injection hx'
    rw [h7 x hok] at hlk
    simp only [Bool.and_eq_true, Bool.not_eq_true', decide_eq_false_iff_not] at hlk
    obtain ⟨v, hv⟩ := Option.isSome_iff_exists.1 hlk.1
    obtain ⟨s, es, ey, hsz⟩ := plainElem_string_inv hk hel
    obtain rfl : c = s := by injection es
    have hcv : v = c := by
      have e1 := hat (.lit (lit E0))
      rw [(h4 x v hv).2.2] at e1
      rw [ey] at e1
      injection e1 with e1
      exact (lit_same v c).1 (by rw [show lit v = lit c from e1]; exact WideAt.sameKey_self (lit_isKey _))
    subst hcv
    refine hMore x v w' hok hv hsz hlk.2 ⟨n, D, _, cnt', hr, h2, h3, h4, ?_, ?_, ?_⟩ (by rw [hr.left_eq, h1.left_eq]; exact hlt) hgr hs hen
    · exact List.nodup_append.2 ⟨h5, by simp, fun p hp q hq e => by rw [List.mem_singleton.1 hq] at e; exact hlk.2 (e ▸ hp)⟩
    · intro z hz
      rcases List.mem_append.1 hz with h | h
      · exact h6 z h
      · rw [List.mem_singleton.1 h]; exact hlk.1
    · intro z hz
      have e1 : (lit z).sameKey (lit x) = decide (z = x) := by
        rw [Bool.eq_iff_iff, lit_same z x]; simp
      rw [h7 z hz, e1]
      by_cases e : z = x <;> simp [e]
end
end
end Go.Proofs.YtccdnmachpepcaaDoor.MapGen
