/- Steps on functions that answer from some number of rounds on: a test that is decided, a value that is handed on, one round. -/
import Derived.Test.YtccdnmachpepcaaDoorWWords
import Derived.Test.YtccdnmachpepcaaDoorWMore
namespace Go.Proofs.YtccdnmachpepcaaDoor.EvL
open Go.RowKit Go.Proofs.YtccdnmachpepcaaDoorW.PrintWords

theorem ifp {α : Type} {c : Prop} [Decidable c] {f g : Nat → Option α} {r : α} (h : c) (k : Ev f r) : Ev (fun n => if c then f n else g n) r := by
  simpa [h] using k

theorem ifn {α : Type} {c : Prop} [Decidable c] {f g : Nat → Option α} {r : α} (h : ¬ c) (k : Ev g r) : Ev (fun n => if c then f n else g n) r := by
  simpa [h] using k

theorem sb {α β : Type} {a : α} {f : Nat → α → Option β} {r : β} (k : Ev (fun n => f n a) r) : Ev (fun n => (some a).bind (f n)) r := k

theorem cb {α β : Type} {g : Option α} {f : Nat → α → Option β} {a : α} {r : β} (h : g = some a) (k : Ev (fun n => f n a) r) : Ev (fun n => g.bind (f n)) r := by
  subst h; exact k

theorem now {α : Type} {a r : α} (h : a = r) : Ev (fun _ => some a) r := by
  subst h; exact Ev.now a

theorem w64 {x : Int} (h0 : -9223372036854775808 ≤ x) (h1 : x ≤ 9223372036854775807) : wrap64 x = x := by
  unfold wrap64; omega

theorem w32 {x : Int} (h0 : -2147483648 ≤ x) (h1 : x ≤ 2147483647) : wrap32 x = x := by
  unfold wrap32; omega

end Go.Proofs.YtccdnmachpepcaaDoor.EvL
