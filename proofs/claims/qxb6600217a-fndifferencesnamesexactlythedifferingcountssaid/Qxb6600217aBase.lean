import Derived.Test.Qxb6600217aRows
import Derived.WalkKit
import Derived.WalkSpells
import Derived.WalkLawsBesides
import Derived.Maps.AppendAt
import Derived.BigQuiet
import Derived.Deep.QuietTactic
import Derived.Deep.LoopGhost
import Derived.Deep.RegionHeld3
import Derived.Deep.CutRange
import Derived.Handy
namespace Go.Proofs.Qxb6600217a
open Go.RowKit

/-- The walk goes on under a postcondition that is a variable: its own rules cannot look into it. -/
theorem hidR {P : Program} {f : FuncId} {args : Array Value} {w : World} {Post : Ending → World → Prop}
    (h : ∀ R : Ending → World → Prop, Hid (∀ e w', Post e w' → R e w') → Calls P f args w R) : Calls P f args w Post := h Post (fun _ _ h => h)
theorem hide {p : Prop} (h : p) : Hid p := h
theorem unhide {p : Prop} (h : Hid p) : p := h

theorem below_of_grown {w w' : World} {B : Nat} (h : w.grownBy w' none) (hB : B ≤ w.heap.size) : Below B w w' := (Below.refl B w).grown h hB (by simp)

set_option maxHeartbeats 400000 in
theorem amounts14 (x0 x1 x2 x3 x4 x5 x6 : Int) (w : World) :
    Calls Try.prog 14 #[.agg #[.int .i64 x0, .int .i64 x1, .int .i64 x2, .int .i64 x3, .int .i64 x4, .int .i64 x5, .int .i64 x6]] w fun e w' => e = .returned (.agg #[.int .i64 x1, .int .i64 x2, .int .i64 x3, .int .i64 x4, .int .i64 x5, .int .i64 x6]) ∧ w.grownBy w' none := by
  refine hidR fun R HR => ?_
  go_enter Try.func14, Try.ntmps14
  go_wp2
  refine bodyPost_ret (v := .agg #[.int .i64 x1, .int .i64 x2, .int .i64 x3, .int .i64 x4, .int .i64 x5, .int .i64 x6]) (by simp [results, Try.results14, go_sem]) rfl ?_
  exact HR.out _ _ ⟨rfl, (World.grownBy_alloc w _ none).trans (World.grownBy_alloc _ _ none)⟩

set_option maxHeartbeats 400000 in
theorem counts16 (x0 x1 x2 x3 x4 x5 x6 : Int) (w : World) :
    Calls Try.prog 16 #[.agg #[.int .i64 x0, .int .i64 x1, .int .i64 x2, .int .i64 x3, .int .i64 x4, .int .i64 x5, .int .i64 x6]] w fun e w' => e = .returned (.agg #[.int .i64 x0, .int .i64 x1, .int .i64 x2, .int .i64 x3, .int .i64 x4, .int .i64 x5, .int .i64 x6]) ∧ w.grownBy w' none := by
  refine hidR fun R HR => ?_
  go_enter Try.func16, Try.ntmps16
  go_wp2
  refine bodyPost_ret (v := .agg #[.int .i64 x0, .int .i64 x1, .int .i64 x2, .int .i64 x3, .int .i64 x4, .int .i64 x5, .int .i64 x6]) (by simp [results, Try.results16, go_sem]) rfl ?_
  exact HR.out _ _ ⟨rfl, (World.grownBy_alloc w _ none).trans (World.grownBy_alloc _ _ none)⟩

def n0 : ByteArray := ⟨#[100, 101, 116, 97, 105, 108, 95, 114, 111, 119, 115]⟩
def n1 : ByteArray := ⟨#[115, 101, 116, 116, 108, 101, 109, 101, 110, 116]⟩
def n2 : ByteArray := ⟨#[114, 101, 102, 117, 110, 100]⟩
def n3 : ByteArray := ⟨#[114, 101, 99, 104, 97, 114, 103, 101, 95, 99, 111, 117, 112, 111, 110, 95, 114, 101, 102, 117, 110, 100]⟩
def n4 : ByteArray := ⟨#[102, 101, 101]⟩
def n5 : ByteArray := ⟨#[111, 114, 100, 101, 114]⟩
def n6 : ByteArray := ⟨#[97, 112, 112, 108, 105, 101, 100, 95, 114, 101, 102, 117, 110, 100]⟩

set_option maxHeartbeats 1000000 in
theorem columns18 (b o : Nat) (w : World) :
    Calls Try.prog 18 #[.pointer (some ⟨b, o, none⟩)] w fun e w' => e = .returned (.agg #[.string n1, .pointer (some ⟨b, o, none⟩), .string n2, .pointer (some ⟨b, o + 1, none⟩), .string n3, .pointer (some ⟨b, o + 2, none⟩), .string n4, .pointer (some ⟨b, o + 3, none⟩), .string n5, .pointer (some ⟨b, o + 4, none⟩), .string n6, .pointer (some ⟨b, o + 5, none⟩)]) ∧ w.grownBy w' none := by
  refine hidR fun R HR => ?_
  go_enter Try.func18, Try.ntmps18
  go_wp2
  go_region
  go_wp2
  refine bodyPost_ret (v := .agg #[.string n1, .pointer (some ⟨b, o, none⟩), .string n2, .pointer (some ⟨b, o + 1, none⟩), .string n3, .pointer (some ⟨b, o + 2, none⟩), .string n4, .pointer (some ⟨b, o + 3, none⟩), .string n5, .pointer (some ⟨b, o + 4, none⟩), .string n6, .pointer (some ⟨b, o + 5, none⟩)]) (by simp [results, Try.results18, go_sem, n1, n2, n3, n4, n5, n6]) rfl ?_
  exact HR.out _ _ ⟨rfl, ⟨rfl, rfl, rfl, by simp, fun k hk _ => Go.heap_alloc_old w _ hk⟩⟩

theorem info9 : (Try.prog.info? 9).map (fun i => (i.zero, i.size, i.bytes)) = some (some (.string ByteArray.empty), 1, 16) := by kernel_rfl

/-- What the seven counts are called. -/
def nm : Nat → ByteArray
  | 0 => n0 | 1 => n1 | 2 => n2 | 3 => n3 | 4 => n4 | 5 => n5 | _ => n6

/-- The names of the first k counts that differ. -/
def df (T U : Nat → Int) : Nat → List ByteArray
  | 0 => []
  | k + 1 => if T k = U k then df T U k else df T U k ++ [nm k]

theorem df_len (T U : Nat → Int) : ∀ k, (df T U k).length ≤ k
  | 0 => Nat.le_refl _
  | k + 1 => by unfold df; have := df_len T U k; split <;> simp <;> omega

/-- append of at least one element onto a slice of the call's own: the value's shape written out. -/
theorem wpList_append_shape {P : Program} (w : World) {ops : Array Oper} {rest : List Oper} {o : Oper} {a : Act} {Q : Exit → Act → World → Prop} (hgd : o.guard = none) (s x : Operand) (t : TypeId)
    (ho : o.op = .call { callee := .builtin .append, args := #[s, x], argTypes := #[t, t] })
    (base : Nat) (e : TypeId) (i : TypeInfo) (z : Value) (size bytes : Nat) (ht : P.underlying t = some (.slice e)) (hi : P.info? e = some i) (hz : i.zero = some z)
    (hsize : i.size = size) (hby : i.bytes = bytes) (hzs : z.cells.size = size) (hsz : 0 < size)
    (v : Value) (n : Nat) (xs : List Value) (hs : a.eval s = v) (hown : w.ownsRow base e size v n xs)
    (ad : Addr) (m c : Nat) (news : List Value) (hx : a.eval x = .slice (some ad) m c) (hl : news.length = m * size) (hnews : ∀ j u, news[j]? = some u → w.cell? (ad.add j) = some u) (h1 : ∀ u ∈ news, u.oneCell' = true)
    (h63 : n + m ≤ maxLen) (hbytes : (n + m) * bytes ≤ 140737488355328) (hbase : base ≤ w.heap.size) (hm : 0 < m)
    (h : ∀ g cap w', w'.ownsRow base e size (.slice (some ⟨g, 0, none⟩) (n + m) cap) (n + m) (xs ++ news) → w.grownBy w' v.ownBlock → wpList P ops Q rest (a.put o.dst (.slice (some ⟨g, 0, none⟩) (n + m) cap)) w') :
    wpList P ops Q (o :: rest) a w := by
  refine wpList_append_own_at w hgd s x t ho base e i z size bytes ht hi hz hsize hby hzs hsz v n xs hs hown ad m c news hx hl hnews h1 h63 hbytes hbase ?_
  intro v' w' hown' hg _ _
  rcases hown'.2 with ⟨_, h0⟩ | ⟨g, cap, cur, rfl, r⟩
  · omega
  · exact h g cap w' hown' hg

def tots (r : Int) (A : Nat → Int) : Value := .agg #[.int .i64 r, .int .i64 (A 1), .int .i64 (A 2), .int .i64 (A 3), .int .i64 (A 4), .int .i64 (A 5), .int .i64 (A 6)]

end Go.Proofs.Qxb6600217a
