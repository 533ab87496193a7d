import Derived.Test.Qxb6600162aRows
import Derived.WalkKit
import Derived.WalkSpells
import Derived.WalkLawsBesides
import Derived.Maps.OwnSet
import Derived.Maps.AppendAt
import Derived.BigQuiet
import Derived.Deep.QuietTactic
import Derived.Deep.LoopGhost
namespace Go.Proofs.Qxb6600162a
open Go.RowKit Go.Maps

/-- The walk goes on under a postcondition that is a variable: its own rules cannot look into it. -/
theorem hidR {P : Program} {f : FuncId} {args : Array Value} {w : World} {Post : Ending → World → Prop}
    (h : ∀ R : Ending → World → Prop, Hid (∀ e w', Post e w' → R e w') → Calls P f args w R) : Calls P f args w Post := h Post (fun _ _ h => h)

theorem info9 : (Try.prog.info? 9).map (fun i => (i.zero, i.size, i.bytes)) = some (some (.string ByteArray.empty), 1, 16) := by kernel_rfl
theorem law9 : Keyed Try.prog 9 := string_keyed Try.underlying9
theorem zero27 (w : World) : (zeroValue 27).run Try.prog w = .ok (.int .u32 0) w := by kernel_rfl

/-- The cells of a slice of strings, asked for only where there is an element. -/
def Texts (w : World) (a : Option Addr) (len : Nat) (ss : List ByteArray) : Prop :=
  len ≤ ss.length ∧ ∀ k, k < len → ∃ b off, a = some ⟨b, off, none⟩ ∧ b < w.heap.size ∧ ∀ j, j < len → w.cell? ⟨b, off + j, none⟩ = some (.string (ss.getD j ByteArray.empty))

set_option maxHeartbeats 400000 in
theorem bytes6 (a : Option Addr) (len cap : Nat) (ss : List ByteArray) (w : World) (h : Texts w a len ss) (hm : len ≤ 9223372036854775807) :
    Calls Try.prog 6 #[.slice a len cap] w fun e w' => ∃ b, e = .returned (.bool b) ∧ w = w' := by
  refine hidR fun R HR => ?_
  go_enter Try.func6, Try.ntmps6
  go_wp2
  · exact HR.out _ _ ⟨_, rfl, rfl⟩
  · go_loop [3, 4] (fun n i => ∃ (k : Nat) (z : Int), k ≤ len ∧ i = .int .i64 k ∧ n = .int .i64 z) (fun _ i => len - (intOf i).toNat)
    case atStart => exact ⟨0, _, Nat.zero_le _, rfl, rfl⟩
    case round =>
      obtain ⟨k, z, hk, rfl, rfl⟩ := hrel
      by_cases hlt : k < len
      · obtain ⟨b, off, rfl, hb, hc⟩ := h.2 k hlt
        have hck := hc k hlt
        clear h hc
        go_wp2
        · exact HR.out _ _ ⟨_, rfl, rfl⟩
        · exact HR.out _ _ ⟨_, rfl, rfl⟩
        · go_round
          case rel => exact ⟨k + 1, _, by omega, by go_num, rfl⟩
          case measure => simp [intOf]; omega
      · go_wp2
        exact HR.out _ _ ⟨_, rfl, rfl⟩

set_option maxHeartbeats 400000 in
theorem bytes12 (a : Option Addr) (len cap : Nat) (ss : List ByteArray) (w : World) (h : Texts w a len ss) (hm : len ≤ 9223372036854775807) :
    Calls Try.prog 12 #[.slice a len cap] w fun e w' => ∃ b, e = .returned (.bool b) ∧ w = w' := by
  refine hidR fun R HR => ?_
  go_enter Try.func12, Try.ntmps12
  go_wp2
  · exact HR.out _ _ ⟨_, rfl, rfl⟩
  · go_loop [3, 4] (fun n i => ∃ (k : Nat) (z : Int), k ≤ len ∧ i = .int .i64 k ∧ n = .int .i64 z) (fun _ i => len - (intOf i).toNat)
    case atStart => exact ⟨0, _, Nat.zero_le _, rfl, rfl⟩
    case round =>
      obtain ⟨k, z, hk, rfl, rfl⟩ := hrel
      by_cases hlt : k < len
      · obtain ⟨b, off, rfl, hb, hc⟩ := h.2 k hlt
        have hck := hc k hlt
        clear h hc
        go_wp2
        · exact HR.out _ _ ⟨_, rfl, rfl⟩
        · exact HR.out _ _ ⟨_, rfl, rfl⟩
        · go_round
          case rel => exact ⟨k + 1, _, by omega, by go_num, rfl⟩
          case measure => simp [intOf]; omega
      · go_wp2
        exact HR.out _ _ ⟨_, rfl, rfl⟩

set_option maxHeartbeats 400000 in
theorem fits7 (a : Option Addr) (len cap : Nat) (ss : List ByteArray) (w : World) (h : Texts w a len ss) (hm : len ≤ 9223372036854775807) :
    Calls Try.prog 7 #[.slice a len cap] w fun e w' => ∃ b, e = .returned (.bool b) ∧ w = w' ∧ (b = true → len ≤ 4096) := by
  refine hidR fun R HR => ?_
  go_enter Try.func7, Try.ntmps7
  go_wp2
  · exact HR.out _ _ ⟨_, rfl, rfl, by simp⟩
  · go_loop [3, 4] (fun n i => ∃ (k : Nat) (z : Int), k ≤ len ∧ i = .int .i64 k ∧ n = .int .i64 z) (fun _ i => len - (intOf i).toNat)
    case atStart => exact ⟨0, _, Nat.zero_le _, rfl, rfl⟩
    case round =>
      obtain ⟨k, z, hk, rfl, rfl⟩ := hrel
      by_cases hlt : k < len
      · obtain ⟨b, off, rfl, hb, hc⟩ := h.2 k hlt
        have hck := hc k hlt
        clear h hc
        go_wp2
        · exact HR.out _ _ ⟨_, rfl, rfl, by simp⟩
        · go_round
          case rel => exact ⟨k + 1, _, by omega, by go_num, rfl⟩
          case measure => simp [intOf]; omega
      · go_wp2
        exact HR.out _ _ ⟨_, rfl, rfl, by omega⟩

end Go.Proofs.Qxb6600162a
