import Derived.Test.Qxb6617066aFirst
import Derived.Laws.CopyOwn
import Derived.Lib.Builder
namespace Go.Proofs.Qxb6617066a
open Go.RowKit

theorem zzHeadEnd (g n cap a : Nat) (xs : List Int) (w : World) (hx : xs.length = n) (hn : n ≤ cap) (hcap : cap ≤ 1048576) (ha : a ≤ n) (h : BRow w g xs) :
    Calls Try.prog 7 #[.slice (some ⟨g, 0, none⟩) n cap, .int .i64 (a : Int)] w (HeadPost w xs a) := by
  have HC : Hid (Calls Try.prog 20 #[.slice (some ⟨g, 0, none⟩) n cap, .int .i64 (a : Int)] w (HeadPost w xs a)) := headEnd g n cap a xs w hx hn hcap ha h
  clear h
  go_enter Try.func7, Try.ntmps7
  go_wp2_with (first | (go_at_call 20; refine HC.out.mono ?_; rintro e w1 ⟨rfl, r, rfl, hl⟩; have HL : Hid (Least xs a r) := hl; clear hl))
  go_ret
  exact ⟨rfl, r, rfl, HL.out⟩

/-- At nil: 0. -/
theorem headEnd_nil (w : World) : Calls Try.prog 20 #[.slice none 0 0, .int .i64 0] w fun e w' => e = .returned (.int .i64 0) ∧ w' = w := by
  go_enter Try.func20, Try.ntmps20
  go_wp2
  go_loop [5] (fun ix => ix = .int .i64 0) (fun _ => 0)
  case atStart => rfl
  case round =>
    obtain rfl := hrel
    go_wp2_with (first | (go_at_call 23; refine (Try.bytes_IndexByte_nil 10 _).mono ?_; rintro e w' ⟨rfl, rfl⟩))
    go_ret
    exact ⟨rfl, rfl⟩
theorem zzHeadEnd_nil (w : World) : Calls Try.prog 7 #[.slice none 0 0, .int .i64 0] w fun e w' => e = .returned (.int .i64 0) ∧ w' = w := by
  go_enter Try.func7, Try.ntmps7
  go_wp2_with (first | (go_at_call 20; refine (headEnd_nil _).mono ?_; rintro e w1 ⟨rfl, rfl⟩))
  go_ret
  exact ⟨rfl, rfl⟩
theorem firstBlank_nil (w : World) : Calls Try.prog 8 #[.slice none 0 0, .int .i64 0] w fun e w' => e = .returned (.int .i64 0) ∧ w' = w := by
  go_enter Try.func8, Try.ntmps8
  go_wp2
  go_loop [5] (fun ix => ix = .int .i64 2) (fun _ => 0)
  case atStart => rfl
  case round =>
    obtain rfl := hrel
    go_wp2
    go_ret
    exact ⟨rfl, rfl⟩

theorem zzBytes6 (a : Option Addr) (len cap : Nat) (z : Int) (w : World) : Calls Try.prog 6 #[.slice a len cap, .int .i64 z] w fun e w' => (∃ b, e = .returned (.bool b)) ∧ w' = w := by
  go_enter Try.func6, Try.ntmps6
  go_wp2
  all_goals (go_ret; exact ⟨⟨_, rfl⟩, rfl⟩)
theorem zzBytes9 (a : Option Addr) (len cap : Nat) (z y : Int) (w : World) : Calls Try.prog 9 #[.slice a len cap, .int .i64 z, .int .i64 y] w fun e w' => (∃ b, e = .returned (.bool b)) ∧ w' = w := by
  go_enter Try.func9, Try.ntmps9
  go_wp2
  all_goals (go_ret; exact ⟨⟨_, rfl⟩, rfl⟩)

theorem Try.size5 : (Try.prog.info? 5).map (·.size) = some 1 := by kernel_rfl
theorem Try.info5 : (Try.prog.info? 5).map (fun i => (i.zero, i.size, i.bytes)) = some (some (.int .u8 0), 1, 1) := by kernel_rfl
theorem info_of {e : TypeId} {z : Value} {size bytes : Nat} (h : (Try.prog.info? e).map (fun i => (i.zero, i.size, i.bytes)) = some (some z, size, bytes)) : ∃ i, Try.prog.info? e = some i ∧ i.zero = some z ∧ i.size = size ∧ i.bytes = bytes := by
  cases hi : Try.prog.info? e with
  | none => rw [hi] at h; cases h
  | some i =>
    rw [hi] at h
    simp only [Option.map_some, Option.some.injEq, Prod.mk.injEq] at h
    exact ⟨i, rfl, h.1, h.2.1, h.2.2⟩
theorem made_block {w : World} {base g n : Nat} {xs : List Value} (h : w.ownsRow base 5 1 (.slice (some ⟨g, 0, none⟩) n n) n xs) : ∃ cur : List Value, w.heap[g]? = some (.cells cur.toArray 5 (0, 0)) ∧ cur.length = n := by
  rcases h.2 with ⟨hv, _⟩ | ⟨g', cap, cur, hv, _, hh, _, _, hs, _⟩
  · cases hv
  · cases hv
    exact ⟨cur.toList, hh, by simpa using hs⟩
theorem splice_all {L cs : List Value} (h : cs.length = L.length) : splice L 0 cs = cs := by
  unfold splice
  simp [h]
theorem one_cells (xs : List Int) : ∀ v ∈ xs.map (Value.int .u8), v.oneCell' = true := by
  intro v hv
  obtain ⟨s, _, rfl⟩ := List.mem_map.1 hv
  rfl
theorem BRow.of_block {w : World} {g : Nat} {xs : List Int} {t : TypeId} (h : w.heap[g]? = some (.cells (xs.map (Value.int .u8)).toArray t (0, 0))) (hb : ∀ x ∈ xs, 0 ≤ x ∧ x ≤ 255) : BRow w g xs := by
  refine ⟨fun i hi => ?_, hb⟩
  rw [Lib.cell_of_heap h]
  simp [List.getD_eq_getElem?_getD, hi]
end Go.Proofs.Qxb6617066a
