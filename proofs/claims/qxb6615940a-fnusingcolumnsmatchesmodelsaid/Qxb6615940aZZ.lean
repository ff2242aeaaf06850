import Derived.Test.Qxb6615940aUsing
namespace Go.Proofs.Qxb6615940a
open Go.RowKit

/-- What ZZUsingColumns hands back. -/
def ZZPost (w : World) (nm kd tx ct tb : ByteArray) (cs : List (ByteArray × ByteArray)) (us : List ByteArray) (e : Ending) (w' : World) : Prop :=
  ∃ out, e = .returned (.tuple #[.string kd, .string tx, .string ct, .string ⟨(colsText cs (namesOf nm kd tx cs us)).toArray⟩, .string (if wholeB nm kd tx = true then nm else tb), out]) ∧ Below w.heap.size w w' ∧
    w'.ownsRow w.heap.size 42 23 out (namesOf nm kd tx cs us).length (colsCells cs (namesOf nm kd tx cs us)) ∧ ((namesOf nm kd tx cs us).length = 0 → out = .slice none 0 0)

set_option maxRecDepth 20000 in
set_option maxHeartbeats 1000000 in
theorem zzUsing (nm kd tx ct cl tb : ByteArray) (p : Nat) (cs : List (ByteArray × ByteArray)) (a7 : Option Addr) (len7 cap7 : Nat) (us : List ByteArray) (w : World) (m : Int)
    (hm : w.cell? ⟨0, 0, none⟩ = some (.int .i64 m)) (hw0 : 0 < w.heap.size) (ht : Table w p nm cs) (hu : StrRow w a7 len7 us) (hnm : nm.size ≤ 1048576) (htx : tx.size ≤ 1048576) (hsp : specialB kd = true → 0 < nm.size)
    (hcl : cs.length ≤ 1048576) (hcs : ∀ (j : Nat) (c : ByteArray × ByteArray), cs[j]? = some c → c.1.size ≤ 1048576 ∧ c.2.size ≤ 1048576) (hul : len7 ≤ 1048576) (hus : ∀ (j : Nat) (u : ByteArray), us[j]? = some u → u.size ≤ 1048576) :
    Calls Try.prog 7 #[.pointer (some ⟨p, 0, none⟩), .string kd, .string tx, .string ct, .string cl, .string tb, .slice a7 len7 cap7] w (ZZPost w nm kd tx ct tb cs us) := by
  have HC : Hid (Calls Try.prog 11 #[.pointer (some ⟨p, 0, none⟩), .agg #[.string kd, .string tx, .string ct, .string cl, .string tb], .slice a7 len7 cap7] w (UsingPost w nm kd tx ct tb cs us)) :=
    usingColumns nm kd tx ct cl tb p cs a7 len7 cap7 us w m hm hw0 ht hu hnm htx hsp hcl hcs hul hus
  clear hm ht hu hcs hus hsp
  obtain ⟨tb2, htb⟩ : ∃ tb2, tb2 = (if wholeB nm kd tx = true then nm else tb) := ⟨_, rfl⟩
  obtain ⟨txt, htxt⟩ : ∃ txt : ByteArray, txt = ⟨(colsText cs (namesOf nm kd tx cs us)).toArray⟩ := ⟨_, rfl⟩
  have HT : Hid (tb2 = (if wholeB nm kd tx = true then nm else tb)) := htb
  have HX : Hid (txt = ⟨(colsText cs (namesOf nm kd tx cs us)).toArray⟩) := htxt
  go_enter Try.func7, Try.ntmps7
  go_wp2_with (go_at_call 11; refine HC.out.mono ?_; rintro e w1 ⟨out, rfl, hb, ho, hn⟩; rw [← htb, ← htxt]; clear htb htxt)
  go_quiet (fail)
  go_wp2
  refine bodyPost_ret (v := .tuple #[.string kd, .string tx, .string ct, .string txt, .string tb2, out]) (by simp [results, Try.results7, go_sem]) rfl ?_
  have hs := hb.size
  refine ⟨out, by rw [HT.out, HX.out], ?_, ?_, hn⟩
  · exact below_drewN (hb.alloc hs _) _
  · have := (ho.alloc (.cells #[.string kd, .string tx, .string ct, .string txt, .string tb2] 51))
    exact this

end Go.Proofs.Qxb6615940a
