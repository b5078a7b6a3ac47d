/-
  The functions over a whole Entry: entryBytes (6), cloneEntry (8), ZZnewEntry (9), ZZisFor (11).
-/
import Derived.Test.Qxb6604496aSmall
import Derived.Shelf.SlSortCmp.QuietGrown
namespace Go.Proofs.Qxb6604496a
open Go.RowKit Go.Sort

/-- An Entry's value (and an entry's: the cells are the same). -/
def ent (c : Int) (nm wr : ByteArray) (ng : Bool) (r : Int) (a : Option Addr) (n cap : Nat) (src ln : Int) (tx : ByteArray) : Array Value :=
  #[.int .i64 c, .string nm, .string wr, .bool ng, .int .u16 r, .slice a n cap, .int .i64 src, .int .i64 ln, .string tx]

/-- entryBytes. -/
def enB (t : Nat) (nm wr tx : ByteArray) (n : Nat) (S : Nat → ByteArray) : Nat := strB (adB (adB (adB (adB t 64) nm.size) wr.size) tx.size) n fun i => (S i).size

set_option maxRecDepth 100000 in
set_option maxHeartbeats 1000000 in
theorem entryBytes_any (t : Nat) (c : Int) (nm wr : ByteArray) (ng : Bool) (r : Int) (a : Option Addr) (n cap : Nat) (src ln : Int) (tx : ByteArray) (S : Nat → ByteArray) (w : World) (ht : t ≤ 2097152) (h : IsS w a n S) :
    Calls Try.prog 6 #[.int .i64 t, .agg #[.int .i64 c, .string nm, .string wr, .bool ng, .int .u16 r, .slice a n cap, .int .i64 src, .int .i64 ln, .string tx]] w fun e w' => e = .returned (.int .i64 (enB t nm wr tx n S)) ∧ w' = w.alloc (.cells (ent c nm wr ng r a n cap src ln tx) 25) := by
  have H : Hid (IsS (w.alloc (.cells (ent c nm wr ng r a n cap src ln tx) 25)) a n S) := h.below ((Below.refl _ _).alloc (Nat.le_refl _) _)
  clear h
  unfold ent at *
  go_enter Try.func6, Try.ntmps6
  go_wp2_with fail
  refine (addBytes_any t 64 _ ht).mono ?_
  rintro e w' ⟨rfl, rfl⟩
  go_wp2_with fail
  refine (addBytes_any _ nm.size _ (adB_le _ _)).mono ?_
  rintro e w' ⟨rfl, rfl⟩
  go_wp2_with fail
  refine (addBytes_any _ wr.size _ (adB_le _ _)).mono ?_
  rintro e w' ⟨rfl, rfl⟩
  go_wp2_with fail
  refine (addBytes_any _ tx.size _ (adB_le _ _)).mono ?_
  rintro e w' ⟨rfl, rfl⟩
  go_wp2_with fail
  refine (stringsBytes_any _ n cap a S _ (adB_le _ _) H.out).mono ?_
  rintro e w' ⟨rfl, rfl⟩
  go_wp2
  go_ret
  exact ⟨rfl, rfl⟩

set_option maxRecDepth 100000 in
set_option maxHeartbeats 1000000 in
theorem newEntry_any (c : Int) (nm wr : ByteArray) (ng : Bool) (r : Int) (a : Option Addr) (n cap : Nat) (src ln : Int) (tx : ByteArray) (w : World) :
    Calls Try.prog 9 #[.int .i64 c, .string nm, .string wr, .bool ng, .int .u16 r, .slice a n cap, .int .i64 src, .int .i64 ln, .string tx] w fun e w' => e = .returned (.agg #[.int .i64 c, .string nm, .string wr, .bool ng, .int .u16 r, .slice a n cap, .int .i64 src, .int .i64 ln, .string tx]) ∧ w' = w.alloc (.cells #[.int .i64 c, .string nm, .string wr, .bool ng, .int .u16 r, .slice a n cap, .int .i64 src, .int .i64 ln, .string tx] 38) := by
  go_enter Try.func9, Try.ntmps9
  go_wp2
  go_returns
  exact ⟨rfl, rfl⟩

set_option maxRecDepth 100000 in
set_option maxHeartbeats 2000000 in
theorem isFor_any (c : Int) (nm wr : ByteArray) (ng : Bool) (r : Int) (a : Option Addr) (n cap : Nat) (src ln : Int) (tx : ByteArray) (c2 : Int) (nm2 wr2 : ByteArray) (ng2 : Bool) (r2 : Int) (a2 : Option Addr) (n2 cap2 : Nat) (src2 ln2 : Int) (tx2 : ByteArray) (w : World) :
    Calls Try.prog 11 #[.agg #[.int .i64 c, .string nm, .string wr, .bool ng, .int .u16 r, .slice a n cap, .int .i64 src, .int .i64 ln, .string tx], .agg #[.int .i64 c2, .string nm2, .string wr2, .bool ng2, .int .u16 r2, .slice a2 n2 cap2, .int .i64 src2, .int .i64 ln2, .string tx2]] w fun e w' => e = .returned (.bool (seq wr wr2 && (ng == ng2))) ∧ Below w.heap.size w w' := by
  cases hs : seq wr wr2 with
  | true =>
    have hs' : (wr.toList == wr2.toList) = true := hs
    clear hs
    go_enter Try.func11, Try.ntmps11
    go_wp2
    go_ret
    exact ⟨rfl, by go_grown⟩
  | false =>
    have hs' : (wr.toList == wr2.toList) = false := hs
    clear hs
    go_enter Try.func11, Try.ntmps11
    go_wp2
    go_ret
    exact ⟨rfl, by go_grown⟩

set_option maxRecDepth 100000 in
set_option maxHeartbeats 2000000 in
theorem cloneEntry_any (c : Int) (nm wr : ByteArray) (ng : Bool) (r : Int) (a : Option Addr) (n cap : Nat) (src ln : Int) (tx : ByteArray) (S : Nat → ByteArray) (w : World) (hn : n ≤ 1048576) (hc : a = none → n = 0 ∧ cap = 0) (h : IsS w a n S) :
    Calls Try.prog 8 #[.agg #[.int .i64 c, .string nm, .string wr, .bool ng, .int .u16 r, .slice a n cap, .int .i64 src, .int .i64 ln, .string tx]] w fun e w' => ∃ (a' : Option Addr) (n' c' : Nat), e = .returned (.agg #[.int .i64 c, .string nm, .string wr, .bool ng, .int .u16 r, .slice a' n' c', .int .i64 src, .int .i64 ln, .string tx]) ∧ Below w.heap.size w w' := by
  have H : Hid (IsS w a n S) := h
  have HC : Hid _ := hc
  clear h hc
  go_enter Try.func8, Try.ntmps8
  go_wp2_with fail
  refine (clone_any a n cap S _ hn HC.out (H.out.below (by go_grown))).mono ?_
  rintro e w' ⟨a', n', c', rfl, rfl | ⟨o, rfl⟩⟩
  · go_wp2
    go_returns
    exact ⟨a', n', c', rfl, by go_grown⟩
  · go_wp2
    go_returns
    exact ⟨a', n', c', rfl, by go_grown⟩
end Go.Proofs.Qxb6604496a
