/-
  THE LEAVES on the road of 'FnBytesAliasing': the bound on lengths (function 4), cloneBytes (5), ZZnewVariable (6), ToByteSlice and Bytes (9, 7), sameBytesString (8): a contract each.
-/
import Derived.Test.YoeclwRows
import Derived.WalkKit
import Derived.WalkSpells
import Derived.WalkLawsBesides
import Derived.Deep.OwnRows
import Derived.Deep.QuietTactic
import Derived.BigQuiet
namespace Go.Proofs.Yoeclw
open Go.RowKit Go.WideShapes

/-! ### Function 4: the bound on total length: it answers some bool, and 'true' where both lengths are small; the world stays -/
set_option maxHeartbeats 400000 in
theorem bound_any (a : Option Addr) (len cap : Nat) (s : ByteArray) (x : Int) (w : World) (hl : len ≤ maxLen) (hs : s.size ≤ maxLen) :
    Calls Eclg.prog 4 #[.slice a len cap, .string s, .int .u8 x] w fun e w' => (∃ r, e = .returned (.bool r)) ∧ w = w' := by
  unfold maxLen at hl hs
  go_enter Eclg.func4, Eclg.ntmps4
  go_wp2
  all_goals (go_ret; exact ⟨⟨_, rfl⟩, rfl⟩)

/-! ### Function 5: cloneBytes -/
theorem info_u8 : (Eclg.prog.info? 5).map (fun i => (i.zero, i.size, i.bytes)) = some (some (.int .u8 0), 1, 1) := by kernel_rfl

/-- What main wants of the clone: the same length; nothing old has turned; where there is an element, the first cell is the call's own and may be written. -/
structure Cloned (w w' : World) (v : Value) (len : Nat) : Prop where
  below : Below w.heap.size w w'
  shape : ∃ ao c, v = .slice ao len c ∧ (0 < len → ao = some ⟨w.heap.size, 0, none⟩ ∧ w.heap.size < w'.heap.size ∧ w'.frozen? ⟨w.heap.size, 0, none⟩ = false ∧ ∃ y, w'.cell? ⟨w.heap.size, 0, none⟩ = some (.int .u8 y))

theorem clone_nil (len cap : Nat) (hl : len = 0) (w : World) :
    Calls Eclg.prog 5 #[.slice none len cap] w fun e w' => ∃ v, e = .returned v ∧ Cloned w w' v len := by
  subst hl
  have q22 : ∀ (w : World) (a : Option Addr) (n c n' c' : Nat), (binOp .eql 22 (.slice a n c) (.slice none n' c')).run Eclg.prog w = .ok (.bool a.isNone) w := fun w a n c n' c' => Lib.run_eql_slice_nil w _ _ a n c n' c' Eclg.underlying22
  go_enter Eclg.func5, Eclg.ntmps5
  go_wp2
  go_ret
  exact ⟨_, rfl, ⟨Below.refl _ _, none, 0, rfl, fun h => absurd h (Nat.lt_irrefl _)⟩⟩

set_option maxHeartbeats 400000 in
theorem clone_some (x : Addr) (len cap : Nat) (zs : List Int) (w : World) (hlc : len ≤ cap) (hcm : len ≤ 262144) (hz : zs.length = cap)
    (hcell : ∀ i, i < zs.length → w.cell? (x.add i) = some (.int .u8 (zs.getD i 0))) :
    Calls Eclg.prog 5 #[.slice (some x) len cap] w fun e w' => ∃ v, e = .returned v ∧ Cloned w w' v len := by
  have q22 : ∀ (w : World) (a : Option Addr) (n c n' c' : Nat), (binOp .eql 22 (.slice a n c) (.slice none n' c')).run Eclg.prog w = .ok (.bool a.isNone) w := fun w a n c n' c' => Lib.run_eql_slice_nil w _ _ a n c n' c' Eclg.underlying22
  have hmk := run_make_row' (P := Eclg.prog) 22 5 (.int .u8 0) 1 Eclg.underlying22 info_u8 rfl .i64 .i64 len (by omega) (by omega)
  go_enter Eclg.func5, Eclg.ntmps5
  go_wp2
  clear hmk q22
  go_loopw [4] (fun i wr => ∃ k : Nat, k ≤ len ∧ i = .int .i64 k ∧ Below w.heap.size w wr ∧ ∃ f : Nat → Int, wr.rowIs w.heap.size 5 len (fun j => .int .u8 (f j)))
    (fun i _ => len - (intOf i).toNat)
  case atStart => exact ⟨0, Nat.zero_le _, rfl, (Below.refl _ _).alloc (Nat.le_refl _) _, fun _ => 0, World.rowIs_made w _ len 5⟩
  case round =>
    obtain ⟨k, hk, rfl, hb, f, hrow⟩ := hrel
    by_cases hkl : k < len
    · obtain ⟨b, off, spot⟩ := x
      have hspot : spot = none := by simpa [Addr.add] using World.cell?_spot (hcell 0 (by omega))
      subst hspot
      have c0 : w.cell? ⟨b, off + k, none⟩ = some (.int .u8 (zs.getD k 0)) := by rw [← add_plain]; exact hcell k (by omega)
      have hbl : b < w.heap.size := World.block_lt_of_cell? _ _ c0
      have t1 : wr.cell? ⟨b, off + k, none⟩ = some (.int .u8 (zs.getD k 0)) := (hb.cell (p := ⟨b, off + k, none⟩) hbl).trans c0
      have t2 : wr.cell? ⟨w.heap.size, k, none⟩ = some (.int .u8 (f k)) := hrow.cell hkl
      have t3 : wr.frozen? ⟨w.heap.size, k, none⟩ = false := hrow.frozen k
      have R : Below w.heap.size w (wr.setCell ⟨w.heap.size, k, none⟩ (.int .u8 (zs.getD k 0))) ∧ ∃ f : Nat → Int, (wr.setCell ⟨w.heap.size, k, none⟩ (.int .u8 (zs.getD k 0))).rowIs w.heap.size 5 len (fun j => .int .u8 (f j)) :=
        ⟨hb.setCell (Nat.le_refl _) _, fun j => if j = k then zs.getD k 0 else f j, (hrow.set k _).congr (fun i _ => by by_cases e : i = k <;> simp [e])⟩
      clear hcell c0 hrow hb
      go_wp2
      go_roundw
      case rel => exact ⟨k + 1, by omega, by simp, R⟩
      case measure => simp [intOf]; omega
    · obtain rfl : k = len := by omega
      go_wp2
      go_ret
      exact ⟨_, rfl, hb, _, _, rfl, fun h => ⟨rfl, hrow.lt, hrow.frozen 0, _, hrow.cell h⟩⟩

/-! ### Functions 7 and 9: (*Variable).Bytes and ToByteSlice -/
theorem assertBytes_yes (v : Value) (w : World) : (Instr.typeAssert (.iface 27 v) 39 27 true).run Eclg.prog w = .ok (.tuple #[v, .bool true]) w := by kernel_rfl
theorem assertBytes_no (v : Value) (w : World) : (Instr.typeAssert (.iface 33 v) 39 27 true).run Eclg.prog w = .ok (.tuple #[.pointer none, .bool false]) w := by kernel_rfl
theorem assertString_yes (v : Value) (w : World) : (Instr.typeAssert (.iface 33 v) 39 33 true).run Eclg.prog w = .ok (.tuple #[v, .bool true]) w := by kernel_rfl

/-- Of a Bytes variable: the very slice that lies in the object; the world stays. -/
theorem bytes_of_bytes (v p : Nat) (val : Value) (w : World) (h1 : w.cell? ⟨v, 1, none⟩ = some (.iface 27 (.pointer (some ⟨p, 0, none⟩)))) (h2 : w.cell? ⟨p, 0, none⟩ = some val) :
    Calls Eclg.prog 7 #[.pointer (some ⟨v, 0, none⟩)] w fun e w' => e = .returned val ∧ w = w' := by
  have ha := assertBytes_yes
  go_enter Eclg.func7, Eclg.ntmps7
  go_wp2
  go_ret
  exact ⟨rfl, rfl⟩

/-- The block that '[]byte(s)' lays in the world w. -/
def strBlock (w : World) (s : ByteArray) : Obj := .cells (bytesRow s (grownCap w s.size 0 5)) 5 ((bytesRow s (grownCap w s.size 0 5)).size, (bytesRow s (grownCap w s.size 0 5)).size + 1)

/-- What main wants of '[]byte(s)': one new block, its first cells the text's bytes, free to be written; nothing old has turned. -/
structure Laid (w w' : World) (s : ByteArray) : Prop where
  below : Below w.heap.size w w'
  size : w'.heap.size = w.heap.size + 1
  cell : ∀ j (h : j < s.size), w'.cell? ⟨w.heap.size, j, none⟩ = some (.int .u8 (s[j].toNat : Int))
  free : ∀ j, j < s.size → w'.frozen? ⟨w.heap.size, j, none⟩ = false

theorem laid_str (w : World) (s : ByteArray) : Laid w (w.alloc (strBlock w s)).drew s := by
  refine ⟨((Below.refl _ _).alloc (Nat.le_refl _) _).drew, by simp, fun j h => ?_, fun j h => ?_⟩
  · have hd : j < s.data.size := h
    refine (World.cell?_alloc_mark w _ _ _ j).trans ?_
    simp only [bytesRow, Array.getElem?_append, Array.size_map, if_pos hd, Array.getElem?_map, Array.getElem?_eq_getElem hd]
    rfl
  · have hz : s.data.size = s.size := rfl
    refine (World.frozen?_alloc_mark w _ _ _ _ j).trans ?_
    simp [bytesRow]
    omega

/-- Of a String variable: the text's bytes in a new block. -/
theorem bytes_of_string (v p : Nat) (s : ByteArray) (w : World) (h1 : w.cell? ⟨v, 1, none⟩ = some (.iface 33 (.pointer (some ⟨p, 0, none⟩)))) (h2 : w.cell? ⟨p, 0, none⟩ = some (.string s)) :
    Calls Eclg.prog 7 #[.pointer (some ⟨v, 0, none⟩)] w fun e w' => ∃ c, e = .returned (.slice (some ⟨w.heap.size, 0, none⟩) s.size c) ∧ Laid w w' s := by
  have ha := assertBytes_no
  have hb := assertString_yes
  have hcv := run_bytes_of_string (P := Eclg.prog) w 9 22 5 s Eclg.underlying9 Eclg.underlying22 Eclg.underlying5
  go_enter Eclg.func7, Eclg.ntmps7
  go_wp2
  go_ret
  exact ⟨_, rfl, laid_str w s⟩

/-! ### Function 6: ZZnewVariable -/
structure NewVar (w w' : World) (v : Value) : Prop where
  below : Below w.heap.size w w'
  size : w'.heap.size = w.heap.size + 1
  cell : w'.cell? ⟨w.heap.size, 1, none⟩ = some v

theorem new_variable (n : ByteArray) (u : TypeId) (v : Value) (w : World) :
    Calls Eclg.prog 6 #[.string n, .iface u v] w fun e w' => e = .returned (.pointer (some ⟨w.heap.size, 0, none⟩)) ∧ NewVar w w' (.iface u v) := by
  go_enter Eclg.func6, Eclg.ntmps6
  go_wp2
  go_ret
  exact ⟨rfl, (Below.refl _ _).alloc (Nat.le_refl _) _, by simp, by simp [World.cell?_alloc_at]⟩

/-! ### Function 8: sameBytesString: true where the slice holds the string's bytes; it only reads (its test draws its order) -/
theorem below_of_alike {w w' : World} (h : w'.Alike w) (ht : w'.tape = w.tape) (B : Nat) : Below B w w' := ⟨h.2.1, ht, h.2.2, by rw [h.1]; exact Nat.le_refl _, fun _ _ => by rw [h.1]⟩

set_option maxHeartbeats 400000 in
theorem same_true (b cap : Nat) (s : ByteArray) (w : World) (hs : s.size ≤ 262144) (hc : ∀ j (h : j < s.size), w.cell? ⟨b, j, none⟩ = some (.int .u8 (s[j].toNat : Int))) :
    Calls Eclg.prog 8 #[.slice (some ⟨b, 0, none⟩) s.size cap, .string s] w fun e w' => e = .returned (.bool true) ∧ w'.Alike w ∧ w'.tape = w.tape := by
  go_enter Eclg.func8, Eclg.ntmps8
  go_wp2
  go_loopw [5] (fun i wr => ∃ k : Nat, k ≤ s.size ∧ i = .int .i64 k ∧ wr.Alike w ∧ wr.tape = w.tape)
    (fun i _ => s.size - (intOf i).toNat)
  case atStart => exact ⟨0, Nat.zero_le _, rfl, World.Alike.refl _, rfl⟩
  case round =>
    obtain ⟨k, hk, rfl, hA, hT⟩ := hrel
    by_cases hkl : k < s.size
    · have t1 : wr.cell? ⟨b, k, none⟩ = some (.int .u8 (s[k].toNat : Int)) := (hA.cell _).trans (hc k hkl)
      have hkz : (k : Int) < (s.size : Int) := by omega
      clear hc
      go_wp2
      go_quiet (fail)
      go_wp2
      go_roundw
      case rel => exact ⟨k + 1, by omega, by simp, hA, hT⟩
      case measure => simp [intOf]; omega
    · obtain rfl : k = s.size := by omega
      go_wp2
      go_ret
      exact ⟨rfl, hA, hT⟩

end Go.Proofs.Yoeclw
