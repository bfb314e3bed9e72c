/-
  THE WALK of 'FnBytesAliasing' (function 3), out of the leaves' contracts.
-/
import Derived.Test.YoeclwLeaves
namespace Go.Proofs.Yoeclw
open Go.RowKit Go.WideShapes

set_option maxHeartbeats 400000 in
theorem main_walk (a : Option Addr) (len cap : Nat) (s : ByteArray) (x : Int) (w : World) (hl : len ≤ maxLen) (hs : s.size ≤ maxLen)
    (hclone : len ≤ 262144 → Calls Eclg.prog 5 #[.slice a len cap] w fun e w' => ∃ v, e = .returned v ∧ Cloned w w' v len) :
    Calls Eclg.prog 3 #[.slice a len cap, .string s, .int .u8 x] w fun e w' => e = .returned (.bool true) ∧ Below w.heap.size w w' := by
  have hb := bound_any a len cap s x w hl hs
  unfold maxLen at hl hs
  have HC : Hid (len ≤ 262144 → Calls Eclg.prog 5 #[.slice a len cap] w fun e w' => ∃ v, e = .returned v ∧ Cloned w w' v len) := hclone
  clear hclone
  go_enter Eclg.func3, Eclg.ntmps3
  go_wp2_with fail
  refine hb.mono ?_
  rintro e w' ⟨⟨r, rfl⟩, rfl⟩
  clear hb
  cases r
  · go_wp2
    go_ret
    exact ⟨rfl, Below.refl _ _⟩
  by_cases h1 : 262144 < len
  · go_wp2
    go_ret
    exact ⟨rfl, Below.refl _ _⟩
  by_cases h2 : 262144 < s.size
  · go_wp2
    go_ret
    exact ⟨rfl, Below.refl _ _⟩
  go_wp2_with fail
  refine (HC.out (by omega)).mono ?_
  rintro e w1 ⟨v, rfl, hcl⟩
  obtain ⟨hbl, ao, cp, hv, hc⟩ := hcl
  rw [hv]
  clear HC hv
  go_wp2_with fail
  refine (new_variable _ 27 _ _).mono ?_
  rintro e w2 ⟨rfl, hV⟩
  have hle := hbl.size
  have b2 : Below w.heap.size w w2 := (hbl.alloc hle _).trans (hV.below.mono (by simp; omega))
  have cV : w2.cell? ⟨w1.heap.size + 1, 1, none⟩ = some (.iface 27 (.pointer (some ⟨w1.heap.size, 0, none⟩))) := by simpa using hV.cell
  have cB : w2.cell? ⟨w1.heap.size, 0, none⟩ = some (.slice ao len cp) := by
    rw [hV.below.cell (p := ⟨w1.heap.size, 0, none⟩) (by simp)]
    simp [World.cell?_alloc_at]
  by_cases h0 : len = 0
  · clear hV hc cV cB
    go_wp2_with fail
    refine (new_variable _ 33 _ _).mono ?_
    rintro e w4 ⟨rfl, hV4⟩
    have b4 : Below w.heap.size w w4 := (b2.alloc b2.size _).trans (hV4.below.mono (by have := b2.size; simp; omega))
    have cV4 : w4.cell? ⟨w2.heap.size + 1, 1, none⟩ = some (.iface 33 (.pointer (some ⟨w2.heap.size, 0, none⟩))) := by simpa using hV4.cell
    have cS4 : w4.cell? ⟨w2.heap.size, 0, none⟩ = some (.string s) := by
      rw [hV4.below.cell (p := ⟨w2.heap.size, 0, none⟩) (by simp)]
      simp [World.cell?_alloc_at]
    clear hV4
    by_cases hs0 : s.size = 0
    · go_wp2
      go_ret
      exact ⟨rfl, b4⟩
    · have hsp : 0 < s.size := by omega
      have hspz : (0 : Int) < (s.size : Int) := by omega
      go_wp2_with fail
      refine (bytes_of_string _ _ s _ cV4 cS4).mono ?_
      rintro e w5 ⟨c5, rfl, hL5⟩
      have b5 : Below w.heap.size w w5 := b4.trans (hL5.below.mono b4.size)
      have cV5 := (hL5.below.cell (World.block_lt_of_cell? _ _ cV4)).trans cV4
      have cS5 := (hL5.below.cell (World.block_lt_of_cell? _ _ cS4)).trans cS4
      have c50 := hL5.cell 0 hsp
      have f50 := hL5.free 0 hsp
      clear hL5
      go_wp2_with fail
      obtain ⟨w6, hw6⟩ : ∃ w6, w6 = w5.setCell ⟨w4.heap.size, 0, none⟩ (.int .u8 (((s[0].toNat : Int) + 1) % 256)) := ⟨_, rfl⟩
      have b6 : Below w.heap.size w w6 := by rw [hw6]; exact b5.setCell b4.size _
      have lV := World.block_lt_of_cell? _ _ cV4
      have lS := World.block_lt_of_cell? _ _ cS4
      have cV6 : w6.cell? ⟨w2.heap.size + 1, 1, none⟩ = some (.iface 33 (.pointer (some ⟨w2.heap.size, 0, none⟩))) := by
        rw [hw6, World.cell?_setCell_other _ _ _ _ (fun e => by have := congrArg Addr.block e; simp at this lV; omega)]
        exact cV5
      have cS6 : w6.cell? ⟨w2.heap.size, 0, none⟩ = some (.string s) := by
        rw [hw6, World.cell?_setCell_other _ _ _ _ (fun e => by have := congrArg Addr.block e; simp at this lS; omega)]
        exact cS5
      have c60 : w6.cell? ⟨w4.heap.size, 0, none⟩ = some (.int .u8 (((s[0].toNat : Int) + 1) % 256)) := by rw [hw6]; exact World.cell?_setCell_same _ _ _ c50
      rw [← hw6]
      clear hw6 lV lS cV4 cS4 cV5 cS5 c50 f50 b4 b5
      refine (bytes_of_string _ _ s _ cV6 cS6).mono ?_
      rintro e w7 ⟨c7, rfl, hL7⟩
      have b7 : Below w.heap.size w w7 := b6.trans (hL7.below.mono b6.size)
      have c71 := (hL7.below.cell (World.block_lt_of_cell? _ _ c60)).trans c60
      have hall := hL7.cell
      clear hL7 cV6 cS6 c60
      go_wp2_with fail
      refine (same_true _ _ s _ (by omega) hall).mono ?_
      rintro e w8 ⟨rfl, hA, hT⟩
      have b8 : Below w.heap.size w w8 := b7.trans (below_of_alike hA hT _)
      have c81 := (hA.cell _).trans c71
      have c80 := (hA.cell _).trans (hall 0 hsp)
      have hne : ((((s[0].toNat : Int) + 1) % 256) == (s[0].toNat : Int)) = false := by
        have := s[0].toNat_lt
        simp
        omega
      clear hA hT hall c71 b7 b6
      go_wp2
      go_quiet (fail)
      go_wp2
      go_ret
      exact ⟨rfl, b8.trans ⟨rfl, rfl, rfl, Nat.le_refl _, fun _ _ => rfl⟩⟩
  · obtain ⟨rfl, hlt, hfz, y, hcy⟩ := hc (by omega)
    have cy : w2.cell? ⟨w.heap.size, 0, none⟩ = some (.int .u8 y) := by
      rw [hV.below.cell (p := ⟨w.heap.size, 0, none⟩) (by simp; omega)]
      rw [World.cell?_alloc_past _ _ _ hlt]
      exact hcy
    have fy : w2.frozen? ⟨w.heap.size, 0, none⟩ = false := by
      rw [hV.below.frozen (p := ⟨w.heap.size, 0, none⟩) (by simp; omega)]
      rw [World.frozen?_alloc_past _ _ _ hlt]
      exact hfz
    have hpos : (0 : Int) < (len : Int) := by omega
    clear hV hc hcy hfz
    go_wp2_with fail
    refine (bytes_of_bytes _ _ _ _ cV cB).mono ?_
    rintro e w2' ⟨rfl, rfl⟩
    have b3 := b2.setCell (p := ⟨w.heap.size, 0, none⟩) (Nat.le_refl _) (.int .u8 x)
    have cV3 : (w2.setCell ⟨w.heap.size, 0, none⟩ (.int .u8 x)).cell? ⟨w1.heap.size + 1, 1, none⟩ = some (.iface 27 (.pointer (some ⟨w1.heap.size, 0, none⟩))) := by
      rw [World.cell?_setCell_other _ _ _ _ (fun e => by have := congrArg Addr.block e; simp at this; omega)]
      exact cV
    have cB3 : (w2.setCell ⟨w.heap.size, 0, none⟩ (.int .u8 x)).cell? ⟨w1.heap.size, 0, none⟩ = some (.slice (some ⟨w.heap.size, 0, none⟩) len cp) := by
      rw [World.cell?_setCell_other _ _ _ _ (fun e => by have := congrArg Addr.block e; simp at this; omega)]
      exact cB
    have cy3 : (w2.setCell ⟨w.heap.size, 0, none⟩ (.int .u8 x)).cell? ⟨w.heap.size, 0, none⟩ = some (.int .u8 x) := World.cell?_setCell_same _ _ _ cy
    go_wp2_with fail
    refine (bytes_of_bytes _ _ _ _ cV3 cB3).mono ?_
    rintro e w3' ⟨rfl, rfl⟩
    obtain ⟨w3, hw3⟩ : ∃ w3, w3 = w2.setCell ⟨w.heap.size, 0, none⟩ (.int .u8 x) := ⟨_, rfl⟩
    rw [← hw3] at b3 cy3
    rw [← hw3]
    clear hw3 cV cB cV3 cB3 cy fy b2
    go_wp2_with fail
    refine (new_variable _ 33 _ _).mono ?_
    rintro e w4 ⟨rfl, hV4⟩
    have b4 : Below w.heap.size w w4 := (b3.alloc b3.size _).trans (hV4.below.mono (by have := b3.size; simp; omega))
    have cV4 : w4.cell? ⟨w3.heap.size + 1, 1, none⟩ = some (.iface 33 (.pointer (some ⟨w3.heap.size, 0, none⟩))) := by simpa using hV4.cell
    have cS4 : w4.cell? ⟨w3.heap.size, 0, none⟩ = some (.string s) := by
      rw [hV4.below.cell (p := ⟨w3.heap.size, 0, none⟩) (by simp)]
      simp [World.cell?_alloc_at]
    clear hV4
    by_cases hs0 : s.size = 0
    · go_wp2
      go_ret
      exact ⟨rfl, b4⟩
    · have hsp : 0 < s.size := by omega
      have hspz : (0 : Int) < (s.size : Int) := by omega
      go_wp2_with fail
      refine (bytes_of_string _ _ s _ cV4 cS4).mono ?_
      rintro e w5 ⟨c5, rfl, hL5⟩
      have b5 : Below w.heap.size w w5 := b4.trans (hL5.below.mono b4.size)
      have cV5 := (hL5.below.cell (World.block_lt_of_cell? _ _ cV4)).trans cV4
      have cS5 := (hL5.below.cell (World.block_lt_of_cell? _ _ cS4)).trans cS4
      have c50 := hL5.cell 0 hsp
      have f50 := hL5.free 0 hsp
      clear hL5
      go_wp2_with fail
      obtain ⟨w6, hw6⟩ : ∃ w6, w6 = w5.setCell ⟨w4.heap.size, 0, none⟩ (.int .u8 (((s[0].toNat : Int) + 1) % 256)) := ⟨_, rfl⟩
      have b6 : Below w.heap.size w w6 := by rw [hw6]; exact b5.setCell b4.size _
      have lV := World.block_lt_of_cell? _ _ cV4
      have lS := World.block_lt_of_cell? _ _ cS4
      have cV6 : w6.cell? ⟨w3.heap.size + 1, 1, none⟩ = some (.iface 33 (.pointer (some ⟨w3.heap.size, 0, none⟩))) := by
        rw [hw6, World.cell?_setCell_other _ _ _ _ (fun e => by have := congrArg Addr.block e; simp at this lV; omega)]
        exact cV5
      have cS6 : w6.cell? ⟨w3.heap.size, 0, none⟩ = some (.string s) := by
        rw [hw6, World.cell?_setCell_other _ _ _ _ (fun e => by have := congrArg Addr.block e; simp at this lS; omega)]
        exact cS5
      have c60 : w6.cell? ⟨w4.heap.size, 0, none⟩ = some (.int .u8 (((s[0].toNat : Int) + 1) % 256)) := by rw [hw6]; exact World.cell?_setCell_same _ _ _ c50
      rw [← hw6]
      clear hw6 lV lS cV4 cS4 cV5 cS5 c50 f50 b4 b5
      refine (bytes_of_string _ _ s _ cV6 cS6).mono ?_
      rintro e w7 ⟨c7, rfl, hL7⟩
      have b7 : Below w.heap.size w w7 := b6.trans (hL7.below.mono b6.size)
      have c71 := (hL7.below.cell (World.block_lt_of_cell? _ _ c60)).trans c60
      have hall := hL7.cell
      clear hL7 cV6 cS6 c60
      go_wp2_with fail
      refine (same_true _ _ s _ (by omega) hall).mono ?_
      rintro e w8 ⟨rfl, hA, hT⟩
      have b8 : Below w.heap.size w w8 := b7.trans (below_of_alike hA hT _)
      have c81 := (hA.cell _).trans c71
      have c80 := (hA.cell _).trans (hall 0 hsp)
      have hne : ((((s[0].toNat : Int) + 1) % 256) == (s[0].toNat : Int)) = false := by
        have := s[0].toNat_lt
        simp
        omega
      clear hA hT hall c71 b7 b6
      go_wp2
      go_quiet (fail)
      go_wp2
      go_ret
      exact ⟨rfl, b8.trans ⟨rfl, rfl, rfl, Nat.le_refl _, fun _ _ => rfl⟩⟩

end Go.Proofs.Yoeclw
