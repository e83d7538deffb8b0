/- The contracts of the functions that the law on scheme names reaches: each returns, whatever the world, and turns nothing that was there before it but the scheme's own block. -/
import Derived.Test.YtoemabiajnpdhaaProg
import Derived.WalkKit
import Derived.WalkSpells
import Derived.Lib.Hide
namespace Go.Proofs.Ytoemabiajnpdhaa
open Go.RowKit

theorem width_pos (s : ByteArray) (pos : Nat) (h : pos < s.size) : 1 ≤ (Utf8.decode s pos).2 := by
  by_cases ha : (s[pos]'h).toNat < 128
  · rw [decode_ascii s pos h ha]
    exact Nat.le_refl _
  · exact (decode_high s pos h (by omega)).2

/-- Some bool is returned; what was there is as it was. -/
def SomeBool (w : World) (e : Ending) (w' : World) : Prop := ∃ b : Bool, e = .returned (.bool b) ∧ Below w.heap.size w w'

theorem iter_below (w : World) (s : ByteArray) (pos : Nat) : Below w.heap.size w (w.iter s pos) := (Below.refl _ _).alloc (Nat.le_refl _) _

set_option maxRecDepth 100000 in
theorem rune_any (s : ByteArray) (r : Int) (w : World) : Calls Try.prog 7 #[.string s, .int .i32 r] w (SomeBool w) := by
  go_enter Try.func7, Try.ntmps7
  go_wp2
  go_loopw [6] (fun _ w' => ∃ pos : Nat, w' = w.iter s pos) (fun _ w' => s.size - w'.iterPos w.heap.size)
  case atStart => exact ⟨0, rfl⟩
  case round =>
    obtain ⟨pos, rfl⟩ := hrel
    by_cases hp : pos < s.size
    · have hnx : ∀ ty, (Instr.next (.pointer (some ⟨w.heap.size, 0, none⟩)) true ty).run Try.prog (w.iter s pos) = _ := fun ty => run_next_any w s pos ty hp
      go_wp2
      · go_ret
        exact ⟨true, rfl, iter_below _ _ _⟩
      · have hwd := width_pos s pos hp
        go_roundw
        case rel => exact ⟨_, rfl⟩
        case measure =>
          simp
          omega
    · have hnx : ∀ ty, (Instr.next (.pointer (some ⟨w.heap.size, 0, none⟩)) true ty).run Try.prog (w.iter s pos) = _ := fun ty => run_next_end w s pos ty hp
      go_wp2
      go_ret
      exact ⟨false, rfl, iter_below _ _ _⟩

/-- THE SCHEME's BLOCK: 181 cells, none of them frozen; the first one holds a string, the next two numbers of the kind int16. -/
structure Sch (b : Nat) (w : World) : Prop where
  str : ∃ d, w.cell? ⟨b, 0, none⟩ = some (.string d)
  one : ∃ x, w.cell? ⟨b, 1, none⟩ = some (.int .i16 x)
  two : ∃ x, w.cell? ⟨b, 2, none⟩ = some (.int .i16 x)
  all : ∀ o, o < 181 → ∃ v, w.cell? ⟨b, o, none⟩ = some v
  free : ∀ o, w.frozen? ⟨b, o, none⟩ = false
  lt : b < w.heap.size

theorem Sch.drew {b : Nat} {w : World} (h : Sch b w) : Sch b w.drew := ⟨h.str, h.one, h.two, h.all, h.free, h.lt⟩
theorem Sch.keep {b : Nat} {w w' : World} (h : Sch b w) (hb : Below w.heap.size w w') : Sch b w' := by
  have hc : ∀ o, w'.cell? ⟨b, o, none⟩ = w.cell? ⟨b, o, none⟩ := fun o => hb.cell (p := ⟨b, o, none⟩) h.lt
  have hf : ∀ o, w'.frozen? ⟨b, o, none⟩ = w.frozen? ⟨b, o, none⟩ := fun o => hb.frozen (p := ⟨b, o, none⟩) h.lt
  refine ⟨?_, ?_, ?_, ?_, ?_, Nat.lt_of_lt_of_le h.lt hb.size⟩
  · rw [hc]; exact h.str
  · rw [hc]; exact h.one
  · rw [hc]; exact h.two
  · intro o ho; rw [hc]; exact h.all o ho
  · intro o; rw [hf]; exact h.free o
/-- A store into the block that leaves the kinds of its first three cells. -/
theorem Sch.set {b : Nat} {w : World} (h : Sch b w) (o : Nat) (v : Value) (ho : o < 181) (h0 : o = 0 → ∃ d, v = .string d) (h1 : o = 1 → ∃ x, v = .int .i16 x) (h2 : o = 2 → ∃ x, v = .int .i16 x) : Sch b (w.setCell ⟨b, o, none⟩ v) := by
  have hs : (w.setCell ⟨b, o, none⟩ v).cell? ⟨b, o, none⟩ = some v := by
    obtain ⟨u, hu⟩ := h.all o ho
    exact World.cell?_setCell_same _ _ _ hu
  have hn : ∀ j, j ≠ o → (w.setCell ⟨b, o, none⟩ v).cell? ⟨b, j, none⟩ = w.cell? ⟨b, j, none⟩ := fun j hj => World.cell?_setCell_other _ _ _ _ (fun e => hj (by injection e with _ e2 _; exact e2.symm))
  refine ⟨?_, ?_, ?_, ?_, ?_, ?_⟩
  · by_cases e : 0 = o
    · subst e; obtain ⟨d, rfl⟩ := h0 rfl; exact ⟨d, hs⟩
    · rw [hn 0 e]; exact h.str
  · by_cases e : 1 = o
    · subst e; obtain ⟨d, rfl⟩ := h1 rfl; exact ⟨d, hs⟩
    · rw [hn 1 e]; exact h.one
  · by_cases e : 2 = o
    · subst e; obtain ⟨d, rfl⟩ := h2 rfl; exact ⟨d, hs⟩
    · rw [hn 2 e]; exact h.two
  · intro j hj
    by_cases e : j = o
    · subst e; exact ⟨v, hs⟩
    · rw [hn j e]; exact h.all j hj
  · intro j; rw [World.frozen?_setCell]; exact h.free j
  · rw [World.size_setCell]; exact h.lt

/-- Some number of the kind int16 is returned; the world is as it was. -/
def SomeNum (w : World) (e : Ending) (w' : World) : Prop := ∃ n : Int, e = .returned (.int .i16 n) ∧ w = w'

set_option maxRecDepth 100000 in
theorem bonus_any (b : Nat) (p c x y : Int) (w : World) (h1 : w.cell? ⟨b, 1, none⟩ = some (.int .i16 x)) (h2 : w.cell? ⟨b, 2, none⟩ = some (.int .i16 y)) :
    Calls Try.prog 8 #[.pointer (some ⟨b, 0, none⟩), .int .i64 p, .int .i64 c] w (SomeNum w) := by
  go_enter Try.func8, Try.ntmps8
  go_wp2
  all_goals
    go_ret
    exact ⟨_, rfl, rfl⟩

end Go.Proofs.Ytoemabiajnpdhaa
