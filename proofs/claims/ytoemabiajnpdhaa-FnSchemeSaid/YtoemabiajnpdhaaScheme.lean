/- The contracts of Init, NewScheme and Scheme at any name: what they return is whether the name is one of the three. -/
import Derived.Test.YtoemabiajnpdhaaInit
namespace Go.Proofs.Ytoemabiajnpdhaa
open Go.RowKit

/-- The cells of a scheme of zero values. -/
def zeros : Array Value := #[.string ByteArray.empty, .int .i16 0, .int .i16 0, .int .i64 0] ++ Array.replicate 128 (.int .i64 0) ++ Array.replicate 49 (.int .i16 0)
theorem size_zeros : zeros.size = 181 := by simp [zeros]
theorem run_zeros (w : World) : (zeroValue 32).run Try.prog w = .ok (.agg zeros) w := by kernel_rfl
/-- The cells of a new scheme. -/
abbrev cells0 : Array Value := (((zeros.setIfInBounds 0 (.string ⟨#[47, 44, 58, 59, 124]⟩)).setIfInBounds 1 (.int .i16 10)).setIfInBounds 2 (.int .i16 9)).setIfInBounds 3 (.int .i64 0)

theorem sch_new (w : World) : Sch w.heap.size (w.alloc (.cells cells0 32)) := by
  have hc : ∀ o, (w.alloc (.cells cells0 32)).cell? ⟨w.heap.size, o, none⟩ = cells0[o]? := fun o => World.cell?_alloc_new w cells0 32 o
  refine ⟨⟨⟨#[47, 44, 58, 59, 124]⟩, ?_⟩, ⟨10, ?_⟩, ⟨9, ?_⟩, fun o ho => ?_, fun o => World.frozen?_alloc_new w cells0 32 o, by simp⟩
  · rw [hc]; simp [cells0, size_zeros]
  · rw [hc]; simp [cells0, size_zeros]
  · rw [hc]; simp [cells0, size_zeros]
  · rw [hc]; exact ⟨_, Array.getElem?_eq_getElem (by simp [cells0, size_zeros]; exact ho)⟩

/-- Is it one of the three names? -/
def nameB (s : ByteArray) : Bool := s.toList == [100, 101, 102, 97, 117, 108, 116] || (s.toList == [112, 97, 116, 104] || s.toList == [104, 105, 115, 116, 111, 114, 121])

theorem nameB_size (s : ByteArray) (h : nameB s = true) : s.size ≤ 7 := by
  have e : s.size = s.toList.length := by rw [ByteArray.toList_eq, Array.length_toList]; rfl
  simp only [nameB, Bool.or_eq_true, beq_iff_eq] at h
  rcases h with h | h | h <;> rw [e, h] <;> decide

/-- Some pointer and this bool are returned; what was there is as it was. -/
def WithBool (t : Bool) (w : World) (e : Ending) (w' : World) : Prop := ∃ p, e = .returned (.tuple #[p, .bool t]) ∧ Below w.heap.size w w'

theorem init_any (b : Nat) (s : ByteArray) (t : Bool) (w : World) (hS : Sch b w) (ht : nameB s = t) :
    Calls Try.prog 6 #[.pointer (some ⟨b, 0, none⟩), .string s] w (fun e w' => e = .returned (.bool t) ∧ Below b w w') := by
  cases e1 : (s.toList == [100, 101, 102, 97, 117, 108, 116]) with
  | true =>
    obtain rfl : t = true := by rw [← ht]; simp [nameB, e1]
    exact init_default b s w hS e1
  | false =>
    cases e2 : (s.toList == [112, 97, 116, 104]) with
    | true =>
      obtain rfl : t = true := by rw [← ht]; simp [nameB, e2]
      exact init_path b s w hS e1 e2
    | false =>
      cases e3 : (s.toList == [104, 105, 115, 116, 111, 114, 121]) with
      | true =>
        obtain rfl : t = true := by rw [← ht]; simp [nameB, e3]
        exact init_history b s w hS e1 e2 e3
      | false =>
        obtain rfl : t = false := by rw [← ht]; simp only [nameB, e1, e2, e3]; rfl
        exact init_none b s w e1 e2 e3

set_option maxRecDepth 100000 in
theorem new_any (s : ByteArray) (t : Bool) (w : World) (ht : nameB s = t) : Calls Try.prog 5 #[.string s] w (WithBool t w) := by
  have hb := run_zeros w
  have hs := size_zeros
  have hn : ¬ zeros = #[] := by intro h; rw [h] at hs; simp at hs
  have hinit := init_any w.heap.size s t _ (sch_new w) ht
  go_enter Try.func5, Try.ntmps5
  go_wp2_with (go_at_call 6; refine hinit.mono ?_; rintro e w1 ⟨rfl, hb1⟩)
  go_ret2
  exact ⟨_, rfl, ((Below.refl _ _).alloc (Nat.le_refl _) _).trans hb1⟩

theorem scheme_any (s : ByteArray) (t : Bool) (w : World) (ht : nameB s = t) : Calls Try.prog 4 #[.string s] w (fun e w' => e = .returned (.bool t) ∧ Below w.heap.size w w') := by
  by_cases hl : s.size ≤ 60
  · have hnew := new_any s t w ht
    go_enter Try.func4, Try.ntmps4
    go_wp2_with (go_at_call 5; refine hnew.mono ?_; rintro e w1 ⟨p, rfl, hb1⟩)
    go_ret
    exact ⟨rfl, hb1⟩
  · obtain rfl : t = false := by
      cases t with
      | false => rfl
      | true => have := nameB_size s ht; omega
    clear ht
    have hl2 : 60 < s.size := by omega
    clear hl
    go_enter Try.func4, Try.ntmps4
    go_wp2_with fail
    go_ret
    exact ⟨rfl, Below.refl _ _⟩

end Go.Proofs.Ytoemabiajnpdhaa
