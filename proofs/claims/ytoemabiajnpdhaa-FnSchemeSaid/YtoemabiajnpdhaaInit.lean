/- Init of a scheme: it returns whether the name is one of the three, and turns nothing below the scheme's own block, which holds its kinds. -/
import Derived.Test.YtoemabiajnpdhaaCalls
import Derived.Deep.RegionWith
namespace Go.Proofs.Ytoemabiajnpdhaa
open Go.RowKit

set_option maxRecDepth 100000 in
set_option maxHeartbeats 1000000 in
theorem init_default (b : Nat) (s : ByteArray) (w : World) (hS : Sch b w) (e1 : (s.toList == [100, 101, 102, 97, 117, 108, 116]) = true) :
    Calls Try.prog 6 #[.pointer (some ⟨b, 0, none⟩), .string s] w (fun e w' => e = .returned (.bool true) ∧ Below b w w') := by
  obtain ⟨x1, c1⟩ := hS.all 1 (by omega)
  have f1 := hS.free 1
  obtain ⟨x2, c2⟩ := hS.all 2 (by omega)
  have f2 := hS.free 2
  go_enter Try.func6, Try.ntmps6
  go_wp2_with fail
  have hA := ((hS.set 1 (.int .i16 10) (by omega) (by omega) (fun _ => ⟨_, rfl⟩) (by omega)).set 2 (.int .i16 9) (by omega) (by omega) (by omega) (fun _ => ⟨_, rfl⟩))
  have hB := (((Below.refl b w).setCell (p := ⟨b, 1, none⟩) (Nat.le_refl _) (.int .i16 10)).setCell (p := ⟨b, 2, none⟩) (Nat.le_refl _) (.int .i16 9))
  clear hS c1 f1 c2 f2
  go_loopw [5] (fun i wr => ∃ k : Nat, k ≤ 128 ∧ i = .int .i64 k ∧ Sch b wr ∧ Below b w wr) (fun i _ => 128 - (intOf i).toNat)
  case atStart => exact ⟨0, by omega, rfl, hA, hB⟩
  case round =>
    obtain ⟨k, hk, rfl, hS, hW⟩ := hrel
    clear hA hB
    by_cases hlt : k < 128
    · obtain ⟨v0, cv0⟩ := hS.all (4 + k) (by omega)
      have cf0 := hS.free (4 + k)
      go_wp2_with (go_at_call 7; refine (rune_any _ _ _).mono ?_; rintro e w1 ⟨t1, rfl, hb1⟩; replace hW := hW.trans (hb1.mono (Nat.le_of_lt hS.lt)); replace hS := hS.keep hb1; obtain ⟨d1, cd1⟩ := hS.str; obtain ⟨v1, cv1⟩ := hS.all (4 + k) (by omega); have cf1 := hS.free (4 + k); cases t1)
      all_goals
        go_roundw
        case rel => exact ⟨k + 1, by omega, by go_num, hS.set _ _ (by omega) (by omega) (by omega) (by omega), hW.setCell (Nat.le_refl _) _⟩
        case measure => simp [intOf]; omega
    · have hd1 : decide ((k : Int) ≤ 127) = false := by simp; omega
      go_wp2_with fail
      go_loopw [8, 9] (fun i _ wx => ∃ k : Nat, k ≤ 7 ∧ i = .int .i64 k ∧ Sch b wx ∧ Below b w wx) (fun i _ _ => 7 - (intOf i).toNat)
      case atStart => exact ⟨0, by omega, rfl, hS, hW⟩
      case round =>
        obtain ⟨i, hi, rfl, hS1, hW1⟩ := hrel
        clear hS hW hlt hk
        by_cases hil : i < 7
        · have hd2 : decide ((i : Int) ≤ 6) = true := by simp; omega
          go_wp2_with fail
          go_loopw [9] (fun q wy => ∃ j : Nat, j ≤ 7 ∧ q = .int .i64 j ∧ Sch b wy ∧ Below b w wy) (fun q _ => 7 - (intOf q).toNat)
          case atStart => exact ⟨0, by omega, rfl, hS1, hW1⟩
          case round =>
            obtain ⟨j, hj, rfl, hS2, hW2⟩ := hrel
            clear hS1 hW1
            by_cases hjl : j < 7
            · obtain ⟨x3, c3⟩ := hS2.drew.one
              obtain ⟨x4, c4⟩ := hS2.drew.two
              obtain ⟨v5, c5⟩ := hS2.all (132 + i * 7 + j) (by omega)
              have f5 := hS2.free (132 + i * 7 + j)
              go_wp2_with fail
              go_region_with (go_at_call 8; refine (bonus_any _ _ _ _ _ _ c3 c4).mono ?_; rintro e w1 ⟨n, rfl, rfl⟩)
              all_goals
                go_wp2_with fail
                go_roundw
                case rel => exact ⟨j + 1, by omega, by go_num, hS2.drew.set _ _ (by omega) (by omega) (by omega) (by omega), hW2.drew.setCell (Nat.le_refl _) _⟩
                case measure => simp [intOf]; omega
            · go_wp2_with fail
              go_roundw
              case rel => exact ⟨i + 1, by omega, by go_num, hS2, hW2⟩
              case measure => simp [intOf]; omega
        · go_wp2_with fail
          go_ret
          exact ⟨rfl, hW1⟩

set_option maxRecDepth 100000 in
set_option maxHeartbeats 1000000 in
theorem init_path (b : Nat) (s : ByteArray) (w : World) (hS : Sch b w) (e1 : (s.toList == [100, 101, 102, 97, 117, 108, 116]) = false) (e2 : (s.toList == [112, 97, 116, 104]) = true) :
    Calls Try.prog 6 #[.pointer (some ⟨b, 0, none⟩), .string s] w (fun e w' => e = .returned (.bool true) ∧ Below b w w') := by
  obtain ⟨x1, c1⟩ := hS.all 1 (by omega)
  have f1 := hS.free 1
  obtain ⟨x2, c2⟩ := hS.all 2 (by omega)
  have f2 := hS.free 2
  obtain ⟨x0, c0⟩ := hS.all 0 (by omega)
  have f0 := hS.free 0
  obtain ⟨x3, c3⟩ := hS.all 3 (by omega)
  have f3 := hS.free 3
  go_enter Try.func6, Try.ntmps6
  go_wp2_with fail
  have hA := ((((hS.set 1 (.int .i16 8) (by omega) (by omega) (fun _ => ⟨_, rfl⟩) (by omega)).set 2 (.int .i16 9) (by omega) (by omega) (by omega) (fun _ => ⟨_, rfl⟩)).set 0 (.string ⟨#[47]⟩) (by omega) (fun _ => ⟨_, rfl⟩) (by omega) (by omega)).set 3 (.int .i64 2) (by omega) (by omega) (by omega) (by omega))
  have hB := (((((Below.refl b w).setCell (p := ⟨b, 1, none⟩) (Nat.le_refl _) (.int .i16 8)).setCell (p := ⟨b, 2, none⟩) (Nat.le_refl _) (.int .i16 9)).setCell (p := ⟨b, 0, none⟩) (Nat.le_refl _) (.string ⟨#[47]⟩)).setCell (p := ⟨b, 3, none⟩) (Nat.le_refl _) (.int .i64 2))
  clear hS c1 f1 c2 f2 c0 f0 c3 f3
  go_loopw [5] (fun i wr => ∃ k : Nat, k ≤ 128 ∧ i = .int .i64 k ∧ Sch b wr ∧ Below b w wr) (fun i _ => 128 - (intOf i).toNat)
  case atStart => exact ⟨0, by omega, rfl, hA, hB⟩
  case round =>
    obtain ⟨k, hk, rfl, hS, hW⟩ := hrel
    clear hA hB
    by_cases hlt : k < 128
    · obtain ⟨v0, cv0⟩ := hS.all (4 + k) (by omega)
      have cf0 := hS.free (4 + k)
      go_wp2_with (go_at_call 7; refine (rune_any _ _ _).mono ?_; rintro e w1 ⟨t1, rfl, hb1⟩; replace hW := hW.trans (hb1.mono (Nat.le_of_lt hS.lt)); replace hS := hS.keep hb1; obtain ⟨d1, cd1⟩ := hS.str; obtain ⟨v1, cv1⟩ := hS.all (4 + k) (by omega); have cf1 := hS.free (4 + k); cases t1)
      all_goals
        go_roundw
        case rel => exact ⟨k + 1, by omega, by go_num, hS.set _ _ (by omega) (by omega) (by omega) (by omega), hW.setCell (Nat.le_refl _) _⟩
        case measure => simp [intOf]; omega
    · have hd1 : decide ((k : Int) ≤ 127) = false := by simp; omega
      go_wp2_with fail
      go_loopw [8, 9] (fun i _ wx => ∃ k : Nat, k ≤ 7 ∧ i = .int .i64 k ∧ Sch b wx ∧ Below b w wx) (fun i _ _ => 7 - (intOf i).toNat)
      case atStart => exact ⟨0, by omega, rfl, hS, hW⟩
      case round =>
        obtain ⟨i, hi, rfl, hS1, hW1⟩ := hrel
        clear hS hW hlt hk
        by_cases hil : i < 7
        · have hd2 : decide ((i : Int) ≤ 6) = true := by simp; omega
          go_wp2_with fail
          go_loopw [9] (fun q wy => ∃ j : Nat, j ≤ 7 ∧ q = .int .i64 j ∧ Sch b wy ∧ Below b w wy) (fun q _ => 7 - (intOf q).toNat)
          case atStart => exact ⟨0, by omega, rfl, hS1, hW1⟩
          case round =>
            obtain ⟨j, hj, rfl, hS2, hW2⟩ := hrel
            clear hS1 hW1
            by_cases hjl : j < 7
            · obtain ⟨x3, c3⟩ := hS2.drew.one
              obtain ⟨x4, c4⟩ := hS2.drew.two
              obtain ⟨v5, c5⟩ := hS2.all (132 + i * 7 + j) (by omega)
              have f5 := hS2.free (132 + i * 7 + j)
              go_wp2_with fail
              go_region_with (go_at_call 8; refine (bonus_any _ _ _ _ _ _ c3 c4).mono ?_; rintro e w1 ⟨n, rfl, rfl⟩)
              all_goals
                go_wp2_with fail
                go_roundw
                case rel => exact ⟨j + 1, by omega, by go_num, hS2.drew.set _ _ (by omega) (by omega) (by omega) (by omega), hW2.drew.setCell (Nat.le_refl _) _⟩
                case measure => simp [intOf]; omega
            · go_wp2_with fail
              go_roundw
              case rel => exact ⟨i + 1, by omega, by go_num, hS2, hW2⟩
              case measure => simp [intOf]; omega
        · go_wp2_with fail
          go_ret
          exact ⟨rfl, hW1⟩

set_option maxRecDepth 100000 in
set_option maxHeartbeats 1000000 in
theorem init_history (b : Nat) (s : ByteArray) (w : World) (hS : Sch b w) (e1 : (s.toList == [100, 101, 102, 97, 117, 108, 116]) = false) (e2 : (s.toList == [112, 97, 116, 104]) = false) (e3 : (s.toList == [104, 105, 115, 116, 111, 114, 121]) = true) :
    Calls Try.prog 6 #[.pointer (some ⟨b, 0, none⟩), .string s] w (fun e w' => e = .returned (.bool true) ∧ Below b w w') := by
  obtain ⟨x1, c1⟩ := hS.all 1 (by omega)
  have f1 := hS.free 1
  obtain ⟨x2, c2⟩ := hS.all 2 (by omega)
  have f2 := hS.free 2
  go_enter Try.func6, Try.ntmps6
  go_wp2_with fail
  have hA := ((hS.set 1 (.int .i16 8) (by omega) (by omega) (fun _ => ⟨_, rfl⟩) (by omega)).set 2 (.int .i16 8) (by omega) (by omega) (by omega) (fun _ => ⟨_, rfl⟩))
  have hB := (((Below.refl b w).setCell (p := ⟨b, 1, none⟩) (Nat.le_refl _) (.int .i16 8)).setCell (p := ⟨b, 2, none⟩) (Nat.le_refl _) (.int .i16 8))
  clear hS c1 f1 c2 f2
  go_loopw [5] (fun i wr => ∃ k : Nat, k ≤ 128 ∧ i = .int .i64 k ∧ Sch b wr ∧ Below b w wr) (fun i _ => 128 - (intOf i).toNat)
  case atStart => exact ⟨0, by omega, rfl, hA, hB⟩
  case round =>
    obtain ⟨k, hk, rfl, hS, hW⟩ := hrel
    clear hA hB
    by_cases hlt : k < 128
    · obtain ⟨v0, cv0⟩ := hS.all (4 + k) (by omega)
      have cf0 := hS.free (4 + k)
      go_wp2_with (go_at_call 7; refine (rune_any _ _ _).mono ?_; rintro e w1 ⟨t1, rfl, hb1⟩; replace hW := hW.trans (hb1.mono (Nat.le_of_lt hS.lt)); replace hS := hS.keep hb1; obtain ⟨d1, cd1⟩ := hS.str; obtain ⟨v1, cv1⟩ := hS.all (4 + k) (by omega); have cf1 := hS.free (4 + k); cases t1)
      all_goals
        go_roundw
        case rel => exact ⟨k + 1, by omega, by go_num, hS.set _ _ (by omega) (by omega) (by omega) (by omega), hW.setCell (Nat.le_refl _) _⟩
        case measure => simp [intOf]; omega
    · have hd1 : decide ((k : Int) ≤ 127) = false := by simp; omega
      go_wp2_with fail
      go_loopw [8, 9] (fun i _ wx => ∃ k : Nat, k ≤ 7 ∧ i = .int .i64 k ∧ Sch b wx ∧ Below b w wx) (fun i _ _ => 7 - (intOf i).toNat)
      case atStart => exact ⟨0, by omega, rfl, hS, hW⟩
      case round =>
        obtain ⟨i, hi, rfl, hS1, hW1⟩ := hrel
        clear hS hW hlt hk
        by_cases hil : i < 7
        · have hd2 : decide ((i : Int) ≤ 6) = true := by simp; omega
          go_wp2_with fail
          go_loopw [9] (fun q wy => ∃ j : Nat, j ≤ 7 ∧ q = .int .i64 j ∧ Sch b wy ∧ Below b w wy) (fun q _ => 7 - (intOf q).toNat)
          case atStart => exact ⟨0, by omega, rfl, hS1, hW1⟩
          case round =>
            obtain ⟨j, hj, rfl, hS2, hW2⟩ := hrel
            clear hS1 hW1
            by_cases hjl : j < 7
            · obtain ⟨x3, c3⟩ := hS2.drew.one
              obtain ⟨x4, c4⟩ := hS2.drew.two
              obtain ⟨v5, c5⟩ := hS2.all (132 + i * 7 + j) (by omega)
              have f5 := hS2.free (132 + i * 7 + j)
              go_wp2_with fail
              go_region_with (go_at_call 8; refine (bonus_any _ _ _ _ _ _ c3 c4).mono ?_; rintro e w1 ⟨n, rfl, rfl⟩)
              all_goals
                go_wp2_with fail
                go_roundw
                case rel => exact ⟨j + 1, by omega, by go_num, hS2.drew.set _ _ (by omega) (by omega) (by omega) (by omega), hW2.drew.setCell (Nat.le_refl _) _⟩
                case measure => simp [intOf]; omega
            · go_wp2_with fail
              go_roundw
              case rel => exact ⟨i + 1, by omega, by go_num, hS2, hW2⟩
              case measure => simp [intOf]; omega
        · go_wp2_with fail
          go_ret
          exact ⟨rfl, hW1⟩

theorem init_none (b : Nat) (s : ByteArray) (w : World) (e1 : (s.toList == [100, 101, 102, 97, 117, 108, 116]) = false) (e2 : (s.toList == [112, 97, 116, 104]) = false) (e3 : (s.toList == [104, 105, 115, 116, 111, 114, 121]) = false) :
    Calls Try.prog 6 #[.pointer (some ⟨b, 0, none⟩), .string s] w (fun e w' => e = .returned (.bool false) ∧ Below b w w') := by
  go_enter Try.func6, Try.ntmps6
  go_wp2_with fail
  go_ret
  exact ⟨rfl, Below.refl _ _⟩

end Go.Proofs.Ytoemabiajnpdhaa
