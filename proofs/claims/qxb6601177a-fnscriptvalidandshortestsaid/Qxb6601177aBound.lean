/-
  The small functions of the laws, by their contracts. My own text.
-/
import Derived.Test.Qxb6601177aBasics
namespace Go.Proofs.Qxb6601177a
open Go.ChangeShapes Go.WideShapes Go.ChangeAt Go.RowKit

set_option maxHeartbeats 1000000 in
theorem zzBytes9_any (a b : Option Addr) (n c m d : Nat) (A B : List ByteArray) (w : World) (hA : Strs w a n c A) (hB : Strs w b m d B) :
    Calls Try.prog 9 #[.slice a n c, .slice b m d] w fun e w' => ABool e ∧ w' = w := by
  obtain ⟨_, hnc, hcm, hcl⟩ := hA
  have HA : Hid (Cells w a n (fun i => .string (A.getD i ByteArray.empty))) := hcl
  clear hcl
  obtain ⟨_, hmd, hdm, hcl⟩ := hB
  have HB : Hid (Cells w b m (fun i => .string (B.getD i ByteArray.empty))) := hcl
  clear hcl
  by_cases hbig : n ≤ 1048576
  · go_enter Try.func9, Try.ntmps9
    go_wp2
    go_loop [5, 6] (fun t i => ∃ k s : Nat, k ≤ n ∧ s ≤ 1048576 ∧ i = .int .i64 k ∧ t = .int .i64 s) (fun _ i => n - (intOf i).toNat)
    case atStart => exact ⟨0, n, Nat.zero_le _, hbig, rfl, rfl⟩
    case round =>
      obtain ⟨k, s, hk, hs, rfl, rfl⟩ := hrel
      by_cases hlt : k < n
      · obtain ⟨g, o, rfl, _, hc⟩ := HA.out (by omega)
        have hcell : w.cell? ⟨g, o + k, none⟩ = some (.string (A.getD k ByteArray.empty)) := hc k hlt
        generalize A.getD k ByteArray.empty = x at hcell
        clear hc
        go_wp2
        · go_ret; exact ⟨⟨_, rfl⟩, rfl⟩
        · go_ret; exact ⟨⟨_, rfl⟩, rfl⟩
        · go_round
          case rel => exact ⟨k + 1, s + x.size, by omega, by omega, by go_num, by go_num⟩
          case measure => simp [intOf]; omega
      · by_cases hbig2 : s + m ≤ 1048576
        · go_wp2
          go_loop [5, 7] (fun t i => ∃ k s : Nat, k ≤ m ∧ s ≤ 1048576 ∧ i = .int .i64 k ∧ t = .int .i64 s) (fun _ i => m - (intOf i).toNat)
          case atStart => exact ⟨0, s + m, Nat.zero_le _, hbig2, rfl, by go_num⟩
          case round =>
            obtain ⟨k, s, hk, hs, rfl, rfl⟩ := hrel
            by_cases hlt : k < m
            · obtain ⟨g, o, rfl, _, hc⟩ := HB.out (by omega)
              have hcell : w.cell? ⟨g, o + k, none⟩ = some (.string (B.getD k ByteArray.empty)) := hc k hlt
              generalize B.getD k ByteArray.empty = x at hcell
              clear hc
              go_wp2
              · go_ret; exact ⟨⟨_, rfl⟩, rfl⟩
              · go_ret; exact ⟨⟨_, rfl⟩, rfl⟩
              · go_round
                case rel => exact ⟨k + 1, s + x.size, by omega, by omega, by go_num, by go_num⟩
                case measure => simp [intOf]; omega
            · go_wp2
              go_ret
              exact ⟨⟨_, rfl⟩, rfl⟩
        · by_cases hbig3 : m ≤ 1048576
          · go_wp2
            go_ret
            exact ⟨⟨_, rfl⟩, rfl⟩
          · go_wp2
            go_ret
            exact ⟨⟨_, rfl⟩, rfl⟩
  · go_enter Try.func9, Try.ntmps9
    go_wp2
    go_ret
    exact ⟨⟨_, rfl⟩, rfl⟩

set_option maxHeartbeats 1000000 in
theorem zzBytes14_any (a b : Option Addr) (n c m d : Nat) (A B : List ByteArray) (w : World) (hA : Strs w a n c A) (hB : Strs w b m d B) :
    Calls Try.prog 14 #[.slice a n c, .slice b m d] w fun e w' => ABool e ∧ w' = w := by
  obtain ⟨_, hnc, hcm, hcl⟩ := hA
  have HA : Hid (Cells w a n (fun i => .string (A.getD i ByteArray.empty))) := hcl
  clear hcl
  obtain ⟨_, hmd, hdm, hcl⟩ := hB
  have HB : Hid (Cells w b m (fun i => .string (B.getD i ByteArray.empty))) := hcl
  clear hcl
  by_cases hbig : n ≤ 1048576
  · go_enter Try.func14, Try.ntmps14
    go_wp2
    go_loop [5, 6] (fun t i => ∃ k s : Nat, k ≤ n ∧ s ≤ 1048576 ∧ i = .int .i64 k ∧ t = .int .i64 s) (fun _ i => n - (intOf i).toNat)
    case atStart => exact ⟨0, n, Nat.zero_le _, hbig, rfl, rfl⟩
    case round =>
      obtain ⟨k, s, hk, hs, rfl, rfl⟩ := hrel
      by_cases hlt : k < n
      · obtain ⟨g, o, rfl, _, hc⟩ := HA.out (by omega)
        have hcell : w.cell? ⟨g, o + k, none⟩ = some (.string (A.getD k ByteArray.empty)) := hc k hlt
        generalize A.getD k ByteArray.empty = x at hcell
        clear hc
        go_wp2
        · go_ret; exact ⟨⟨_, rfl⟩, rfl⟩
        · go_ret; exact ⟨⟨_, rfl⟩, rfl⟩
        · go_round
          case rel => exact ⟨k + 1, s + x.size, by omega, by omega, by go_num, by go_num⟩
          case measure => simp [intOf]; omega
      · by_cases hbig2 : s + m ≤ 1048576
        · go_wp2
          go_loop [5, 7] (fun t i => ∃ k s : Nat, k ≤ m ∧ s ≤ 1048576 ∧ i = .int .i64 k ∧ t = .int .i64 s) (fun _ i => m - (intOf i).toNat)
          case atStart => exact ⟨0, s + m, Nat.zero_le _, hbig2, rfl, by go_num⟩
          case round =>
            obtain ⟨k, s, hk, hs, rfl, rfl⟩ := hrel
            by_cases hlt : k < m
            · obtain ⟨g, o, rfl, _, hc⟩ := HB.out (by omega)
              have hcell : w.cell? ⟨g, o + k, none⟩ = some (.string (B.getD k ByteArray.empty)) := hc k hlt
              generalize B.getD k ByteArray.empty = x at hcell
              clear hc
              go_wp2
              · go_ret; exact ⟨⟨_, rfl⟩, rfl⟩
              · go_ret; exact ⟨⟨_, rfl⟩, rfl⟩
              · go_round
                case rel => exact ⟨k + 1, s + x.size, by omega, by omega, by go_num, by go_num⟩
                case measure => simp [intOf]; omega
            · go_wp2
              go_ret
              exact ⟨⟨_, rfl⟩, rfl⟩
        · by_cases hbig3 : m ≤ 1048576
          · go_wp2
            go_ret
            exact ⟨⟨_, rfl⟩, rfl⟩
          · go_wp2
            go_ret
            exact ⟨⟨_, rfl⟩, rfl⟩
  · go_enter Try.func14, Try.ntmps14
    go_wp2
    go_ret
    exact ⟨⟨_, rfl⟩, rfl⟩

set_option maxHeartbeats 1000000 in
theorem zzBytes18_any (a b : Option Addr) (n c m d : Nat) (A B : List ByteArray) (w : World) (hA : Strs w a n c A) (hB : Strs w b m d B) :
    Calls Try.prog 18 #[.slice a n c, .slice b m d] w fun e w' => ABool e ∧ w' = w := by
  obtain ⟨_, hnc, hcm, hcl⟩ := hA
  have HA : Hid (Cells w a n (fun i => .string (A.getD i ByteArray.empty))) := hcl
  clear hcl
  obtain ⟨_, hmd, hdm, hcl⟩ := hB
  have HB : Hid (Cells w b m (fun i => .string (B.getD i ByteArray.empty))) := hcl
  clear hcl
  by_cases hbig : n ≤ 1048576
  · go_enter Try.func18, Try.ntmps18
    go_wp2
    go_loop [5, 6] (fun t i => ∃ k s : Nat, k ≤ n ∧ s ≤ 1048576 ∧ i = .int .i64 k ∧ t = .int .i64 s) (fun _ i => n - (intOf i).toNat)
    case atStart => exact ⟨0, n, Nat.zero_le _, hbig, rfl, rfl⟩
    case round =>
      obtain ⟨k, s, hk, hs, rfl, rfl⟩ := hrel
      by_cases hlt : k < n
      · obtain ⟨g, o, rfl, _, hc⟩ := HA.out (by omega)
        have hcell : w.cell? ⟨g, o + k, none⟩ = some (.string (A.getD k ByteArray.empty)) := hc k hlt
        generalize A.getD k ByteArray.empty = x at hcell
        clear hc
        go_wp2
        · go_ret; exact ⟨⟨_, rfl⟩, rfl⟩
        · go_ret; exact ⟨⟨_, rfl⟩, rfl⟩
        · go_round
          case rel => exact ⟨k + 1, s + x.size, by omega, by omega, by go_num, by go_num⟩
          case measure => simp [intOf]; omega
      · by_cases hbig2 : s + m ≤ 1048576
        · go_wp2
          go_loop [5, 7] (fun t i => ∃ k s : Nat, k ≤ m ∧ s ≤ 1048576 ∧ i = .int .i64 k ∧ t = .int .i64 s) (fun _ i => m - (intOf i).toNat)
          case atStart => exact ⟨0, s + m, Nat.zero_le _, hbig2, rfl, by go_num⟩
          case round =>
            obtain ⟨k, s, hk, hs, rfl, rfl⟩ := hrel
            by_cases hlt : k < m
            · obtain ⟨g, o, rfl, _, hc⟩ := HB.out (by omega)
              have hcell : w.cell? ⟨g, o + k, none⟩ = some (.string (B.getD k ByteArray.empty)) := hc k hlt
              generalize B.getD k ByteArray.empty = x at hcell
              clear hc
              go_wp2
              · go_ret; exact ⟨⟨_, rfl⟩, rfl⟩
              · go_ret; exact ⟨⟨_, rfl⟩, rfl⟩
              · go_round
                case rel => exact ⟨k + 1, s + x.size, by omega, by omega, by go_num, by go_num⟩
                case measure => simp [intOf]; omega
            · go_wp2
              go_ret
              exact ⟨⟨_, rfl⟩, rfl⟩
        · by_cases hbig3 : m ≤ 1048576
          · go_wp2
            go_ret
            exact ⟨⟨_, rfl⟩, rfl⟩
          · go_wp2
            go_ret
            exact ⟨⟨_, rfl⟩, rfl⟩
  · go_enter Try.func18, Try.ntmps18
    go_wp2
    go_ret
    exact ⟨⟨_, rfl⟩, rfl⟩

set_option maxHeartbeats 1000000 in
theorem zzBytes20_any (a b : Option Addr) (n c m d : Nat) (A B : List ByteArray) (w : World) (hA : Strs w a n c A) (hB : Strs w b m d B) :
    Calls Try.prog 20 #[.slice a n c, .slice b m d] w fun e w' => ABool e ∧ w' = w := by
  obtain ⟨_, hnc, hcm, hcl⟩ := hA
  have HA : Hid (Cells w a n (fun i => .string (A.getD i ByteArray.empty))) := hcl
  clear hcl
  obtain ⟨_, hmd, hdm, hcl⟩ := hB
  have HB : Hid (Cells w b m (fun i => .string (B.getD i ByteArray.empty))) := hcl
  clear hcl
  by_cases hbig : n ≤ 1048576
  · go_enter Try.func20, Try.ntmps20
    go_wp2
    go_loop [5, 6] (fun t i => ∃ k s : Nat, k ≤ n ∧ s ≤ 1048576 ∧ i = .int .i64 k ∧ t = .int .i64 s) (fun _ i => n - (intOf i).toNat)
    case atStart => exact ⟨0, n, Nat.zero_le _, hbig, rfl, rfl⟩
    case round =>
      obtain ⟨k, s, hk, hs, rfl, rfl⟩ := hrel
      by_cases hlt : k < n
      · obtain ⟨g, o, rfl, _, hc⟩ := HA.out (by omega)
        have hcell : w.cell? ⟨g, o + k, none⟩ = some (.string (A.getD k ByteArray.empty)) := hc k hlt
        generalize A.getD k ByteArray.empty = x at hcell
        clear hc
        go_wp2
        · go_ret; exact ⟨⟨_, rfl⟩, rfl⟩
        · go_ret; exact ⟨⟨_, rfl⟩, rfl⟩
        · go_round
          case rel => exact ⟨k + 1, s + x.size, by omega, by omega, by go_num, by go_num⟩
          case measure => simp [intOf]; omega
      · by_cases hbig2 : s + m ≤ 1048576
        · go_wp2
          go_loop [5, 7] (fun t i => ∃ k s : Nat, k ≤ m ∧ s ≤ 1048576 ∧ i = .int .i64 k ∧ t = .int .i64 s) (fun _ i => m - (intOf i).toNat)
          case atStart => exact ⟨0, s + m, Nat.zero_le _, hbig2, rfl, by go_num⟩
          case round =>
            obtain ⟨k, s, hk, hs, rfl, rfl⟩ := hrel
            by_cases hlt : k < m
            · obtain ⟨g, o, rfl, _, hc⟩ := HB.out (by omega)
              have hcell : w.cell? ⟨g, o + k, none⟩ = some (.string (B.getD k ByteArray.empty)) := hc k hlt
              generalize B.getD k ByteArray.empty = x at hcell
              clear hc
              go_wp2
              · go_ret; exact ⟨⟨_, rfl⟩, rfl⟩
              · go_ret; exact ⟨⟨_, rfl⟩, rfl⟩
              · go_round
                case rel => exact ⟨k + 1, s + x.size, by omega, by omega, by go_num, by go_num⟩
                case measure => simp [intOf]; omega
            · go_wp2
              go_ret
              exact ⟨⟨_, rfl⟩, rfl⟩
        · by_cases hbig3 : m ≤ 1048576
          · go_wp2
            go_ret
            exact ⟨⟨_, rfl⟩, rfl⟩
          · go_wp2
            go_ret
            exact ⟨⟨_, rfl⟩, rfl⟩
  · go_enter Try.func20, Try.ntmps20
    go_wp2
    go_ret
    exact ⟨⟨_, rfl⟩, rfl⟩

set_option maxHeartbeats 1000000 in
theorem zzOverBytes_any (a b : Option Addr) (n c m d : Nat) (A B : List ByteArray) (w : World) (hA : Strs w a n c A) (hB : Strs w b m d B) :
    Calls Try.prog 10 #[.slice a n c, .slice b m d] w fun e w' => ABool e ∧ w' = w := by
  obtain ⟨_, hnc, hcm, hcl⟩ := hA
  have HA : Hid (Cells w a n (fun i => .string (A.getD i ByteArray.empty))) := hcl
  clear hcl
  obtain ⟨_, hmd, hdm, hcl⟩ := hB
  have HB : Hid (Cells w b m (fun i => .string (B.getD i ByteArray.empty))) := hcl
  clear hcl
  go_enter Try.func10, Try.ntmps10
  go_wp2
  go_loop [5, 6] (fun t i => ∃ k s : Nat, k ≤ n ∧ s ≤ 1048576 ∧ i = .int .i64 k ∧ t = .int .i64 s) (fun _ i => n - (intOf i).toNat)
  case atStart => exact ⟨0, 0, Nat.zero_le _, by omega, rfl, rfl⟩
  case round =>
    obtain ⟨k, s, hk, hs, rfl, rfl⟩ := hrel
    by_cases hlt : k < n
    · obtain ⟨g, o, rfl, _, hc⟩ := HA.out (by omega)
      have hcell : w.cell? ⟨g, o + k, none⟩ = some (.string (A.getD k ByteArray.empty)) := hc k hlt
      generalize A.getD k ByteArray.empty = x at hcell
      clear hc
      go_wp2
      · go_ret; exact ⟨⟨_, rfl⟩, rfl⟩
      · go_ret; exact ⟨⟨_, rfl⟩, rfl⟩
      · go_round
        case rel => exact ⟨k + 1, s + (16 + x.size), by omega, by omega, by go_num, by go_num⟩
        case measure => simp [intOf]; omega
    · go_wp2
      go_loop [5, 7] (fun t i => ∃ k s : Nat, k ≤ m ∧ s ≤ 1048576 ∧ i = .int .i64 k ∧ t = .int .i64 s) (fun _ i => m - (intOf i).toNat)
      case atStart => exact ⟨0, s, Nat.zero_le _, hs, rfl, rfl⟩
      case round =>
        obtain ⟨k, s, hk, hs, rfl, rfl⟩ := hrel
        by_cases hlt : k < m
        · obtain ⟨g, o, rfl, _, hc⟩ := HB.out (by omega)
          have hcell : w.cell? ⟨g, o + k, none⟩ = some (.string (B.getD k ByteArray.empty)) := hc k hlt
          generalize B.getD k ByteArray.empty = x at hcell
          clear hc
          go_wp2
          · go_ret; exact ⟨⟨_, rfl⟩, rfl⟩
          · go_ret; exact ⟨⟨_, rfl⟩, rfl⟩
          · go_round
            case rel => exact ⟨k + 1, s + (16 + x.size), by omega, by omega, by go_num, by go_num⟩
            case measure => simp [intOf]; omega
        · go_wp2
          go_ret
          exact ⟨⟨_, rfl⟩, rfl⟩
end Go.Proofs.Qxb6601177a
