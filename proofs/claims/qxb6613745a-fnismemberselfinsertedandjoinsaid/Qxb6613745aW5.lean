/-
  Walks (seat b6613745a): zzBytes_FnIsMemberSelfInsertedAndJoin (7).
-/
import Derived.Test.Qxb6613745aW4
namespace Go.Proofs.Qxb6613745a
open Go.RowKit

set_option maxHeartbeats 1000000 in
theorem bytes7 (id : ByteArray) (a : Option Addr) (len cap : Nat) (I P : Nat → ByteArray) (a' : Option Addr) (len' cap' : Nat) (I' P' : Nat → ByteArray) (addr : ByteArray) (w : World)
    (hid : id.size ≤ maxLen) (had : addr.size ≤ maxLen) (h : IsMems w a len cap I P) (h' : IsMems w a' len' cap' I' P') :
    Calls Try.prog 7 #[.string id, .slice a len cap, .slice a' len' cap', .string addr] w fun e w' => RetBool e ∧ w = w' := by
  obtain ⟨hlen, hS, _, hr⟩ := h
  obtain ⟨hlen', hS', _, hr'⟩ := h'
  unfold maxLen at hid had hlen hlen' hS hS'
  have HR : Hid (len = 0 ∨ ∃ b off, b < w.heap.size ∧ a = some ⟨b, off, none⟩ ∧ ∀ i, i < len → w.cell? ⟨b, off + i * 2, none⟩ = some (.string (I i)) ∧ w.cell? ⟨b, off + i * 2 + 1, none⟩ = some (.string (P i))) := hr
  have HR' : Hid (len' = 0 ∨ ∃ b off, b < w.heap.size ∧ a' = some ⟨b, off, none⟩ ∧ ∀ i, i < len' → w.cell? ⟨b, off + i * 2, none⟩ = some (.string (I' i)) ∧ w.cell? ⟨b, off + i * 2 + 1, none⟩ = some (.string (P' i))) := hr'
  have HS : Hid (∀ i, i < len → (I i).size ≤ 2 ^ 63 - 1 ∧ (P i).size ≤ 2 ^ 63 - 1) := hS
  have HS' : Hid (∀ i, i < len' → (I' i).size ≤ 2 ^ 63 - 1 ∧ (P' i).size ≤ 2 ^ 63 - 1) := hS'
  clear hr hr' hS hS'
  by_cases hi : id.size ≤ 1048576
  · by_cases hl : len ≤ 1048576
    · by_cases hil : id.size + len ≤ 1048576
      · go_enter Try.func7, Try.ntmps7
        go_wp2
        go_loop [9, 10] (fun n i => ∃ (z : Int) (j : Nat), 0 ≤ z ∧ z ≤ 1048576 ∧ j ≤ len ∧ n = .int .i64 z ∧ i = .int .i64 j) (fun _ i => len - (intOf i).toNat)
        case atStart => exact ⟨_, 0, by omega, by omega, Nat.zero_le _, rfl, rfl⟩
        case round =>
          obtain ⟨z, j, hz0, hz1, hj, rfl, rfl⟩ := hrel
          by_cases hlt : j < len
          · obtain ⟨hs0, hs1⟩ := HS j hlt
            rcases HR.out with h0 | ⟨b, off, _, rfl, hc⟩
            · omega
            obtain ⟨hc0, hc1⟩ := hc j hlt
            clear hc HS HS' HR HR'
            by_cases hI : (I j).size ≤ 1048576
            · by_cases hzI : z + (I j).size ≤ 1048576
              · by_cases hP : (P j).size ≤ 1048576
                · by_cases hzP : z + (I j).size + (P j).size ≤ 1048576
                  · go_wp2
                    go_round
                    case rel => exact ⟨_, j + 1, by omega, by omega, by omega, rfl, by go_num⟩
                    case measure => simp [intOf]; omega
                  · go_wp2
                    go_ret; exact ⟨RetBool.mk _, rfl⟩
                · go_wp2
                  go_ret; exact ⟨RetBool.mk _, rfl⟩
              · go_wp2
                go_ret; exact ⟨RetBool.mk _, rfl⟩
            · go_wp2
              go_ret; exact ⟨RetBool.mk _, rfl⟩
          · clear HS HR
            by_cases hl' : len' ≤ 1048576
            · by_cases hzl' : z + len' ≤ 1048576
              · go_wp2
                go_loop [9, 11] (fun n i => ∃ (z : Int) (j : Nat), 0 ≤ z ∧ z ≤ 1048576 ∧ j ≤ len' ∧ n = .int .i64 z ∧ i = .int .i64 j) (fun _ i => len' - (intOf i).toNat)
                case atStart => exact ⟨_, 0, by omega, by omega, Nat.zero_le _, rfl, rfl⟩
                case round =>
                  obtain ⟨y, m, hy0, hy1, hm, rfl, rfl⟩ := hrel
                  by_cases hlm : m < len'
                  · obtain ⟨hs0, hs1⟩ := HS' m hlm
                    rcases HR'.out with h0 | ⟨b, off, _, rfl, hc⟩
                    · omega
                    obtain ⟨hc0, hc1⟩ := hc m hlm
                    clear hc HS' HR'
                    by_cases hI : (I' m).size ≤ 1048576
                    · by_cases hzI : y + (I' m).size ≤ 1048576
                      · by_cases hP : (P' m).size ≤ 1048576
                        · by_cases hzP : y + (I' m).size + (P' m).size ≤ 1048576
                          · go_wp2
                            go_round
                            case rel => exact ⟨_, m + 1, by omega, by omega, by omega, rfl, by go_num⟩
                            case measure => simp [intOf]; omega
                          · go_wp2
                            go_ret; exact ⟨RetBool.mk _, rfl⟩
                        · go_wp2
                          go_ret; exact ⟨RetBool.mk _, rfl⟩
                      · go_wp2
                        go_ret; exact ⟨RetBool.mk _, rfl⟩
                    · go_wp2
                      go_ret; exact ⟨RetBool.mk _, rfl⟩
                  · clear HS' HR'
                    go_wp2
                    all_goals (go_ret; exact ⟨RetBool.mk _, rfl⟩)
              · go_wp2
                go_ret; exact ⟨RetBool.mk _, rfl⟩
            · go_wp2
              go_ret; exact ⟨RetBool.mk _, rfl⟩
      · clear HS HS' HR HR'
        go_enter Try.func7, Try.ntmps7
        go_wp2
        go_ret; exact ⟨RetBool.mk _, rfl⟩
    · clear HS HS' HR HR'
      go_enter Try.func7, Try.ntmps7
      go_wp2
      go_ret; exact ⟨RetBool.mk _, rfl⟩
  · clear HS HS' HR HR'
    go_enter Try.func7, Try.ntmps7
    go_wp2
    go_ret; exact ⟨RetBool.mk _, rfl⟩

end Go.Proofs.Qxb6613745a
