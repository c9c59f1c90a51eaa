/-
  A run of the executor. No condition.
-/
import Derived.Test.YtiegapnfbeemcaaGreatDoorA11
namespace Go.Proofs.YtiegapnfbeemcaaGreatDoor.X
set_option maxRecDepth 1000000
open Go.RowKit
def K45a : List Value := []
def K45h : Heap := [⟨51, [.iface 101 (.pointer (some ⟨3, 0, none⟩))], true⟩, ⟨3, [.int .i64 40], true⟩, ⟨3, [.int .i64 40], true⟩, ⟨103, [], false⟩]
def K45v : Value := .pointer (some ⟨4, 0, none⟩)
def K45r : Heap := [⟨51, [.iface 101 (.pointer (some ⟨3, 0, none⟩))], true⟩, ⟨3, [.int .i64 40], true⟩, ⟨3, [.int .i64 40], true⟩, ⟨103, [], false⟩, ⟨109, [.bool false, .slice (some ⟨13, 0, none⟩) 4 4294967300], true⟩, ⟨165, [.string ⟨#[66, 67, 51, 55, 51, 54, 65, 50, 70, 52, 70, 54, 55, 55, 57, 67, 53, 57, 66, 68, 67, 69, 69, 51, 54, 66, 54, 57, 50, 49, 53, 51, 68, 48, 65, 57, 56, 55, 55, 67, 67, 54, 50, 65, 52, 55, 52, 48, 48, 50, 68, 70, 51, 50, 69, 53, 50, 49, 51, 57, 70, 48, 65, 48]⟩, .int .i64 64, .int .i64 (-1)], true⟩, ⟨137, [.int .u64 13562368876371933084], true⟩, ⟨137, [], false⟩, ⟨137, [.int .u64 6466552116128850259], true⟩, ⟨137, [], false⟩, ⟨137, [.int .u64 15035697800923465536], true⟩, ⟨137, [], false⟩, ⟨137, [.int .u64 206940067568677024], true⟩, ⟨137, [.int .u64 206940067568677024, .int .u64 15035697800923465536, .int .u64 6466552116128850259, .int .u64 13562368876371933084], true⟩]
theorem K45_run : callX 40 45 K45a K45h = some (K45v, K45r) := by kernel_rfl
end Go.Proofs.YtiegapnfbeemcaaGreatDoor.X
