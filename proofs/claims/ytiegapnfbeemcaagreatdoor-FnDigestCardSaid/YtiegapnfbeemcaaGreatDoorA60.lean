/-
  Two runs of the executor. No condition.
-/
import Derived.Test.YtiegapnfbeemcaaGreatDoorA11
namespace Go.Proofs.YtiegapnfbeemcaaGreatDoor.X
set_option maxRecDepth 1000000
open Go.RowKit
def K43a : List Value := []
def K43h : Heap := [⟨51, [.iface 101 (.pointer (some ⟨3, 0, none⟩))], true⟩, ⟨3, [.int .i64 40], true⟩, ⟨3, [.int .i64 40], true⟩, ⟨103, [], false⟩]
def K43v : Value := .pointer (some ⟨4, 0, none⟩)
def K43r : Heap := [⟨51, [.iface 101 (.pointer (some ⟨3, 0, none⟩))], true⟩, ⟨3, [.int .i64 40], true⟩, ⟨3, [.int .i64 40], true⟩, ⟨103, [], false⟩, ⟨109, [.bool false, .slice (some ⟨13, 0, none⟩) 4 4294967300], true⟩, ⟨165, [.string ⟨#[50, 56, 69, 57, 70, 65, 57, 69, 57, 68, 57, 70, 53, 69, 51, 52, 52, 68, 53, 65, 57, 69, 52, 66, 67, 70, 54, 53, 48, 57, 65, 55, 70, 51, 57, 55, 56, 57, 70, 53, 49, 53, 65, 66, 56, 70, 57, 50, 68, 68, 66, 67, 66, 68, 52, 49, 52, 68, 57, 52, 48, 69, 57, 51]⟩, .int .i64 64, .int .i64 (-1)], true⟩, ⟨137, [.int .u64 2948162990246944308], true⟩, ⟨137, [], false⟩, ⟨137, [.int .u64 5573941537263651239], true⟩, ⟨137, [], false⟩, ⟨137, [.int .u64 17552649758423355282], true⟩, ⟨137, [], false⟩, ⟨137, [.int .u64 15977853666175749779], true⟩, ⟨137, [.int .u64 15977853666175749779, .int .u64 17552649758423355282, .int .u64 5573941537263651239, .int .u64 2948162990246944308], true⟩]
theorem K43_run : callX 40 43 K43a K43h = some (K43v, K43r) := by kernel_rfl
end Go.Proofs.YtiegapnfbeemcaaGreatDoor.X

namespace Go.Proofs.YtiegapnfbeemcaaGreatDoor.X
set_option maxRecDepth 1000000
open Go.RowKit
def K44a : List Value := []
def K44h : Heap := [⟨51, [.iface 101 (.pointer (some ⟨3, 0, none⟩))], true⟩, ⟨3, [.int .i64 40], true⟩, ⟨3, [.int .i64 40], true⟩, ⟨103, [], false⟩]
def K44v : Value := .pointer (some ⟨4, 0, none⟩)
def K44r : Heap := [⟨51, [.iface 101 (.pointer (some ⟨3, 0, none⟩))], true⟩, ⟨3, [.int .i64 40], true⟩, ⟨3, [.int .i64 40], true⟩, ⟨103, [], false⟩, ⟨109, [.bool false, .slice (some ⟨13, 0, none⟩) 4 4294967300], true⟩, ⟨165, [.string ⟨#[51, 50, 67, 52, 65, 69, 50, 67, 49, 70, 49, 57, 56, 49, 49, 57, 53, 70, 57, 57, 48, 52, 52, 54, 54, 65, 51, 57, 67, 57, 57, 52, 56, 70, 69, 51, 48, 66, 66, 70, 70, 50, 54, 54, 48, 66, 69, 49, 55, 49, 53, 65, 52, 53, 56, 57, 51, 51, 52, 67, 55, 52, 67, 55]⟩, .int .i64 64, .int .i64 (-1)], true⟩, ⟨137, [.int .u64 3658240301855244569], true⟩, ⟨137, [], false⟩, ⟨137, [.int .u64 6888541805516278164], true⟩, ⟨137, [], false⟩, ⟨137, [.int .u64 10368143686170446817], true⟩, ⟨137, [], false⟩, ⟨137, [.int .u64 8167917329763300551], true⟩, ⟨137, [.int .u64 8167917329763300551, .int .u64 10368143686170446817, .int .u64 6888541805516278164, .int .u64 3658240301855244569], true⟩]
theorem K44_run : callX 40 44 K44a K44h = some (K44v, K44r) := by kernel_rfl
end Go.Proofs.YtiegapnfbeemcaaGreatDoor.X
