import Derived.Test.YbulkckhyFmtFail
namespace Go.Proofs.YbulkckhyFmt
open Go.RowKit Go.Extern.Stop Go.Stop Go.Extern

/-- What join and zzs4314cjoin give. -/
def joined (p n : ByteArray) : ByteArray := if p.toList.isEmpty = true then n else p ++ ⟨#[46]⟩ ++ n

set_option maxHeartbeats 400000 in
theorem join_any (p n : ByteArray) (w : World) (hp : p.size ≤ 140737488351232) (hn : n.size ≤ 140737488351232) :
    Calls Ybaf.prog 11 #[.string p, .string n] w fun e w' => e = .returned (.string (joined p n)) ∧ w' = w := by
  unfold joined
  by_cases h : p.toList.isEmpty = true
  · rw [if_pos h]
    go_enter Ybaf.func11, Ybaf.ntmps11
    go_wp2
    go_ret
    exact ⟨rfl, rfl⟩
  · rw [if_neg h]
    have h' : p.toList.isEmpty = false := by simpa using h
    go_enter Ybaf.func11, Ybaf.ntmps11
    go_wp2
    go_ret
    exact ⟨rfl, rfl⟩

set_option maxHeartbeats 400000 in
theorem zzjoin_any (p n : ByteArray) (w : World) (hp : p.size ≤ 140737488351232) (hn : n.size ≤ 140737488351232) :
    Calls Ybaf.prog 7 #[.string p, .string n] w fun e w' => e = .returned (.string (joined p n)) ∧ w' = w := by
  unfold joined
  by_cases h : p.toList.isEmpty = true
  · rw [if_pos h]
    go_enter Ybaf.func7, Ybaf.ntmps7
    go_wp2
    go_ret
    exact ⟨rfl, rfl⟩
  · rw [if_neg h]
    have h' : p.toList.isEmpty = false := by simpa using h
    go_enter Ybaf.func7, Ybaf.ntmps7
    go_wp2
    go_ret
    exact ⟨rfl, rfl⟩

theorem ta39_22 (x : Value) (w : World) : (Instr.typeAssert (.iface 39 x) 20 22 true).run Ybaf.prog w = .ok (.tuple #[.pointer none, .bool false]) w := by kernel_rfl
theorem ta39_40 (x : Value) (w : World) : (Instr.typeAssert (.iface 39 x) 20 40 true).run Ybaf.prog w = .ok (.tuple #[.slice none 0 0, .bool false]) w := by kernel_rfl
theorem ta39_9 (x : Value) (w : World) : (Instr.typeAssert (.iface 39 x) 20 9 true).run Ybaf.prog w = .ok (.tuple #[.string ⟨#[]⟩, .bool false]) w := by kernel_rfl
theorem ta39_39 (x : Value) (w : World) : (Instr.typeAssert (.iface 39 x) 20 39 true).run Ybaf.prog w = .ok (.tuple #[x, .bool true]) w := by kernel_rfl
theorem ta39_4 (x : Value) (w : World) : (Instr.typeAssert (.iface 39 x) 20 4 true).run Ybaf.prog w = .ok (.tuple #[.bool false, .bool false]) w := by kernel_rfl
theorem ta4_22 (x : Value) (w : World) : (Instr.typeAssert (.iface 4 x) 20 22 true).run Ybaf.prog w = .ok (.tuple #[.pointer none, .bool false]) w := by kernel_rfl
theorem ta4_40 (x : Value) (w : World) : (Instr.typeAssert (.iface 4 x) 20 40 true).run Ybaf.prog w = .ok (.tuple #[.slice none 0 0, .bool false]) w := by kernel_rfl
theorem ta4_9 (x : Value) (w : World) : (Instr.typeAssert (.iface 4 x) 20 9 true).run Ybaf.prog w = .ok (.tuple #[.string ⟨#[]⟩, .bool false]) w := by kernel_rfl
theorem ta4_39 (x : Value) (w : World) : (Instr.typeAssert (.iface 4 x) 20 39 true).run Ybaf.prog w = .ok (.tuple #[.string ⟨#[]⟩, .bool false]) w := by kernel_rfl
theorem ta4_4 (x : Value) (w : World) : (Instr.typeAssert (.iface 4 x) 20 4 true).run Ybaf.prog w = .ok (.tuple #[x, .bool true]) w := by kernel_rfl
theorem ta22_22 (x : Value) (w : World) : (Instr.typeAssert (.iface 22 x) 20 22 true).run Ybaf.prog w = .ok (.tuple #[x, .bool true]) w := by kernel_rfl
theorem ta22_40 (x : Value) (w : World) : (Instr.typeAssert (.iface 22 x) 20 40 true).run Ybaf.prog w = .ok (.tuple #[.slice none 0 0, .bool false]) w := by kernel_rfl
theorem ta22_9 (x : Value) (w : World) : (Instr.typeAssert (.iface 22 x) 20 9 true).run Ybaf.prog w = .ok (.tuple #[.string ⟨#[]⟩, .bool false]) w := by kernel_rfl
theorem ta22_39 (x : Value) (w : World) : (Instr.typeAssert (.iface 22 x) 20 39 true).run Ybaf.prog w = .ok (.tuple #[.string ⟨#[]⟩, .bool false]) w := by kernel_rfl
theorem ta22_4 (x : Value) (w : World) : (Instr.typeAssert (.iface 22 x) 20 4 true).run Ybaf.prog w = .ok (.tuple #[.bool false, .bool false]) w := by kernel_rfl
theorem ta40_22 (x : Value) (w : World) : (Instr.typeAssert (.iface 40 x) 20 22 true).run Ybaf.prog w = .ok (.tuple #[.pointer none, .bool false]) w := by kernel_rfl
theorem ta40_40 (x : Value) (w : World) : (Instr.typeAssert (.iface 40 x) 20 40 true).run Ybaf.prog w = .ok (.tuple #[x, .bool true]) w := by kernel_rfl
theorem ta40_9 (x : Value) (w : World) : (Instr.typeAssert (.iface 40 x) 20 9 true).run Ybaf.prog w = .ok (.tuple #[.string ⟨#[]⟩, .bool false]) w := by kernel_rfl
theorem ta40_39 (x : Value) (w : World) : (Instr.typeAssert (.iface 40 x) 20 39 true).run Ybaf.prog w = .ok (.tuple #[.string ⟨#[]⟩, .bool false]) w := by kernel_rfl
theorem ta40_4 (x : Value) (w : World) : (Instr.typeAssert (.iface 40 x) 20 4 true).run Ybaf.prog w = .ok (.tuple #[.bool false, .bool false]) w := by kernel_rfl
theorem ta9_22 (x : Value) (w : World) : (Instr.typeAssert (.iface 9 x) 20 22 true).run Ybaf.prog w = .ok (.tuple #[.pointer none, .bool false]) w := by kernel_rfl
theorem ta9_40 (x : Value) (w : World) : (Instr.typeAssert (.iface 9 x) 20 40 true).run Ybaf.prog w = .ok (.tuple #[.slice none 0 0, .bool false]) w := by kernel_rfl
theorem ta9_9 (x : Value) (w : World) : (Instr.typeAssert (.iface 9 x) 20 9 true).run Ybaf.prog w = .ok (.tuple #[x, .bool true]) w := by kernel_rfl
theorem ta9_39 (x : Value) (w : World) : (Instr.typeAssert (.iface 9 x) 20 39 true).run Ybaf.prog w = .ok (.tuple #[.string ⟨#[]⟩, .bool false]) w := by kernel_rfl
theorem ta9_4 (x : Value) (w : World) : (Instr.typeAssert (.iface 9 x) 20 4 true).run Ybaf.prog w = .ok (.tuple #[.bool false, .bool false]) w := by kernel_rfl
theorem ta0_22 (w : World) : (Instr.typeAssert .nilIface 20 22 true).run Ybaf.prog w = .ok (.tuple #[.pointer none, .bool false]) w := by kernel_rfl
theorem ta0_40 (w : World) : (Instr.typeAssert .nilIface 20 40 true).run Ybaf.prog w = .ok (.tuple #[.slice none 0 0, .bool false]) w := by kernel_rfl
theorem ta0_9 (w : World) : (Instr.typeAssert .nilIface 20 9 true).run Ybaf.prog w = .ok (.tuple #[.string ⟨#[]⟩, .bool false]) w := by kernel_rfl
theorem ta0_39 (w : World) : (Instr.typeAssert .nilIface 20 39 true).run Ybaf.prog w = .ok (.tuple #[.string ⟨#[]⟩, .bool false]) w := by kernel_rfl
theorem ta0_4 (w : World) : (Instr.typeAssert .nilIface 20 4 true).run Ybaf.prog w = .ok (.tuple #[.bool false, .bool false]) w := by kernel_rfl
attribute [local go_sem] ta39_22 ta39_40 ta39_9 ta39_39 ta39_4 ta4_22 ta4_40 ta4_9 ta4_39 ta4_4 ta22_22 ta22_40 ta22_9 ta22_39 ta22_4 ta40_22 ta40_40 ta40_9 ta40_39 ta40_4 ta9_22 ta9_40 ta9_9 ta9_39 ta9_4 ta0_22 ta0_40 ta0_9 ta0_39 ta0_4

set_option maxHeartbeats 400000 in
theorem describe_num (s : ByteArray) (w : World) : Calls Ybaf.prog 10 #[.iface 39 (.string s)] w fun e w' => (∃ d, e = .returned (.string d)) ∧ w' = w := by
  go_enter Ybaf.func10, Ybaf.ntmps10
  go_wp2
  go_ret
  exact ⟨⟨_, rfl⟩, rfl⟩

set_option maxHeartbeats 400000 in
theorem describe_bool (b : Bool) (w : World) : Calls Ybaf.prog 10 #[.iface 4 (.bool b)] w fun e w' => (∃ d, e = .returned (.string d)) ∧ w' = w := by
  go_enter Ybaf.func10, Ybaf.ntmps10
  go_wp2
  go_ret
  exact ⟨⟨_, rfl⟩, rfl⟩

set_option maxHeartbeats 400000 in
theorem describe_nil (w : World) : Calls Ybaf.prog 10 #[.nilIface] w fun e w' => (∃ d, e = .returned (.string d)) ∧ w' = w := by
  go_enter Ybaf.func10, Ybaf.ntmps10
  go_wp2
  go_ret
  exact ⟨⟨_, rfl⟩, rfl⟩

set_option maxHeartbeats 400000 in
theorem describe_obj (a : Addr) (w : World) : Calls Ybaf.prog 10 #[.iface 22 (.pointer (some a))] w fun e w' => (∃ d, e = .returned (.string d)) ∧ w' = w := by
  go_enter Ybaf.func10, Ybaf.ntmps10
  go_wp2
  go_ret
  exact ⟨⟨_, rfl⟩, rfl⟩

set_option maxHeartbeats 400000 in
theorem describe_list (a : Option Addr) (n c : Nat) (w : World) : Calls Ybaf.prog 10 #[.iface 40 (.slice a n c)] w fun e w' => (∃ d, e = .returned (.string d)) ∧ w' = w := by
  go_enter Ybaf.func10, Ybaf.ntmps10
  go_wp2
  go_ret
  exact ⟨⟨_, rfl⟩, rfl⟩

end Go.Proofs.YbulkckhyFmt
