/-
  A reader with an error set ahead: nothing is read. errors.New.
-/
import Derived.Test.YbulkdlruFmtAk
namespace Go.Proofs.YbulkdlruFmt
open Go.RowKit Go.Shelf
set_option linter.unusedVariables false
set_option linter.unusedSimpArgs false

theorem new_any (s : ByteArray) (W : World) : Calls Ybaf.prog 9 #[.string s] W fun e w' => e = .returned (.iface 118 (.pointer (some ⟨W.heap.size, 0, none⟩))) ∧ w' = W.alloc (.cells #[.string s] 120) := by
  go_enter Ybaf.func9, Ybaf.ntmps9
  go_wp2
  go_ret
  exact ⟨rfl, rfl⟩

def Pre (I : Nat) (rv : Value) (a : Addr) (W : World) : Prop := W.heap[I]? = some (.cells #[rv, .iface 118 (.pointer (some a))] 90 (0, 0))
theorem take_pre (I : Nat) (rv : Value) (a : Addr) (n : Int) (W : World) (h : Pre I rv a W) : Calls Ybaf.prog 21 #[.pointer (some ⟨I, 0, none⟩), .int .i64 n] W fun e w' => e = .returned (.slice none 0 0) ∧ w' = W := by
  obtain ⟨c0, c1, cf⟩ := icells h
  clear h
  go_enter Ybaf.func21, Ybaf.ntmps21
  go_wp2
  go_ret
  exact ⟨rfl, rfl⟩
theorem u16_pre (I : Nat) (rv : Value) (a : Addr) (W : World) (h : Pre I rv a W) : Calls Ybaf.prog 36 #[.pointer (some ⟨I, 0, none⟩)] W fun e w' => e = .returned (.int .u16 0) ∧ w' = W := by
  have ht := take_pre I rv a 2 W h
  clear h
  go_enter Ybaf.func36, Ybaf.ntmps36
  go_wp2_with (go_at_call 21; refine ht.mono ?_; rintro e w1 ⟨rfl, hw⟩; subst w1)
  go_ret
  exact ⟨rfl, rfl⟩
theorem count_pre (I limit : Nat) (rv : Value) (a : Addr) (what : ByteArray) (W : World) (h : Pre I rv a W) : Calls Ybaf.prog 18 #[.pointer (some ⟨I, 0, none⟩), .int .i64 (limit : Int), .string what] W fun e w' => e = .returned (.int .i64 0) ∧ w' = W := by
  have hu := u16_pre I rv a W h
  have i3 : ¬ (limit : Int) < 0 := by omega
  clear h
  go_enter Ybaf.func18, Ybaf.ntmps18
  go_wp2_with (go_at_call 36; refine hu.mono ?_; rintro e w1 ⟨rfl, hw⟩; subst w1)
  go_ret
  exact ⟨rfl, rfl⟩
set_option maxRecDepth 100000 in
set_option maxHeartbeats 2000000 in
theorem reply_pre (I R : Nat) (rv : Value) (a : Addr) (W : World) (h : Pre I rv a W) : Calls Ybaf.prog 10 #[.pointer (some ⟨R, 0, none⟩), .pointer (some ⟨I, 0, none⟩)] W fun e w' => e = .returned (.tuple #[]) ∧ w' = W := by
  have h1 := count_pre I 256 rv a { data := #[98, 108, 111, 99, 107, 115] } W h
  have h2 := count_pre I 2 rv a { data := #[102, 105, 110, 97, 108, 105, 122, 97, 116, 105, 111, 110, 115] } W h
  have ht := take_pre I rv a 1 W h
  have hq := fun (w : World) => (show (binOp .eql 33 (.slice none 0 0) (.slice none 0 0)).run Ybaf.prog w = .ok (.bool true) w by kernel_rfl)
  clear h
  go_enter Ybaf.func10, Ybaf.ntmps10
  go_upto_block 0 with (go_at_call 18; refine h1.mono ?_; rintro e w1 ⟨rfl, hw⟩; subst w1)
  go_wp2
  go_loopw [9] (fun i wr => i = .int .i64 0 ∧ wr = W) (fun i _ => 0)
  case atStart => exact ⟨rfl, rfl⟩
  case round =>
    obtain ⟨rfl, hw⟩ := hrel
    subst wr
    go_upto_block 2 with (go_at_call 18; refine h2.mono ?_; rintro e w1 ⟨rfl, hw⟩; subst w1)
    go_wp2
    go_loopw [25] (fun i wr => i = .int .i64 0 ∧ wr = W) (fun i _ => 0)
    case atStart => exact ⟨rfl, rfl⟩
    case round =>
      obtain ⟨rfl, hw⟩ := hrel
      subst wr
      go_wp2_with (go_at_call 21; refine ht.mono ?_; rintro e w1 ⟨rfl, hw⟩; subst w1)
      go_end0
      exact ⟨rfl, rfl⟩
end Go.Proofs.YbulkdlruFmt
