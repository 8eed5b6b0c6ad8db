/-
  fmt.Errorf over its stop; checkPayloadSize; count.
-/
import Derived.Test.YbulkdlruFmtC
import Derived.Stop.CallBack
import Derived.Stop.IfaceNil
import GoSem.ClaimData
namespace Go.Proofs.YbulkdlruFmt
open Go.RowKit Go.Extern.Stop Go.Stop Go.Extern
set_option linter.unusedVariables false

theorem call44 (args : Array Value) (w : World) : (callFunc 44 args).run Ybaf.prog w = ((FmtStop.errorf #[9, 159] #[88] args).run Ybaf.prog w).andThen fun v w' => .ok (.value v) w' :=
  run_callFunc_extern Ybaf.func44 (by kernel_rfl) (by kernel_rfl) (by kernel_rfl) (by kernel_rfl) args w
theorem fguard (name : String) (w : World) : (FmtStop.guard name).run Ybaf.prog w = .ok () w := by kernel_rfl
def shape3 : List UInt8 := [5, 3, 0, 0, 0, 0, 0, 0, 0, 105, 110, 116]
theorem op3 (name : String) (x : Int) (w : World) : (FmtStop.operand name true 100 false (.iface 3 (.int .i64 x))).run Ybaf.prog w = .ok (shape3, Go.Extern.Stop.digits 8 (x % 2 ^ 64).toNat) w := by kernel_rfl
def shape22 : List UInt8 := [9, 6, 0, 0, 0, 0, 0, 0, 0, 117, 105, 110, 116, 54, 52]
theorem op22 (name : String) (x : Int) (w : World) : (FmtStop.operand name true 100 false (.iface 22 (.int .u64 x))).run Ybaf.prog w = .ok (shape22, Go.Extern.Stop.digits 8 (x % 2 ^ 64).toNat) w := by kernel_rfl
def shape5 : List UInt8 := [6, 5, 0, 0, 0, 0, 0, 0, 0, 117, 105, 110, 116, 56]
theorem op5 (name : String) (x : Int) (w : World) : (FmtStop.operand name true 100 false (.iface 5 (.int .u8 x))).run Ybaf.prog w = .ok (shape5, Go.Extern.Stop.digits 8 (x % 2 ^ 64).toNat) w := by kernel_rfl
def shape9 : List UInt8 := [12, 6, 0, 0, 0, 0, 0, 0, 0, 115, 116, 114, 105, 110, 103]
theorem op9 (name : String) (x : ByteArray) (w : World) : (FmtStop.operand name true 115 false (.iface 9 (.string x))).run Ybaf.prog w = .ok (shape9, FmtStop.pack x.data.toList) w := by kernel_rfl
theorem ptr118 (w : World) : (FmtStop.ptrTo "errors.errorString").run Ybaf.prog w = .ok 118 w := by kernel_rfl
theorem elem118 (w : World) : (elemOf 118).run Ybaf.prog w = .ok 120 w := by kernel_rfl
attribute [local go_sem] call44 fguard ptr118 elem118 op3 op22 op5 op9

/-- A new error. -/
def ErrNew (w : World) (e : Ending) (w' : World) : Prop := ∃ a : Addr, e = .returned (.iface 118 (.pointer (some a))) ∧ w.heap.size ≤ a.block ∧ Below w.heap.size w w' ∧ ErrB w' a

set_option maxRecDepth 100000 in
set_option maxHeartbeats 1000000 in
theorem errorf1 (F : Interp) (fm : ByteArray) (x : Int) (B : Nat) (w : World) (hF : F.answers w.tape) (hp : ∀ w, (FmtDoors.printed fm 1).run Ybaf.prog w = .ok [(0, 100, false)] w) (hc : w.cell? ⟨B, 0, none⟩ = some (.iface 5 (.int .u8 x))) :
    Calls Ybaf.prog 24 #[.string fm, .slice (some ⟨B, 0, none⟩) 1 1] w (ErrNew w) := by
  have hF' := hF
  unfold Interp.answers at hF'
  clear hF
  go_enter Ybaf.func24, Ybaf.ntmps24
  go_wp2
  go_ret
  exact ⟨_, rfl, Nat.le_refl _, ((Below.refl _ _).alloc (Nat.le_refl _) _).drew, _, heap_alloc_new w _⟩
set_option maxRecDepth 100000 in
set_option maxHeartbeats 1000000 in
theorem errorf2 (F : Interp) (fm : ByteArray) (x y : Int) (B : Nat) (w : World) (hF : F.answers w.tape) (hp : ∀ w, (FmtDoors.printed fm 2).run Ybaf.prog w = .ok [(0, 100, false), (1, 100, false)] w) (hc : w.cell? ⟨B, 0, none⟩ = some (.iface 22 (.int .u64 x))) (hc1 : w.cell? ⟨B, 1, none⟩ = some (.iface 3 (.int .i64 y))) :
    Calls Ybaf.prog 24 #[.string fm, .slice (some ⟨B, 0, none⟩) 2 2] w (ErrNew w) := by
  have hF' := hF
  unfold Interp.answers at hF'
  clear hF
  go_enter Ybaf.func24, Ybaf.ntmps24
  go_wp2
  go_ret
  exact ⟨_, rfl, Nat.le_refl _, ((Below.refl _ _).alloc (Nat.le_refl _) _).drew, _, heap_alloc_new w _⟩
set_option maxRecDepth 100000 in
set_option maxHeartbeats 1000000 in
theorem errorf3 (F : Interp) (fm x2 : ByteArray) (x y : Int) (B : Nat) (w : World) (hF : F.answers w.tape) (hp : ∀ w, (FmtDoors.printed fm 3).run Ybaf.prog w = .ok [(0, 100, false), (1, 115, false), (2, 100, false)] w) (hc : w.cell? ⟨B, 0, none⟩ = some (.iface 3 (.int .i64 x))) (hc1 : w.cell? ⟨B, 1, none⟩ = some (.iface 9 (.string x2))) (hc2 : w.cell? ⟨B, 2, none⟩ = some (.iface 3 (.int .i64 y))) :
    Calls Ybaf.prog 24 #[.string fm, .slice (some ⟨B, 0, none⟩) 3 3] w (ErrNew w) := by
  have hF' := hF
  unfold Interp.answers at hF'
  clear hF
  go_enter Ybaf.func24, Ybaf.ntmps24
  go_wp2
  go_ret
  exact ⟨_, rfl, Nat.le_refl _, ((Below.refl _ _).alloc (Nat.le_refl _) _).drew, _, heap_alloc_new w _⟩

set_option maxHeartbeats 1000000 in
theorem check_ok (n : Nat) (w : World) (h : (n : Int) ≤ 4210688) : Calls Ybaf.prog 40 #[.int .u64 (n : Int)] w fun e w' => e = .returned .nilIface ∧ w' = w := by
  have i1 : ¬ (4210688 : Int) < (n : Int) := by omega
  go_enter Ybaf.func40, Ybaf.ntmps40
  go_wp2
  go_ret
  exact ⟨rfl, rfl⟩
set_option maxRecDepth 100000 in
set_option maxHeartbeats 1000000 in
theorem check_bad (F : Interp) (n : Nat) (w : World) (hF : F.answers w.tape) (h : (4210688 : Int) < (n : Int)) : Calls Ybaf.prog 40 #[.int .u64 (n : Int)] w (ErrNew w) := by
  go_enter Ybaf.func40, Ybaf.ntmps40
  go_wp2_with fail
  refine (errorf2 F _ (n : Int) 4210688 w.heap.size _ (by exact hF) ?_ ?_ ?_).mono ?_
  · intro _; kernel_rfl
  · simp [go_sem]
  · simp [go_sem]
  rintro e w' ⟨a, rfl, ha, hb, hc⟩
  go_wp2
  go_ret
  exact ⟨a, rfl, by simp at ha; omega, ((Below.refl w.heap.size w).alloc (Nat.le_refl _) _).trans (hb.mono (by simp)), hc⟩

/-- The count read: at most 'limit', else another error. -/
def cnt (f : Nat → Nat) (N limit : Nat) (s : St) : Nat := if num f N 2 s ≤ limit then num f N 2 s else 0
def cntS (f : Nat → Nat) (N limit : Nat) (s : St) : St := if num f N 2 s ≤ limit then tk N 2 s else oth (tk N 2 s)

set_option maxRecDepth 100000 in
set_option maxHeartbeats 1000000 in
theorem count_any (F : Interp) (I T N cap limit : Nat) (f : Nat → Nat) (ee : Addr) (what : ByteArray) (s : St) (W : World) (hF : F.answers W.tape) (hE : Env T N cap f ee W) (h : Rd I T N cap ee s W) (hI : I ≠ T) (hl : limit ≤ 256) :
    Calls Ybaf.prog 18 #[.pointer (some ⟨I, 0, none⟩), .int .i64 (limit : Int), .string what] W fun e w' => e = .returned (.int .i64 (cnt f N limit s : Nat)) ∧ Rd I T N cap ee (cntS f N limit s) w' ∧ Same [I] W w' := by
  have hu := u16_any I T N cap f ee s W hE h hI
  have hlt := num_lt f N 2 s hE.hf
  obtain ⟨x, hx⟩ : ∃ x, num f N 2 s = x := ⟨_, rfl⟩
  unfold cnt cntS
  rw [hx] at hu hlt ⊢
  have i1 : (x : Int) < 65536 := by omega
  have i2 : IntKind.i64.wrap (x : Int) = (x : Int) := IntWalk.i64_in _ (by omega)
  by_cases hle : x ≤ limit
  · rw [if_pos hle, if_pos hle]
    have i3 : ¬ (limit : Int) < (x : Int) := by omega
    have i4 : decide ((limit : Int) < (x : Int)) = false := decide_eq_false i3
    clear hlt hx hl hle i1 hF hE h hI
    go_enter Ybaf.func18, Ybaf.ntmps18
    go_wp2_with (go_at_call 36; refine hu.mono ?_; rintro e w1 ⟨rfl, h1, hs1⟩)
    go_ret
    exact ⟨rfl, h1, hs1⟩
  · rw [if_neg hle, if_neg hle]
    have i3 : (limit : Int) < (x : Int) := by omega
    clear hlt hx hl hle i1
    go_enter Ybaf.func18, Ybaf.ntmps18
    go_wp2_with (go_at_call 36; refine hu.mono ?_; rintro e w1 ⟨rfl, h1, hs1⟩)
    refine (errorf3 F _ what (x : Int) (limit : Int) w1.heap.size _ (by rw [show (World.alloc w1 _).tape = w1.tape from rfl, hs1.tape]; exact hF) ?_ ?_ ?_ ?_).mono ?_
    · intro _; kernel_rfl
    · simp [go_sem]
    · simp [go_sem]
    · simp [go_sem]
    rintro e w2 ⟨a, rfl, ha, hb, hc⟩
    have hs2 : Same [] w1 w2 := (Same.alloc _ _ _).trans (Below.same hb _ (Nat.le_refl _))
    have hfl := fail_oth I T N cap ee a (tk N 2 s) w2 (h1.same hs2 (by simp)) (fun e => by have := hE.lt; have := hs1.size; have := congrArg Addr.block e; simp at ha; omega) hc
    go_wp2_with (go_at_call 23; refine hfl.mono ?_; rintro e w3 ⟨rfl, h3, hs3⟩)
    go_ret
    exact ⟨rfl, h3, (hs1.trans (hs2.more (by simp))).trans hs3⟩
end Go.Proofs.YbulkdlruFmt
