/-
  THE SNAPSHOT: (NodeData).snapshot, (Snapshot).check (over fmt's stop), (Trace).elementLen.
-/
import Derived.Test.YbulkdlqeFmtG
import Derived.Stop.CallBack
import Derived.Stop.IfaceNil
import GoSem.ClaimData
namespace Go.Proofs.YbulkdlqeFmt
open Go.RowKit Go.Extern.Stop Go.Stop Go.Extern

theorem call35 (args : Array Value) (w : World) : (callFunc 35 args).run Ybaf.prog w = ((FmtStop.errorf #[9, 87] #[39] args).run Ybaf.prog w).andThen fun v w' => .ok (.value v) w' :=
  run_callFunc_extern Ybaf.func35 (by kernel_rfl) (by kernel_rfl) (by kernel_rfl) (by kernel_rfl) args w
theorem fguard (name : String) (w : World) : (FmtStop.guard name).run Ybaf.prog w = .ok () w := by kernel_rfl
def shape24 : List UInt8 := [8, 6, 0, 0, 0, 0, 0, 0, 0, 117, 105, 110, 116, 51, 50]
theorem op24 (name : String) (x : Int) (w : World) : (FmtStop.operand name true 120 true (.iface 24 (.int .u32 x))).run Ybaf.prog w = .ok (shape24, Go.Extern.Stop.digits 8 (x % 2 ^ 64).toNat) w := by kernel_rfl
def shape3 : List UInt8 := [5, 3, 0, 0, 0, 0, 0, 0, 0, 105, 110, 116]
theorem op3 (name : String) (x : Int) (w : World) : (FmtStop.operand name true 100 false (.iface 3 (.int .i64 x))).run Ybaf.prog w = .ok (shape3, Go.Extern.Stop.digits 8 (x % 2 ^ 64).toNat) w := by kernel_rfl
theorem ptr65 (w : World) : (FmtStop.ptrTo "errors.errorString").run Ybaf.prog w = .ok 65 w := by kernel_rfl
theorem elem65 (w : World) : (elemOf 65).run Ybaf.prog w = .ok 67 w := by kernel_rfl
attribute [local go_sem] call35 fguard ptr65 elem65 op24 op3

set_option maxRecDepth 100000 in
set_option maxHeartbeats 1000000 in
/-- fmt.Errorf over one uint32 under '%#x': a new error; nothing old has turned. -/
theorem errorf1 (F : Interp) (fm : ByteArray) (x : Int) (B : Nat) (w : World) (hF : F.answers w.tape) (hp : ∀ w, (FmtDoors.printed fm 1).run Ybaf.prog w = .ok [(0, 120, true)] w) (hc : w.cell? ⟨B, 0, none⟩ = some (.iface 24 (.int .u32 x))) :
    Calls Ybaf.prog 32 #[.string fm, .slice (some ⟨B, 0, none⟩) 1 1] w fun e w' => e = .returned (.iface 65 (.pointer (some ⟨w.heap.size, 0, none⟩))) ∧ Below w.heap.size w w' := by
  have hF' := hF
  unfold Interp.answers at hF'
  clear hF
  go_enter Ybaf.func32, Ybaf.ntmps32
  go_wp2
  go_ret
  exact ⟨rfl, ((Below.refl _ _).alloc (Nat.le_refl _) _).drew⟩

set_option maxRecDepth 100000 in
set_option maxHeartbeats 1000000 in
/-- fmt.Errorf over two ints under '%d'. -/
theorem errorf2 (F : Interp) (fm : ByteArray) (x y : Int) (B : Nat) (w : World) (hF : F.answers w.tape) (hp : ∀ w, (FmtDoors.printed fm 2).run Ybaf.prog w = .ok [(0, 100, false), (1, 100, false)] w) (hc : w.cell? ⟨B, 0, none⟩ = some (.iface 3 (.int .i64 x))) (hc1 : w.cell? ⟨B, 1, none⟩ = some (.iface 3 (.int .i64 y))) :
    Calls Ybaf.prog 32 #[.string fm, .slice (some ⟨B, 0, none⟩) 2 2] w fun e w' => e = .returned (.iface 65 (.pointer (some ⟨w.heap.size, 0, none⟩))) ∧ Below w.heap.size w w' := by
  have hF' := hF
  unfold Interp.answers at hF'
  clear hF
  go_enter Ybaf.func32, Ybaf.ntmps32
  go_wp2
  go_ret
  exact ⟨rfl, ((Below.refl _ _).alloc (Nat.le_refl _) _).drew⟩

/-- A snapshot that fits its format. -/
def SnOk (sch dl : Nat) : Prop := sch < 16777216 ∧ dl % 4 = 0 ∧ dl ≤ 1020
/-- An error is handed back. -/
def ErrSaid (w : World) (e : Ending) (w' : World) : Prop := ∃ a, e = .returned (.iface 65 (.pointer (some a))) ∧ Below w.heap.size w w'

set_option maxRecDepth 100000 in
set_option maxHeartbeats 1000000 in
theorem snCheck_ok (sch dl dc : Nat) (ad : Option Addr) (w : World) (h : SnOk sch dl) :
    Calls Ybaf.prog 26 #[.agg #[.int .u32 sch, .slice ad dl dc]] w fun e w' => e = .returned .nilIface ∧ Below w.heap.size w w' := by
  obtain ⟨h1, h2, h3⟩ := h
  have hs' : decide ((16777216 : Int) ≤ (sch : Int)) = false := decide_eq_false (by omega)
  have hm : ((dl : Int) % 4 != 0) = false := by simp; omega
  have hd : (dl : Int) ≤ 1020 := by omega
  clear h1 h2 h3
  go_enter Ybaf.func26, Ybaf.ntmps26
  go_wp2
  go_ret
  exact ⟨rfl, (Below.refl _ _).alloc (Nat.le_refl _) _⟩

set_option maxRecDepth 100000 in
set_option maxHeartbeats 1000000 in
theorem snCheck_schema (F : Interp) (sch dl dc : Nat) (ad : Option Addr) (w : World) (hF : F.answers w.tape) (hs' : (16777216 : Int) ≤ (sch : Int)) :
    Calls Ybaf.prog 26 #[.agg #[.int .u32 sch, .slice ad dl dc]] w (ErrSaid w) := by
  go_enter Ybaf.func26, Ybaf.ntmps26
  go_wp2_with fail
  refine (errorf1 F _ (sch : Int) (w.heap.size + 1) _ (by exact hF) ?_ ?_).mono ?_
  · intro _; kernel_rfl
  · simp [go_sem]
  rintro e w' ⟨rfl, hb⟩
  go_wp2
  go_ret
  exact ⟨_, rfl, (((Below.refl w.heap.size w).alloc (Nat.le_refl _) _).alloc (by simp) _).trans (hb.mono (by simp; omega))⟩

set_option maxRecDepth 100000 in
set_option maxHeartbeats 1000000 in
theorem snCheck_len (F : Interp) (sch dl dc : Nat) (ad : Option Addr) (w : World) (hF : F.answers w.tape) (hs' : decide ((16777216 : Int) ≤ (sch : Int)) = false) (hlm : dl ≤ 4000000) (hbad : ¬ (dl % 4 = 0 ∧ dl ≤ 1020)) :
    Calls Ybaf.prog 26 #[.agg #[.int .u32 sch, .slice ad dl dc]] w (ErrSaid w) := by
  have hl : (dl : Int) ≤ 4000000 := by omega
  clear hlm
  by_cases h4 : dl % 4 = 0
  · have hm : ((dl : Int) % 4 != 0) = false := by simp; omega
    have hd : (1020 : Int) < (dl : Int) := by omega
    clear hbad h4
    go_enter Ybaf.func26, Ybaf.ntmps26
    go_wp2_with fail
    refine (errorf2 F _ (dl : Int) 255 (w.heap.size + 1) _ (by exact hF) ?_ ?_ ?_).mono ?_
    · intro _; kernel_rfl
    · simp [go_sem]
    · simp [go_sem]
    rintro e w' ⟨rfl, hb⟩
    go_wp2
    go_ret
    exact ⟨_, rfl, (((Below.refl w.heap.size w).alloc (Nat.le_refl _) _).alloc (by simp) _).trans (hb.mono (by simp; omega))⟩
  · have hm : ((dl : Int) % 4 != 0) = true := by rw [bne_iff_ne]; omega
    clear hbad h4
    go_enter Ybaf.func26, Ybaf.ntmps26
    go_wp2_with fail
    refine (errorf2 F _ (dl : Int) 255 (w.heap.size + 1) _ (by exact hF) ?_ ?_ ?_).mono ?_
    · intro _; kernel_rfl
    · simp [go_sem]
    · simp [go_sem]
    rintro e w' ⟨rfl, hb⟩
    go_wp2
    go_ret
    exact ⟨_, rfl, (((Below.refl w.heap.size w).alloc (Nat.le_refl _) _).alloc (by simp) _).trans (hb.mono (by simp; omega))⟩

theorem snCheck_bad (F : Interp) (sch dl dc : Nat) (ad : Option Addr) (w : World) (hF : F.answers w.tape) (hlm : dl ≤ 4000000) (h : ¬ SnOk sch dl) :
    Calls Ybaf.prog 26 #[.agg #[.int .u32 sch, .slice ad dl dc]] w (ErrSaid w) := by
  by_cases hs : sch < 16777216
  · exact snCheck_len F sch dl dc ad w hF (decide_eq_false (by omega)) hlm (fun hh => h ⟨hs, hh⟩)
  · exact snCheck_schema F sch dl dc ad w hF (by omega)

/-- THE NODE's SNAPSHOT IN MEMORY: none (the schema of a node without state, no data), or a block. -/
def SnapAt (w : World) (sp : Option Addr) (sch dl : Nat) (ad : Option Addr) (dc : Nat) : Prop :=
  (sp = none ∧ sch = 16777215 ∧ dl = 0 ∧ ad = none ∧ dc = 0) ∨ ∃ B, sp = some ⟨B, 0, none⟩ ∧ w.cell? ⟨B, 0, none⟩ = some (.int .u32 (sch : Int)) ∧ w.cell? ⟨B, 1, none⟩ = some (.slice ad dl dc)
theorem SnapAt.below {w w' : World} {sp : Option Addr} {sch dl : Nat} {ad : Option Addr} {dc B : Nat} (h : SnapAt w sp sch dl ad dc) (hb : Below B w w') (hB : w.heap.size ≤ B) : SnapAt w' sp sch dl ad dc := by
  rcases h with h | ⟨b, rfl, h0, h1⟩
  · exact .inl h
  · have := World.block_lt_of_cell? w _ h0
    exact .inr ⟨b, rfl, (hb.cell (p := ⟨b, 0, none⟩) (by simp at this ⊢; omega)).trans h0, (hb.cell (p := ⟨b, 1, none⟩) (by simp at this ⊢; omega)).trans h1⟩

set_option maxHeartbeats 1000000 in
theorem snapshot_any (mv : Value) (sp : Option Addr) (sch dl dc : Nat) (ad : Option Addr) (w : World) (h : SnapAt w sp sch dl ad dc) :
    Calls Ybaf.prog 25 #[.agg #[mv, .pointer sp]] w fun e w' => e = .returned (.agg #[.int .u32 (sch : Int), .slice ad dl dc]) ∧ Below w.heap.size w w' := by
  rcases h with ⟨rfl, rfl, rfl, rfl, rfl⟩ | ⟨B, rfl, h0, h1⟩
  · go_enter Ybaf.func25, Ybaf.ntmps25
    go_wp2
    refine bodyPost_ret (v := .agg #[.int .u32 ((16777215 : Nat) : Int), .slice none 0 0]) (by simp [results, Ybaf.results25, go_sem]) rfl ⟨rfl, ?_⟩
    exact ((Below.refl _ _).alloc (Nat.le_refl _) _).alloc (by simp) _
  · have hB : B < w.heap.size := World.block_lt_of_cell? w _ h0
    have hB1 : B < w.heap.size + 1 := by omega
    go_enter Ybaf.func25, Ybaf.ntmps25
    go_wp2
    refine bodyPost_ret (v := .agg #[.int .u32 (sch : Int), .slice ad dl dc]) (by simp [results, Ybaf.results25, go_sem]) rfl ⟨rfl, ?_⟩
    exact ((Below.refl _ _).alloc (Nat.le_refl _) _).alloc (by simp) _

/-- The length of the element that d gives. -/
def elen (nl tt dl : Nat) : Nat := if bt tt 22 then nl * 4 + 4 + dl else nl * 4

set_option maxRecDepth 100000 in
set_option maxHeartbeats 1000000 in
theorem elen_plain (nl fl rm tt F fo c : Nat) (ea : Nat → Addr) (wr mv : Value) (sp : Option Addr) (w : World) (hE : Env w F fo c ea) (_hnl : nl < 256) (htt : tt < 16777216) (hs : bt tt 22 = false) :
    Calls Ybaf.prog 16 #[.agg #[.int .u8 nl, .int .u8 fl, .int .u8 rm, .int .u32 tt, wr], .agg #[mv, .pointer sp]] w fun e w' => e = .returned (.tuple #[.int .i64 ((nl * 4 : Nat) : Int), .nilIface]) ∧ Below w.heap.size w w' := by
  have hE1 := (hE.alloc (.cells #[.int .u8 nl, .int .u8 fl, .int .u8 rm, .int .u32 tt, wr] 57)).alloc (.cells #[mv, .pointer sp] 34)
  have hB1 : Below w.heap.size w ((w.alloc (.cells #[.int .u8 nl, .int .u8 fl, .int .u8 rm, .int .u32 tt, wr] 57)).alloc (.cells #[mv, .pointer sp] 34)) := ((Below.refl _ _).alloc (Nat.le_refl _) _).alloc (by simp) _
  have ht2 : tt < 4294967296 := by omega
  have HT : Hid (tt < 4294967296) := ht2
  clear htt ht2
  go_enter Ybaf.func16, Ybaf.ntmps16
  go_wp2_with fail
  refine (thas22 nl fl rm tt F fo c ea wr _ hE1 HT.out false hs).mono ?_
  rintro e w' ⟨rfl, hb, hE2⟩
  clear hE1 hE2 hE
  go_wp2
  go_ret2
  exact ⟨ret_iv (by omega), hB1.trans (hb.mono (by simp; omega))⟩

set_option maxRecDepth 100000 in
set_option maxHeartbeats 1000000 in
theorem elen_snap (nl fl rm tt F fo c sch dl dc : Nat) (ad : Option Addr) (ea : Nat → Addr) (wr mv : Value) (sp : Option Addr) (w : World) (hE : Env w F fo c ea) (_hnl : nl < 256) (htt : tt < 16777216) (hs : bt tt 22 = true)
    (hS : SnapAt w sp sch dl ad dc) (hok : SnOk sch dl) :
    Calls Ybaf.prog 16 #[.agg #[.int .u8 nl, .int .u8 fl, .int .u8 rm, .int .u32 tt, wr], .agg #[mv, .pointer sp]] w fun e w' => e = .returned (.tuple #[.int .i64 ((nl * 4 + 4 + dl : Nat) : Int), .nilIface]) ∧ Below w.heap.size w w' := by
  have hE1 := (hE.alloc (.cells #[.int .u8 nl, .int .u8 fl, .int .u8 rm, .int .u32 tt, wr] 57)).alloc (.cells #[mv, .pointer sp] 34)
  have hB1 : Below w.heap.size w ((w.alloc (.cells #[.int .u8 nl, .int .u8 fl, .int .u8 rm, .int .u32 tt, wr] 57)).alloc (.cells #[mv, .pointer sp] 34)) := ((Below.refl _ _).alloc (Nat.le_refl _) _).alloc (by simp) _
  have hdl : (dl : Int) ≤ 1020 := by have := hok.2.2; omega
  have ht2 : tt < 4294967296 := by omega
  have HT : Hid (tt < 4294967296) := ht2
  clear htt ht2
  go_enter Ybaf.func16, Ybaf.ntmps16
  go_wp2_with fail
  refine (thas22 nl fl rm tt F fo c ea wr _ hE1 HT.out true hs).mono ?_
  rintro e w1 ⟨rfl, hb, hE2⟩
  have hB2 : Below w.heap.size w w1 := hB1.trans (hb.mono (by simp; omega))
  have q0 : w1.cell? ⟨w.heap.size + 1, 0, none⟩ = some mv := (hb.cell (p := ⟨w.heap.size + 1, 0, none⟩) (by simp)).trans (by simp [go_sem])
  have q1 : w1.cell? ⟨w.heap.size + 1, 1, none⟩ = some (.pointer sp) := (hb.cell (p := ⟨w.heap.size + 1, 1, none⟩) (by simp)).trans (by simp [go_sem])
  have hS1 := hS.below hB2 (Nat.le_refl _)
  clear hE1 hE2 hE hb hB1
  go_wp2_with fail
  refine (snapshot_any mv sp sch dl dc ad _ hS1).mono ?_
  rintro e w2 ⟨rfl, hb2⟩
  have hB3 := hB2.trans (hb2.mono hB2.size)
  clear hB2 hb2 q0 q1
  go_wp2_with fail
  refine (snCheck_ok sch dl dc ad _ hok).mono ?_
  rintro e w3 ⟨rfl, hb3⟩
  have q2 : w3.cell? ⟨w2.heap.size, 1, none⟩ = some (.slice ad dl dc) := (hb3.cell (p := ⟨w2.heap.size, 1, none⟩) (by simp)).trans (by simp [go_sem])
  go_wp2
  go_ret2
  exact ⟨ret_iv (by omega), (hB3.alloc hB3.size _).trans (hb3.mono (by have := hB3.size; simp; omega))⟩

set_option maxRecDepth 100000 in
set_option maxHeartbeats 1000000 in
theorem elen_bad (I : Interp) (nl fl rm tt F fo c sch dl dc : Nat) (ad : Option Addr) (ea : Nat → Addr) (wr mv : Value) (sp : Option Addr) (w : World) (hF : I.answers w.tape) (hE : Env w F fo c ea) (_hnl : nl < 256) (htt : tt < 16777216) (hs : bt tt 22 = true)
    (hS : SnapAt w sp sch dl ad dc) (hlm : dl ≤ 4000000) (hbad : ¬ SnOk sch dl) :
    Calls Ybaf.prog 16 #[.agg #[.int .u8 nl, .int .u8 fl, .int .u8 rm, .int .u32 tt, wr], .agg #[mv, .pointer sp]] w fun e w' => ∃ a, e = .returned (.tuple #[.int .i64 0, .iface 65 (.pointer (some a))]) ∧ Below w.heap.size w w' := by
  have hE1 := (hE.alloc (.cells #[.int .u8 nl, .int .u8 fl, .int .u8 rm, .int .u32 tt, wr] 57)).alloc (.cells #[mv, .pointer sp] 34)
  have hB1 : Below w.heap.size w ((w.alloc (.cells #[.int .u8 nl, .int .u8 fl, .int .u8 rm, .int .u32 tt, wr] 57)).alloc (.cells #[mv, .pointer sp] 34)) := ((Below.refl _ _).alloc (Nat.le_refl _) _).alloc (by simp) _
  have ht2 : tt < 4294967296 := by omega
  have HT : Hid (tt < 4294967296) := ht2
  have HL : Hid (dl ≤ 4000000) := hlm
  clear htt ht2 hlm
  go_enter Ybaf.func16, Ybaf.ntmps16
  go_wp2_with fail
  refine (thas22 nl fl rm tt F fo c ea wr _ hE1 HT.out true hs).mono ?_
  rintro e w1 ⟨rfl, hb, hE2⟩
  have hB2 : Below w.heap.size w w1 := hB1.trans (hb.mono (by simp; omega))
  have q0 : w1.cell? ⟨w.heap.size + 1, 0, none⟩ = some mv := (hb.cell (p := ⟨w.heap.size + 1, 0, none⟩) (by simp)).trans (by simp [go_sem])
  have q1 : w1.cell? ⟨w.heap.size + 1, 1, none⟩ = some (.pointer sp) := (hb.cell (p := ⟨w.heap.size + 1, 1, none⟩) (by simp)).trans (by simp [go_sem])
  have hS1 := hS.below hB2 (Nat.le_refl _)
  clear hE1 hE2 hE hb hB1
  go_wp2_with fail
  refine (snapshot_any mv sp sch dl dc ad _ hS1).mono ?_
  rintro e w2 ⟨rfl, hb2⟩
  have hB3 := hB2.trans (hb2.mono hB2.size)
  clear hB2 hb2 q0 q1
  have hF2 : I.answers w2.tape := by rw [hB3.tape]; exact hF
  go_wp2_with fail
  refine (snCheck_bad I sch dl dc ad _ (by exact hF2) HL.out hbad).mono ?_
  rintro e w3 ⟨a, rfl, hb3⟩
  go_wp2
  go_ret2
  exact ⟨a, rfl, (hB3.alloc hB3.size _).trans (hb3.mono (by have := hB3.size; simp; omega))⟩
end Go.Proofs.YbulkdlqeFmt
