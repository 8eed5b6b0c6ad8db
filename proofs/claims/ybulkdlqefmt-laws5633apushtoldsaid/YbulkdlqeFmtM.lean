/-
  (Option).Fill, the ways that end in an error.
-/
import Derived.Test.YbulkdlqeFmtL
namespace Go.Proofs.YbulkdlqeFmt
open Go.RowKit Go.Shelf

set_option maxHeartbeats 1000000 in
theorem fill_type (ty ns rs len cap : Nat) (a : Option Addr) (mv : Value) (sp : Option Addr) (w : World) (hty : ty ≠ 0) :
    Calls Ybaf.prog 8 #[.agg #[.int .u8 ty, .int .u16 ns, .slice a len cap, .int .u8 rs], .agg #[mv, .pointer sp]] w (ErrSaid w) := by
  have hd : ((ty : Int) != 0) = true := by simp; omega
  go_enter Ybaf.func8, Ybaf.ntmps8
  go_wp2_with (go_at_call 14; refine (new_any _ _).mono ?_; rintro e w' ⟨rfl, hb⟩)
  go_ret
  exact ⟨_, rfl, (((Below.refl w.heap.size w).alloc (Nat.le_refl _) _).alloc (by simp) _).trans (hb.mono (by simp; omega))⟩

set_option maxHeartbeats 1000000 in
theorem fill_short (ns rs F fo c len cap : Nat) (a : Option Addr) (ea : Nat → Addr) (mv : Value) (sp : Option Addr) (w : World) (hE : Env w F fo c ea) (hl : len < 8) :
    Calls Ybaf.prog 8 #[.agg #[.int .u8 0, .int .u16 ns, .slice a len cap, .int .u8 rs], .agg #[mv, .pointer sp]] w fun e w' => e = .returned (.iface 65 (.pointer (some (ea 0)))) ∧ Below w.heap.size w w' := by
  have hB0 : Below w.heap.size w ((w.alloc (.cells #[.int .u8 0, .int .u16 ns, .slice a len cap, .int .u8 rs] 37)).alloc (.cells #[mv, .pointer sp] 34)) := ((Below.refl _ _).alloc (Nat.le_refl _) _).alloc (by simp) _
  have hE0 := (hE.alloc (.cells #[.int .u8 0, .int .u16 ns, .slice a len cap, .int .u8 rs] 37)).alloc (.cells #[mv, .pointer sp] 34)
  go_enter Ybaf.func8, Ybaf.ntmps8
  go_wp2_with (go_at_call 15; refine (trace_short 0 ns rs F fo c len cap a ea _ hE0 (by omega) hl).mono ?_; rintro e w' ⟨rfl, hb⟩; simp only [zeroT, errV, Nat.reduceLT, if_true])
  go_ret
  exact ⟨rfl, (hB0.trans (hb.mono hB0.size)).alloc (Nat.le_trans hB0.size hb.size) _⟩

theorem tcode_lt {ty len : Nat} {f : Nat → Nat} (h : tcode ty len f ≠ 9) : tcode ty len f < 6 := by
  unfold tcode at h ⊢
  split
  · omega
  · split
    · omega
    · rename_i h1 h2
      rw [if_neg h1, if_neg h2] at h
      unfold scan at h ⊢
      rcases scan_code (bt (hTt f) 22) (hNl f * 4) f len (len - hStart ty f + 1) (hStart ty f) with e | e | e
      · exact absurd e h
      · omega
      · omega

theorem trsaid_err {ea : Nat → Addr} {k nl fl rm tt : Nat} {e : Ending} (h : (k = 9 ∧ ∃ (wa : Addr) (wn wc : Nat), e = .returned (.tuple #[.agg #[.int .u8 (nl : Int), .int .u8 (fl : Int), .int .u8 (rm : Int), .int .u32 (tt : Int), .slice (some wa) wn wc], .nilIface])) ∨ (k ≠ 9 ∧ e = .returned (.tuple #[zeroT, errV ea k]))) (h9 : k ≠ 9) (h6 : k < 6) :
    e = .returned (.tuple #[zeroT, .iface 65 (.pointer (some (ea k)))]) := by
  rcases h with ⟨h, _⟩ | ⟨_, h⟩
  · exact absurd h h9
  · rw [h]; unfold errV; rw [if_pos h6]

set_option maxRecDepth 100000 in
set_option maxHeartbeats 1000000 in
theorem fill_code (ns rs F fo c g len cap k : Nat) (f : Nat → Nat) (ea : Nat → Addr) (mv : Value) (sp : Option Addr) (w : World) (hE : Env w F fo c ea) (hl : 8 ≤ len) (hr : Row w g len f) (hf : ∀ i, f i < 256) (hlc : len ≤ cap) (hcm : cap ≤ 9223372036854775807) (hlm : len ≤ 4000000)
    (hk : tcode 0 len f = k) (hk9 : k ≠ 9) :
    Calls Ybaf.prog 8 #[.agg #[.int .u8 0, .int .u16 ns, .slice (some ⟨g, 0, none⟩) len cap, .int .u8 rs], .agg #[mv, .pointer sp]] w fun e w' => e = .returned (.iface 65 (.pointer (some (ea k)))) ∧ Below w.heap.size w w' := by
  have hB0 : Below w.heap.size w ((w.alloc (.cells #[.int .u8 0, .int .u16 ns, .slice (some ⟨g, 0, none⟩) len cap, .int .u8 rs] 37)).alloc (.cells #[mv, .pointer sp] 34)) := ((Below.refl _ _).alloc (Nat.le_refl _) _).alloc (by simp) _
  have hE0 := (hE.alloc (.cells #[.int .u8 0, .int .u16 ns, .slice (some ⟨g, 0, none⟩) len cap, .int .u8 rs] 37)).alloc (.cells #[mv, .pointer sp] 34)
  have htr := trace_any 0 ns rs F fo c g len cap f ea _ hE0 (by omega) hl (hr.below hB0 hr.lt) hf hlc hcm hlm
  have hk6 : k < 6 := hk ▸ tcode_lt (hk ▸ hk9)
  rw [hk] at htr
  clear hcm hlm hk hf
  go_enter Ybaf.func8, Ybaf.ntmps8
  go_wp2_with (go_at_call 15; refine htr.mono ?_; rintro e w' ⟨h, hb⟩; obtain rfl := trsaid_err h hk9 hk6; clear h; simp only [zeroT])
  go_ret
  exact ⟨rfl, (hB0.trans (hb.mono hB0.size)).alloc (Nat.le_trans hB0.size hb.size) _⟩
end Go.Proofs.YbulkdlqeFmt
