/- FnIsBorder: for every input the law returns true, and what came in is as it was. No conditions. -/
import Derived.Test.YtiaehlfggipkoaaLawZ
import Derived.Test.YtiaehlfggipkoaaImpl
import Derived.Test.YtiaehlfggipkoaaOne
import Derived.Test.YtiaehlfggipkoaaDrawL
import Derived.Test.YtiaehlfggipkoaaRows
import Derived.Deep.RegionHeld3
import Derived.Deep.RegionWith
import Derived.ProofKit
import Derived.OpenShut
import Derived.ShutString
import Derived.ChangeOld
namespace Go.Proofs.Ytiaehlfggipkoaa.fnIsBorder
open Go.ChangeShapes Go.WideShapes Go.ChangeAt Go.RowKit
set_option linter.unusedVariables false

set_option maxHeartbeats 8000000 in
set_option maxRecDepth 100000 in
theorem walk (A : Option Addr) (n c : Nat) (w : World) (hA : RdB w w.heap.size A n) (hm : n ≤ 9223372036854775807) :
    Calls Try.prog 14 #[.slice A n c] w fun e w' => e = .returned (.bool true) ∧ Below w.heap.size w w' := by
  rcases Nat.lt_or_ge 1048576 n with hn | hn
  · have hnz : (1048576 : Int) < (n : Int) := by omega
    go_enter Try.func14, Try.ntmps14
    go_wp2
    go_ret
    exact ⟨rfl, Below.refl _ _⟩
  have hnz : ¬ ((1048576 : Int) < (n : Int)) := by omega
  go_enter Try.func14, Try.ntmps14
  have HDR := Lib.hid (drawList_any A n c w hn hA)
  go_wp2_with fail
  go_at_call 25
  refine HDR.out.mono ?_
  rintro e w1 ⟨A', c', zs, r, rfl, hzl, hR, hr0, hr1, hb1⟩
  clear HDR
  by_cases hz : zs.length < 2
  · have hzz : (zs.length : Int) < 2 := by omega
    go_wp2
    go_ret
    exact ⟨rfl, hb1⟩
  have hzz : ¬ ((zs.length : Int) < 2) := by omega
  have hR' := hR
  obtain ⟨g, lo, rfl, hg0, hg1, -, c0, l0, l1⟩ := hR.at_ (m := 0) (by omega)
  obtain ⟨g', hi, eA, -, -, -, c1, k0, k1⟩ := hR'.at_ (m := 1) (by omega)
  obtain rfl : g = g' := by injection eA with eA; injection eA
  clear hR hR' eA
  have z0 : (0 : Int) < (zs.length : Int) := by omega
  have z1 : (1 : Int) < (zs.length : Int) := by omega
  by_cases t0 : lo < 0
  · have t0b : decide (lo < 0) = true := decide_eq_true t0
    go_wp2
    go_ret
    exact ⟨rfl, hb1⟩
  have t0b : decide (lo < 0) = false := decide_eq_false t0
  by_cases t1 : 65536 ≤ lo
  · have t1b : decide (65536 ≤ lo) = true := decide_eq_true t1
    go_wp2
    go_ret
    exact ⟨rfl, hb1⟩
  have t1b : decide (65536 ≤ lo) = false := decide_eq_false t1
  by_cases t2 : hi < 65536
  · have t2b : decide (hi < 65536) = true := decide_eq_true t2
    go_wp2
    go_ret
    exact ⟨rfl, hb1⟩
  have t2b : decide (hi < 65536) = false := decide_eq_false t2
  by_cases t3 : 1114111 < hi
  · have t3b : decide (1114111 < hi) = true := decide_eq_true t3
    go_wp2
    go_ret
    exact ⟨rfl, hb1⟩
  have t3b : decide (1114111 < hi) = false := decide_eq_false t3
  have q1 := ((Bk.new w1 34 #[.int .u16 lo, .int .u16 65535, .int .u16 1]).alloc (.cells #[.int .u32 65536, .int .u32 hi, .int .u32 1] 37)).alloc (.cells #[.slice (some ⟨w1.heap.size, 0, none⟩) 1 1, .slice (some ⟨w1.heap.size + 1, 0, none⟩) 1 1, .int .i64 0] 26)
  have q2 : Bk ((w1.alloc (.cells #[.int .u16 lo, .int .u16 65535, .int .u16 1] 34)).alloc (.cells #[.int .u32 65536, .int .u32 hi, .int .u32 1] 37)) (w1.heap.size + 1) 37 #[.int .u32 65536, .int .u32 hi, .int .u32 1] := heap_new2 w1 _ _
  have q3 := q2.alloc (.cells #[.slice (some ⟨w1.heap.size, 0, none⟩) 1 1, .slice (some ⟨w1.heap.size + 1, 0, none⟩) 1 1, .int .i64 0] 26)
  have ra := rd_one (M := 65536) ⟨lo, 65535, 1⟩ q1 ⟨by simp; omega, by simp; omega, by simp, by simp, by simp, by simp⟩
  have rb := rd_one (M := 4294967296) ⟨65536, hi, 1⟩ q3 ⟨by simp, by simp, by simp; omega, by simp; omega, by simp, by simp⟩
  have v1 : Srt 0 65535 [⟨lo, 65535, 1⟩] := srt_one _ (by simp) (by simp; omega) (by simp; omega) (by simp)
  have v2 : Srt 65536 1114111 [⟨65536, hi, 1⟩] := srt_one _ (by simp) (by simp; omega) (by simp) (by simp; omega)
  have hbx := ((hb1.alloc hb1.size (.cells #[.int .u16 lo, .int .u16 65535, .int .u16 1] 34)).alloc (by simp; have := hb1.size; omega) (.cells #[.int .u32 65536, .int .u32 hi, .int .u32 1] 37)).alloc (by simp; have := hb1.size; omega) (.cells #[.slice (some ⟨w1.heap.size, 0, none⟩) 1 1, .slice (some ⟨w1.heap.size + 1, 0, none⟩) 1 1, .int .i64 0] 26)
  have HI := Lib.hid (implIs_any _ _ 1 1 [⟨lo, 65535, 1⟩] [⟨65536, hi, 1⟩] 0 r _ hr0 hr1 v1 v2 ra rb)
  clear q1 q2 q3 ra rb v1 v2 hb1
  by_cases u0 : lo ≤ r
  · have u0b : decide (lo ≤ r) = true := decide_eq_true u0
    by_cases u1 : r ≤ hi
    · have u1b : decide (r ≤ hi) = true := decide_eq_true u1
      have he := border_yes (lo := lo) (hi := hi) (r := r) (by omega) (by omega) u0 u1
      rw [he] at HI
      clear he
      go_wp2_with fail
      go_at_call 17
      refine HI.out.mono ?_
      rintro e w2 ⟨rfl, hb2⟩
      have hfin := hbx.trans (hb2.mono hbx.size)
      clear HI
      go_wp2
      go_ret
      exact ⟨rfl, hfin⟩
    · have u1b : decide (r ≤ hi) = false := decide_eq_false u1
      have he := border_no (lo := lo) (hi := hi) (r := r) (by omega) (by omega) (by omega)
      rw [he] at HI
      clear he
      go_wp2_with fail
      go_at_call 17
      refine HI.out.mono ?_
      rintro e w2 ⟨rfl, hb2⟩
      have hfin := hbx.trans (hb2.mono hbx.size)
      clear HI
      go_wp2
      go_ret
      exact ⟨rfl, hfin⟩
  · have u0b : decide (lo ≤ r) = false := decide_eq_false u0
    have he := border_no (lo := lo) (hi := hi) (r := r) (by omega) (by omega) (by omega)
    rw [he] at HI
    clear he
    go_wp2_with fail
    go_at_call 17
    refine HI.out.mono ?_
    rintro e w2 ⟨rfl, hb2⟩
    have hfin := hbx.trans (hb2.mono hbx.size)
    clear HI
    go_wp2
    go_ret
    exact ⟨rfl, hfin⟩

theorem own : ownKnob Try.prog.godebug = none := by kernel_rfl
theorem laidOut : laidOutB Try.prog = true := by kernel_rfl

set_option maxRecDepth 100000 in
theorem lifted (os : Os) (started : os.Started) (H : Type) (enc : TypeId × Value → H) :
    ReturnsInHanded {} Try.checked os 14 .any (Rows.fnIsBorderSpec.pre6 enc Try.prog Try.f14 Rows.fnIsBorderRow.domain false) (Rows.fnIsBorderSpec.post enc Try.prog Try.f14 false true false false) := by
  refine returnsInHanded_of_change (C := Try.checked) own started (by kernel_rfl) Try.func14
    (ChangeSpec.witness6 (enc := enc) (C := Try.checked) false ⟨#[], #[.slice none 0 0], []⟩ 8 (by kernel_rfl) (by kernel_rfl) (by kernel_rfl) (by kernel_rfl)) ?_
  intro W base args ds gs before hval0 hW hcnd _
  have hval : ∀ (j : Nat) t v, Try.f14.params[j]? = some t → args[j]? = some v → Value.okWide Try.prog W .any base t v := hval0
  have hW' := hW
  obtain ⟨p, q, hA0, hV, rfl, hfz, hnd⟩ := hW
  have hA : DataW.TrodAll enc Try.prog W 0 (fun _ => true) true Try.f14.params.toList args.toList ds p := hA0
  rw [Try.params14] at hA hval
  obtain ⟨v0, vs0, d0, ds0, p0, q0, hargs, rfl, rfl, h0, r0⟩ := trodAll_cons hA
  obtain ⟨rfl, rfl, rfl⟩ := trodAll_nil r0
  obtain rfl : args = #[v0] := by cases args; simp_all
  obtain ⟨rfl, rfl⟩ := trodVars_none hV
  obtain ⟨a0, len0, cap0, rfl⟩ := okWide_slice Try.underlying22 (hval 0 22 v0 rfl rfl)
  have k0 := h0
  have lt0 : ∀ x ∈ p0, x.block < W.heap.size := by obtain ⟨m, hm⟩ := k0; exact DataW.trod_lt m _ _ _ hm
  obtain ⟨hB, hM⟩ : RdB W W.heap.size a0 len0 ∧ len0 ≤ 9223372036854775807 := by
    obtain ⟨fuel, hf⟩ := h0
    rcases open_ints Try.underlying22 Try.underlying5 (by kernel_rfl) hf with ⟨hcs, _⟩ | ⟨x, l, c, zs, hcs, _, hl, hm, hz, _, hcell, hwz⟩
    · simp [Value.cells] at hcs
      obtain ⟨rfl, rfl, rfl⟩ := hcs
      exact ⟨fun h => absurd h (by omega), by omega⟩
    · simp [Value.cells] at hcs
      obtain ⟨rfl, rfl, rfl⟩ := hcs
      exact ⟨bytes_of hl (by simpa using hz) hcell hwz, by unfold maxLen at hm; omega⟩
  clear hA0 hval0
  refine (walk a0 len0 cap0 W hB hM).mono fun e W' ⟨he, bel⟩ => ?_
  subst he
  exact ⟨_, rfl, _, _, _, [], _, [], hW', trodAll_mk1 (shut_bool Try.underlying4 _), (trodAll_cons_mk (Below.trod laidOut (by kernel_rfl) (of_decide_eq_true (by kernel_rfl)) k0 bel lt0) trodAll_mk0), rfl, bel.frame _, fun h => by cases h⟩

theorem over : Rows.fnIsBorderRow.holds Try.pinned (OpenSpec.ofChange Rows.fnIsBorderSpec) :=
  OpenClaim.holds_of_wide 14 Try.f14 rfl rfl rfl rfl rfl rfl rfl ⟨rfl, rfl, rfl, rfl, rfl⟩ rfl rfl rfl rfl rfl (by kernel_rfl) Try.func14 (by kernel_rfl)
    (of_decide_eq_true (by kernel_rfl)) (by unfold Func.isWrapper; first | (rw [if_pos (by decide +kernel)]; kernel_rfl) | (rw [if_neg (by decide +kernel)]; exact ⟨rfl, rfl⟩))
    (fun os started H enc _ => lifted os started H enc)

theorem proved : Rows.FnIsBorderSaid := over
#print axioms proved
end Go.Proofs.Ytiaehlfggipkoaa.fnIsBorder
