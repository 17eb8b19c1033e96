import JvmDerived
import JvmDerived.Pilot.@@N@@Statement
import JvmDerived.Pilot.@@N@@Code
set_option linter.unusedVariables false
set_option linter.unusedSimpArgs false
@@BLOCK:NumsL.lean.txt@@
namespace Jvm.RoadKit
open Sem ClassFile Op Lib Jvm.Stand Jvm.Free Jvm.LawKit
section New
variable {p : Program} {l : Launch} {e : Env} {R : Room} {s : State} {m : MethodId} {args : Array Value} {below : List Frame} {meth : Method} {c : Code} {T : State} {locs : List Loc} {cells slots : Nat}
theorem retI (X : Stand p l e R s m args below meth c T locs cells slots) (hx : p.tables.exec = Jvm.exec) {pc : Nat} {Ls : Array Slot} {z : Int32} {rest : List Value} (hret : meth.sig.returnType = some .int) (hd : decode c.code pc = .ok (.ireturn, 1)) {fs : List Frame}
    (hl : ∀ (f : JFrame) (acts : List Action), f.method = m → f.locked = none → f.entered = [] → (doReturn e (T.setTop f) acts (some (.int z))).1 = T.setFrames fs) : Steps p.tables e below (T.setTop (mkF m pc Ls (.int z :: rest))) (T.setFrames fs) := by
  have hm' : T.vm.method? m = some meth := X.method'
  have hn : narrow .int (.int z) = .int z := rfl
  show Steps p.tables e below (T.setTop { method := m, pc := pc, locals := Ls, stack := _ :: rest, locked := none }) _
  jvm_step X.here [X.here.top, hx, hd, hm', hret, hn]
  first | (intro acts; rw [hl _ acts rfl rfl rfl]) | rw [hl _ _ rfl rfl rfl]
  exact Steps.refl _
end New
end Jvm.RoadKit
namespace Jvm.Pilot.@@N@@
open Jvm Jvm.ClassFile Sem Op Lib Jvm.Free Jvm.Stand Jvm.LawKit Jvm.RoadKit Bundle Jvm.Pilot.@@N@@.Jvm.D

/-! the road's own words: where a run ends, by steps taken one after the other -/
def own_E (p : Program) (e : Env) (below : List Frame) (G : State → Outcome → Prop) (U : State) : Prop := ∃ s₂ o, Steps p.tables e below U s₂ ∧ s₂.status = .running ∧ Ended s₂ below o ∧ G s₂ o
theorem own_step {p : Program} {e : Env} {below : List Frame} {G : State → Outcome → Prop} {U U' : State} (h : ∀ t, Steps p.tables e below U' t → Steps p.tables e below U t) (k : own_E p e below G U') : own_E p e below G U :=
  let ⟨a, b, c, d⟩ := k; ⟨a, b, h _ c, d⟩
theorem own_ret {p : Program} {l : Launch} {e : Env} {R : Room} {s : State} {m : MethodId} {args : Array Value} {below : List Frame} {meth : Method} {c : Code} {T : State} {locs : List Loc} {cells slots C S : Nat} {Q : Option Value → Heap → List Loc → Prop} {U : State}
    (X : Stand p l e R s m args below meth c T locs cells slots) (hlk : meth.locks = false) {v : Option Value} (hv : meth.sig.returnType = none → v = none) (hq : Q v T.heap locs) (hc : cells ≤ C) (hs : slots ≤ S)
    (hst : ∀ fs, (∀ (f : JFrame) (acts : List Action), f.method = m → f.locked = none → f.entered = [] → (doReturn e (T.setTop f) acts v).1 = T.setFrames fs) → Steps p.tables e below U (T.setFrames fs)) :
    own_E p e below (fun U' o => ∃ v L, o = .returned v ∧ Q v U'.heap L ∧ FrameEnd s o U' L C S) U := by
  obtain ⟨fs, hr, hrun, hended, hW, hsame⟩ := X.leave (v := v) hv hlk
  exact ⟨_, _, hst fs hr, hrun, hended, v, locs, rfl, hq, ⟨_, rfl⟩, hW, hsame.mono hc hs⟩
theorem own_lc_gt_t {x y : Int64} (h : y < x) : ifCond.holds .gt (Jvm.Free.XT.cmpL x y) = true := by delta Jvm.Free.XT.cmpL; rw [if_pos h]; decide
theorem own_lc_gt_f {x y : Int64} (h : ¬ y < x) : ifCond.holds .gt (Jvm.Free.XT.cmpL x y) = false := by delta Jvm.Free.XT.cmpL; rw [if_neg h]; split <;> decide
theorem own_lc_le_f {x y : Int64} (h : y < x) : ifCond.holds .le (Jvm.Free.XT.cmpL x y) = false := by delta Jvm.Free.XT.cmpL; rw [if_pos h]; decide
theorem own_lc_le_t {x y : Int64} (h : ¬ y < x) : ifCond.holds .le (Jvm.Free.XT.cmpL x y) = true := by delta Jvm.Free.XT.cmpL; rw [if_neg h]; split <;> decide
theorem own_lt3 {x y : Int64} (h : x < y) : Jvm.Free.XT.cmpL x y = -1 := by
  delta Jvm.Free.XT.cmpL
  rw [if_neg (by rw [Int64.lt_iff_toInt_lt] at *; omega), if_neg (by intro e; subst e; rw [Int64.lt_iff_toInt_lt] at h; omega)]
theorem own_ge3 {x y : Int64} (h : ¬ x < y) : Jvm.Free.XT.cmpL x y = 1 ∨ Jvm.Free.XT.cmpL x y = 0 := by
  delta Jvm.Free.XT.cmpL
  by_cases h1 : y < x
  · rw [if_pos h1]; exact Or.inl rfl
  · rw [if_neg h1, if_pos (by rw [Int64.lt_iff_toInt_lt] at h h1; exact Int64.toInt_inj.mp (by omega))]; exact Or.inr rfl
theorem own_lc_lt_t {x y : Int64} (h : x < y) : ifCond.holds .lt (Jvm.Free.XT.cmpL x y) = true := by rw [own_lt3 h]; decide
theorem own_lc_lt_f {x y : Int64} (h : ¬ x < y) : ifCond.holds .lt (Jvm.Free.XT.cmpL x y) = false := by rcases own_ge3 h with e | e <;> rw [e] <;> decide
theorem own_lc_ge_f {x y : Int64} (h : x < y) : ifCond.holds .ge (Jvm.Free.XT.cmpL x y) = false := by rw [own_lt3 h]; decide
theorem own_lc_ge_t {x y : Int64} (h : ¬ x < y) : ifCond.holds .ge (Jvm.Free.XT.cmpL x y) = true := by rcases own_ge3 h with e | e <;> rw [e] <;> decide
theorem own_eq3 {x y : Int64} (h : x = y) : Jvm.Free.XT.cmpL x y = 0 := by
  subst h; delta Jvm.Free.XT.cmpL; rw [if_neg (by rw [Int64.lt_iff_toInt_lt]; omega), if_pos rfl]
theorem own_ne3 {x y : Int64} (h : ¬ x = y) : Jvm.Free.XT.cmpL x y = 1 ∨ Jvm.Free.XT.cmpL x y = -1 := by
  delta Jvm.Free.XT.cmpL
  by_cases h1 : y < x
  · rw [if_pos h1]; exact Or.inl rfl
  · rw [if_neg h1, if_neg h]; exact Or.inr rfl
theorem own_lc_eq_t {x y : Int64} (h : x = y) : ifCond.holds .eq (Jvm.Free.XT.cmpL x y) = true := by rw [own_eq3 h]; decide
theorem own_lc_eq_f {x y : Int64} (h : ¬ x = y) : ifCond.holds .eq (Jvm.Free.XT.cmpL x y) = false := by rcases own_ne3 h with e | e <;> rw [e] <;> decide
theorem own_lc_ne_f {x y : Int64} (h : x = y) : ifCond.holds .ne (Jvm.Free.XT.cmpL x y) = false := by rw [own_eq3 h]; decide
theorem own_lc_ne_t {x y : Int64} (h : ¬ x = y) : ifCond.holds .ne (Jvm.Free.XT.cmpL x y) = true := by rcases own_ne3 h with e | e <;> rw [e] <;> decide
theorem own_i32_rem (x y : Int32) : (x - (x / y) * y).toInt = x.toInt.tmod y.toInt := by
  have a := (x % y).toInt_lt; have b := (x % y).le_toInt
  rw [Int32.toInt_mod] at a b
  rw [Int32.toInt_sub, Int32.toInt_mul, Int32.toInt_div, Int.bmod_mul_bmod, Int.sub_bmod_bmod, Int.mul_comm, ← Int.tmod_def]
  exact Jvm.Kit.bmod32 b a
/-- (x & MAX) % n for a positive n -/
theorem own_pick (x n : Int32) (hn : 0 < n.toInt) : ((x &&& (2147483647 : Int32)) - ((x &&& (2147483647 : Int32)) / n) * n).toInt = (x.toInt % 2 ^ 31) % n.toInt := by
  rw [own_i32_rem, Jvm.Kit.i32_mask x 2147483647 (k := 31) (by decide) (by decide), Int.tmod_eq_emod_of_nonneg (Int.emod_nonneg _ (by decide))]
theorem own_ofNat (x : Int32) (h : 0 ≤ x.toInt) : ∃ k : Nat, x = Int32.ofNat k ∧ (k : Int) = x.toInt := by
  refine ⟨x.toInt.toNat, ?_, by omega⟩
  have := x.toInt_lt
  apply Int32.toInt_inj.mp
  rw [Int32.toInt_ofNat_of_lt (by omega)]; omega
def own_kept (x b s : Int32) : Int32 := if b = 32 then x else if s = 0 then x &&& (((1 : Int32) <<< (b &&& 31)) - 1) else (x <<< (((32 : Int32) - b) &&& 31)) >>> (((32 : Int32) - b) &&& 31)
theorem own_bits (p B : Int32) (h : ((p &&& (2147483647 : Int32)) - ((p &&& (2147483647 : Int32)) / (32 : Int32)) * (32 : Int32)) + (1 : Int32) = B) : ∃ k : Nat, B = Int32.ofNat k ∧ 1 ≤ k ∧ k ≤ 32 := by
  have e := own_pick p 32 (by decide)
  have e' : ((p &&& (2147483647 : Int32)) - ((p &&& (2147483647 : Int32)) / (32 : Int32)) * (32 : Int32)).toInt = (p.toInt % 2 ^ 31) % 32 := e
  have f : B.toInt = (p.toInt % 2 ^ 31) % 32 + 1 := by
    rw [← h, Jvm.Kit.i32_add (by rw [e']; show _ ≤ _ + 1; omega) (by rw [e']; show _ + 1 < _; omega), e']; rfl
  obtain ⟨k, h1, h2⟩ := own_ofNat B (by omega)
  exact ⟨k, h1, by omega, by omega⟩
theorem own_mask_lit : ∀ k : Nat, k < 32 → 1 ≤ k → (((1 : Int32) <<< ((Int32.ofNat k) &&& 31)) - 1).toBitVec.toNat = 2 ^ k - 1 := by decide
theorem own_sh_lit : ∀ k : Nat, k < 32 → 1 ≤ k → ((((32 : Int32) - Int32.ofNat k) &&& 31).toBitVec.smod 32).toNat = 32 - k := by decide
theorem own_m_lit : ∀ k : Nat, k < 32 → ((1 : Int64) <<< ((Int32.ofNat k).toInt64 &&& 63)).toInt = 2 ^ k := by decide
theorem own_hi_lit : ∀ k : Nat, k < 32 → 1 ≤ k → (((1 : Int64) <<< ((Int32.ofNat k).toInt64 &&& 63)) / 2).toInt = 2 ^ (k - 1) := by decide
theorem own_lo_lit : ∀ k : Nat, k < 32 → 1 ≤ k → (-(((1 : Int64) <<< ((Int32.ofNat k).toInt64 &&& 63)) / 2)).toInt = -2 ^ (k - 1) := by decide
theorem own_not32 : ∀ k : Nat, k < 32 → ¬ Int32.ofNat k = 32 := by decide
theorem own_kept_u (x s : Int32) (hs : s = 0) (k : Nat) (h1 : 1 ≤ k) (h2 : k < 32) : (own_kept x (Int32.ofNat k) s).toInt = x.toInt % 2 ^ k := by
  unfold own_kept
  rw [if_neg (own_not32 k h2), if_pos hs]
  exact Jvm.Kit.i32_mask x _ h2 (own_mask_lit k h2 h1)
theorem own_kept_s (x s : Int32) (hs : ¬ s = 0) (k : Nat) (h1 : 1 ≤ k) (h2 : k < 32) : ∃ j : Int, x.toInt - (own_kept x (Int32.ofNat k) s).toInt = 2 ^ k * j ∧ -2 ^ (k - 1) ≤ (own_kept x (Int32.ofNat k) s).toInt ∧ (own_kept x (Int32.ofNat k) s).toInt < 2 ^ (k - 1) := by
  unfold own_kept
  rw [if_neg (own_not32 k h2), if_neg hs]
  have hn := own_sh_lit k h2 h1
  generalize (((32 : Int32) - Int32.ofNat k) &&& 31) = n at hn
  rw [Jvm.Kit.i32_shr _ n hn]
  have e : (x <<< n).toInt = Int.bmod (x.toInt * 2 ^ (32 - k)) (2 ^ 32) := by
    have e : (x <<< n).toInt = (x.toBitVec <<< (n.toBitVec.smod 32)).toInt := rfl
    rw [e, BitVec.shiftLeft_eq', BitVec.toInt_shiftLeft, hn]
    rw [Nat.shiftLeft_eq, Int.natCast_mul, Int.natCast_pow, ← Int.bmod_mul_bmod, ← BitVec.toInt_eq_toNat_bmod]
    rfl
  rw [e]
  have b1 := Int.le_bmod (x := x.toInt * 2 ^ (32 - k)) (m := 2 ^ 32) (by decide)
  have b2 := Int.bmod_lt (x := x.toInt * 2 ^ (32 - k)) (m := 2 ^ 32) (by decide)
  have b3 := Int.bmod_add_bdiv (x.toInt * 2 ^ (32 - k)) (2 ^ 32)
  generalize Int.bmod (x.toInt * 2 ^ (32 - k)) (2 ^ 32) = y at *
  generalize Int.bdiv (x.toInt * 2 ^ (32 - k)) (2 ^ 32) = j at *
  have hq : (0 : Int) < 2 ^ (32 - k) := Int.pow_pos (by decide)
  have hM : ((2 ^ 32 : Nat) : Int) = 2 ^ (32 - k) * 2 ^ k := by
    rw [← Int.pow_add]
    have : 32 - k + k = 32 := by omega
    rw [this]; rfl
  have hH : ((2 : Int) ^ 31) = 2 ^ (32 - k) * 2 ^ (k - 1) := by
    rw [← Int.pow_add]
    have : 32 - k + (k - 1) = 31 := by omega
    rw [this]
  have hy : y = 2 ^ (32 - k) * (x.toInt - 2 ^ k * j) := by
    rw [hM] at b3
    have : y = x.toInt * 2 ^ (32 - k) - 2 ^ (32 - k) * 2 ^ k * j := by omega
    rw [this, Int.mul_sub, Int.mul_comm (x.toInt), Int.mul_assoc]
  have hd : y / 2 ^ (32 - k) = x.toInt - 2 ^ k * j := by rw [hy, Int.mul_ediv_cancel_left _ (Int.ne_of_gt hq)]
  rw [hd]
  refine ⟨j, by omega, ?_, ?_⟩
  · refine Int.le_of_mul_le_mul_left (a := 2 ^ (32 - k)) ?_ hq
    rw [← hy, Int.mul_neg, ← hH]
    have : ((2 ^ 32 : Nat) : Int) / 2 = 2 ^ 31 := by decide
    omega
  · refine Int.lt_of_mul_lt_mul_left (a := 2 ^ (32 - k)) ?_ (Int.le_of_lt hq)
    rw [← hy, ← hH]
    have : (((2 ^ 32 : Nat) : Int) + 1) / 2 = 2 ^ 31 := by decide
    omega
theorem own_kept_d (x s : Int32) (k : Nat) (h1 : 1 ≤ k) (h2 : k < 32) : ∃ j : Int, x.toInt - (own_kept x (Int32.ofNat k) s).toInt = 2 ^ k * j := by
  by_cases hs : s = 0
  · refine ⟨x.toInt / 2 ^ k, ?_⟩
    rw [own_kept_u x s hs k h1 h2]
    have := Int.emod_add_mul_ediv x.toInt (2 ^ k)
    omega
  · obtain ⟨j, h, -⟩ := own_kept_s x s hs k h1 h2
    exact ⟨j, h⟩
theorem own_kept32 (x s : Int32) {B : Int32} (h : B = (32 : Int32)) : own_kept x B s = x := by unfold own_kept; rw [if_pos h]
theorem own_diff (x r : Int32) : (x.toInt64 - r.toInt64).toInt = x.toInt - r.toInt := by
  have a := x.toInt_lt; have b := x.le_toInt; have c := r.toInt_lt; have d := r.le_toInt
  rw [Jvm.Kit.i64_sub (by rw [Jvm.Kit.i64_of_i32, Jvm.Kit.i64_of_i32]; omega) (by rw [Jvm.Kit.i64_of_i32, Jvm.Kit.i64_of_i32]; omega), Jvm.Kit.i64_of_i32, Jvm.Kit.i64_of_i32]
theorem own_mnz {B : Int32} (k : Nat) (hB : B = Int32.ofNat k) (h2 : k < 32) : ((1 : Int64) <<< (B.toInt64 &&& 63)) ≠ 0 := by
  subst hB
  intro h
  have := congrArg Int64.toInt h
  rw [own_m_lit k h2] at this
  have hp : (0 : Int) < 2 ^ k := Int.pow_pos (by decide)
  have z : (0 : Int64).toInt = 0 := rfl
  omega
theorem own_cong (x s : Int32) {B : Int32} (k : Nat) (hB : B = Int32.ofNat k) (h1 : 1 ≤ k) (h2 : k < 32) :
    ((x.toInt64 - (own_kept x B s).toInt64) - ((x.toInt64 - (own_kept x B s).toInt64) / ((1 : Int64) <<< (B.toInt64 &&& 63))) * ((1 : Int64) <<< (B.toInt64 &&& 63))) = 0 := by
  subst hB
  apply Int64.toInt_inj.mp
  rw [Jvm.Kit.i64_rem, own_m_lit k h2, own_diff]
  obtain ⟨j, hj⟩ := own_kept_d x s k h1 h2
  rw [hj, Int.mul_tmod_right]; rfl
theorem own_rng_s1 (x s : Int32) (hs : ¬ s = 0) {B : Int32} (k : Nat) (hB : B = Int32.ofNat k) (h1 : 1 ≤ k) (h2 : k < 32) : ¬ (own_kept x B s).toInt64 < (-(((1 : Int64) <<< (B.toInt64 &&& 63)) / 2)) := by
  subst hB
  obtain ⟨j, -, h3, h4⟩ := own_kept_s x s hs k h1 h2
  rw [Int64.lt_iff_toInt_lt, own_lo_lit k h2 h1, Jvm.Kit.i64_of_i32]; omega
theorem own_rng_s2 (x s : Int32) (hs : ¬ s = 0) {B : Int32} (k : Nat) (hB : B = Int32.ofNat k) (h1 : 1 ≤ k) (h2 : k < 32) : (own_kept x B s).toInt64 < (((1 : Int64) <<< (B.toInt64 &&& 63)) / 2) := by
  subst hB
  obtain ⟨j, -, h3, h4⟩ := own_kept_s x s hs k h1 h2
  rw [Int64.lt_iff_toInt_lt, own_hi_lit k h2 h1, Jvm.Kit.i64_of_i32]; omega
theorem own_rng_u1 (x s : Int32) (hs : s = 0) {B : Int32} (k : Nat) (hB : B = Int32.ofNat k) (h1 : 1 ≤ k) (h2 : k < 32) : ¬ (own_kept x B s).toInt64 < 0 := by
  subst hB
  have e := own_kept_u x s hs k h1 h2
  have hp : (0 : Int) < 2 ^ k := Int.pow_pos (by decide)
  have := Int.emod_nonneg x.toInt (Int.ne_of_gt hp)
  rw [Int64.lt_iff_toInt_lt, Jvm.Kit.i64_of_i32, e]; show ¬ _ < (0 : Int); omega
theorem own_rng_u2 (x s : Int32) (hs : s = 0) {B : Int32} (k : Nat) (hB : B = Int32.ofNat k) (h1 : 1 ≤ k) (h2 : k < 32) : (own_kept x B s).toInt64 < ((1 : Int64) <<< (B.toInt64 &&& 63)) := by
  subst hB
  have e := own_kept_u x s hs k h1 h2
  have hp : (0 : Int) < 2 ^ k := Int.pow_pos (by decide)
  have := Int.emod_lt_of_pos x.toInt hp
  rw [Int64.lt_iff_toInt_lt, Jvm.Kit.i64_of_i32, own_m_lit k h2, e]; omega
theorem d1_0 : decode prog_139_method_4_code 0 = .ok (.iload_n 1, 1) := by decide +kernel
theorem d1_1 : decode prog_139_method_4_code 1 = .ok (.bipush 32, 2) := by decide +kernel
theorem d1_3 : decode prog_139_method_4_code 3 = .ok (.if_icmp .ne 8, 3) := by decide +kernel
theorem d1_6 : decode prog_139_method_4_code 6 = .ok (.iload_n 0, 1) := by decide +kernel
theorem d1_7 : decode prog_139_method_4_code 7 = .ok (.istore_n 3, 1) := by decide +kernel
theorem d1_8 : decode prog_139_method_4_code 8 = .ok (.goto 30, 3) := by decide +kernel
theorem d1_11 : decode prog_139_method_4_code 11 = .ok (.iload_n 2, 1) := by decide +kernel
theorem d1_12 : decode prog_139_method_4_code 12 = .ok (.ifCond .eq 18, 3) := by decide +kernel
theorem d1_15 : decode prog_139_method_4_code 15 = .ok (.iload_n 0, 1) := by decide +kernel
theorem d1_16 : decode prog_139_method_4_code 16 = .ok (.bipush 32, 2) := by decide +kernel
theorem d1_18 : decode prog_139_method_4_code 18 = .ok (.iload_n 1, 1) := by decide +kernel
theorem d1_19 : decode prog_139_method_4_code 19 = .ok (.isub, 1) := by decide +kernel
theorem d1_20 : decode prog_139_method_4_code 20 = .ok (.ishl, 1) := by decide +kernel
theorem d1_21 : decode prog_139_method_4_code 21 = .ok (.bipush 32, 2) := by decide +kernel
theorem d1_23 : decode prog_139_method_4_code 23 = .ok (.iload_n 1, 1) := by decide +kernel
theorem d1_24 : decode prog_139_method_4_code 24 = .ok (.isub, 1) := by decide +kernel
theorem d1_25 : decode prog_139_method_4_code 25 = .ok (.ishr, 1) := by decide +kernel
theorem d1_26 : decode prog_139_method_4_code 26 = .ok (.istore_n 3, 1) := by decide +kernel
theorem d1_27 : decode prog_139_method_4_code 27 = .ok (.goto 11, 3) := by decide +kernel
theorem d1_30 : decode prog_139_method_4_code 30 = .ok (.iload_n 0, 1) := by decide +kernel
theorem d1_31 : decode prog_139_method_4_code 31 = .ok (.iconst 1, 1) := by decide +kernel
theorem d1_32 : decode prog_139_method_4_code 32 = .ok (.iload_n 1, 1) := by decide +kernel
theorem d1_33 : decode prog_139_method_4_code 33 = .ok (.ishl, 1) := by decide +kernel
theorem d1_34 : decode prog_139_method_4_code 34 = .ok (.iconst 1, 1) := by decide +kernel
theorem d1_35 : decode prog_139_method_4_code 35 = .ok (.isub, 1) := by decide +kernel
theorem d1_36 : decode prog_139_method_4_code 36 = .ok (.iand, 1) := by decide +kernel
theorem d1_37 : decode prog_139_method_4_code 37 = .ok (.istore_n 3, 1) := by decide +kernel
theorem d1_38 : decode prog_139_method_4_code 38 = .ok (.iload_n 3, 1) := by decide +kernel
theorem d1_39 : decode prog_139_method_4_code 39 = .ok (.ireturn, 1) := by decide +kernel
theorem pn_1 : plainName "com/example/spurion/spurion/channel/promela/PromelaVariable" = true := by first | (simp [plainName, overriddenIn]; done) | decide +kernel
theorem ef_1 (m : MethodId) (p1 : Int32) (p2 : Int32) (p3 : Int32)  : entryFrame m #[(.int p1), (.int p2), (.int p3)] 4 = mkF m 0 #[.val (.int p1), .val (.int p2), .val (.int p3), .unset] [] := by first | (simp [entryFrame, mkF, argsToLocals, Value.category]; done) | rfl
def Q1 (Z : State) (p1 : Int32) (p2 : Int32) (p3 : Int32)  (h0 : Heap) (n0 : Nat) (v : Option Value) (h : Heap) (L : List Loc) : Prop := v = some (.int (own_kept p1 p2 p3)) ∧ Fr n0 L ∧ h = h0
set_option maxRecDepth 65536 in
set_option maxHeartbeats 40000000 in
theorem rm1 (l : Launch) (Z : State) (a0 : Array Value) (hw : ∀ d ∈ tables_1, d.before a0 Z = true) (ws : List Jvm.Cond) (p1 : Int32) (p2 : Int32) (p3 : Int32)  (h0 : Heap) (n0 : Nat) (Z0 : n0 ≤ h0.size)  :
    MetFree l (⟨"com/example/spurion/spurion/channel/promela/PromelaVariable", "kept", "(IIZ)I"⟩ : MethodName) (head1 (Jvm.Cond.code (⟨"com/example/spurion/spurion/channel/promela/PromelaVariable", "kept", "(IIZ)I"⟩ : MethodName) prog_139_method_4_code 4 (some .int) :: ws) ({ frames := 0, cells := 0, slots := 0, locals := 0 } : Room)) (fun a U => a = #[(.int p1), (.int p2), (.int p3)] ∧ Z.Warmed39 U.vm ∧ U.heap = h0) (fun _ _ _ _ _ => True) (fun _ U o U' => ∃ v L, o = .returned v ∧ Q1 Z p1 p2 p3 h0 n0 v U'.heap L ∧ FrameEnd U o U' L ({ frames := 0, cells := 0, slots := 0, locals := 0 } : Room).cells ({ frames := 0, cells := 0, slots := 0, locals := 0 } : Room).slots) := by
  refine MetFree.of_bodySF (plainFor_of_name pn_1) hisR ?_
  intro p e s m args below meth c s₁ Bd hml0 hP hK
  obtain ⟨rfl, hZ, hh⟩ := hP
  have hx := Bd.exec
  have hby := Bd.bytes
  have hml : c.maxLocals = 4 := hml0
  have hown : s.vm.findClass "com/example/spurion/spurion/channel/promela/PromelaVariable" = some m.cls := findClass_of_methodNamed Bd.named
  have hnm := (name_of_methodNamed Bd.named Bd.method).1
  have hlk : meth.locks = false := Bd.notSynchronized
  have X0 : Stand p l e ({ frames := 0, cells := 0, slots := 0, locals := 0 } : Room) s m #[(.int p1), (.int p2), (.int p3)] below meth c s₁ [] 0 0 := Stand.of_body Bd
  have e0 : s₁.heap = h0 := by rw [← hh, Bd.state]; rfl
  have N0 := Fr.nil n0
  refine own_step (p := p) (e := e) (below := below) (U' := s₁.setTop (mkF m 0 #[.val (.int p1), .val (.int p2), .val (.int p3), .unset] [])) (fun _ zk => castTop (ef_1 m p1 p2 p3 ) zk) ?_
  refine own_step (fun _ zk => XS.iloadN X0.here hx rfl (hb hby d1_0) rfl zk) ?_
  show own_E p e below _ (s₁.setTop (mkF m 1 #[.val (.int p1), .val (.int p2), .val (.int p3), .unset] [(.int p2)]))
  refine own_step (fun _ zk => XS.bipush X0.here hx rfl (hb hby d1_1) zk) ?_
  show own_E p e below _ (s₁.setTop (mkF m 3 #[.val (.int p1), .val (.int p2), .val (.int p3), .unset] [(.int (32 : Int32)), (.int p2)]))
  by_cases hc3 : p2 = (32 : Int32)
  · skip
    refine own_step (fun _ zk => XS.icmpNo X0.here hx rfl (hb hby d1_3) rfl (teq hc3).2 zk) ?_
    show own_E p e below _ (s₁.setTop (mkF m 6 #[.val (.int p1), .val (.int p2), .val (.int p3), .unset] []))
    refine own_step (fun _ zk => XS.iloadN X0.here hx rfl (hb hby d1_6) rfl zk) ?_
    show own_E p e below _ (s₁.setTop (mkF m 7 #[.val (.int p1), .val (.int p2), .val (.int p3), .unset] [(.int p1)]))
    refine own_step (fun _ zk => XS.istoreN X0.here hx rfl (hb hby d1_7) rfl (l' := #[.val (.int p1), .val (.int p2), .val (.int p3), .val (.int p1)]) rfl zk) ?_
    show own_E p e below _ (s₁.setTop (mkF m 8 #[.val (.int p1), .val (.int p2), .val (.int p3), .val (.int p1)] []))
    refine own_step (fun _ zk => XS.goto X0.here hx rfl (pc0 := 8) (pc' := 38) rfl (hb hby d1_8) (by decide) (by decide) zk) ?_
    show own_E p e below _ (s₁.setTop (mkF m 38 #[.val (.int p1), .val (.int p2), .val (.int p3), .val (.int p1)] []))
    refine own_step (fun _ zk => XS.iloadN X0.here hx rfl (hb hby d1_38) rfl zk) ?_
    show own_E p e below _ (s₁.setTop (mkF m 39 #[.val (.int p1), .val (.int p2), .val (.int p3), .val (.int p1)] [(.int p1)]))
    refine own_ret X0 hlk (v := some (.int p1)) (fun h => by rw [Bd.returns] at h; cases h) ?_ (by decide) (by decide) (fun fs hr => retI X0 hx Bd.returns (hb hby d1_39) hr)
    show Q1 Z p1 p2 p3 h0 n0 _ s₁.heap _
    rw [e0]
    refine ⟨congrArg (fun z => some (Value.int z)) ?_, N0, rfl⟩
    simp only [own_kept, hc3, if_true, if_false]
  · skip
    refine own_step (fun _ zk => XS.icmpYes X0.here hx rfl (pc0 := 3) (pc' := 11) rfl (hb hby d1_3) rfl (feq hc3).2 (by decide) (by decide) zk) ?_
    show own_E p e below _ (s₁.setTop (mkF m 11 #[.val (.int p1), .val (.int p2), .val (.int p3), .unset] []))
    refine own_step (fun _ zk => XS.iloadN X0.here hx rfl (hb hby d1_11) rfl zk) ?_
    show own_E p e below _ (s₁.setTop (mkF m 12 #[.val (.int p1), .val (.int p2), .val (.int p3), .unset] [(.int p3)]))
    by_cases hc12 : p3 = (0 : Int32)
    · skip
      refine own_step (fun _ zk => XS.ifYes X0.here hx rfl (pc0 := 12) (pc' := 30) rfl (hb hby d1_12) rfl ((if0 _ _).trans (teq hc12).1) (by decide) (by decide) zk) ?_
      show own_E p e below _ (s₁.setTop (mkF m 30 #[.val (.int p1), .val (.int p2), .val (.int p3), .unset] []))
      refine own_step (fun _ zk => XS.iloadN X0.here hx rfl (hb hby d1_30) rfl zk) ?_
      show own_E p e below _ (s₁.setTop (mkF m 31 #[.val (.int p1), .val (.int p2), .val (.int p3), .unset] [(.int p1)]))
      refine own_step (fun _ zk => XS.iconst X0.here hx rfl (hb hby d1_31) zk) ?_
      show own_E p e below _ (s₁.setTop (mkF m 32 #[.val (.int p1), .val (.int p2), .val (.int p3), .unset] [(.int (1 : Int32)), (.int p1)]))
      refine own_step (fun _ zk => XS.iloadN X0.here hx rfl (hb hby d1_32) rfl zk) ?_
      show own_E p e below _ (s₁.setTop (mkF m 33 #[.val (.int p1), .val (.int p2), .val (.int p3), .unset] [(.int p2), (.int (1 : Int32)), (.int p1)]))
      refine own_step (fun _ zk => Jvm.Free.XT.ishl X0.here hx rfl (hb hby d1_33) rfl zk) ?_
      show own_E p e below _ (s₁.setTop (mkF m 34 #[.val (.int p1), .val (.int p2), .val (.int p3), .unset] [(.int ((1 : Int32) <<< (p2 &&& 31))), (.int p1)]))
      refine own_step (fun _ zk => XS.iconst X0.here hx rfl (hb hby d1_34) zk) ?_
      show own_E p e below _ (s₁.setTop (mkF m 35 #[.val (.int p1), .val (.int p2), .val (.int p3), .unset] [(.int (1 : Int32)), (.int ((1 : Int32) <<< (p2 &&& 31))), (.int p1)]))
      refine own_step (fun _ zk => XS.isub X0.here hx rfl (hb hby d1_35) rfl zk) ?_
      show own_E p e below _ (s₁.setTop (mkF m 36 #[.val (.int p1), .val (.int p2), .val (.int p3), .unset] [(.int (((1 : Int32) <<< (p2 &&& 31)) - (1 : Int32))), (.int p1)]))
      refine own_step (fun _ zk => XS.iand X0.here hx rfl (hb hby d1_36) rfl zk) ?_
      show own_E p e below _ (s₁.setTop (mkF m 37 #[.val (.int p1), .val (.int p2), .val (.int p3), .unset] [(.int (p1 &&& (((1 : Int32) <<< (p2 &&& 31)) - (1 : Int32))))]))
      refine own_step (fun _ zk => XS.istoreN X0.here hx rfl (hb hby d1_37) rfl (l' := #[.val (.int p1), .val (.int p2), .val (.int p3), .val (.int (p1 &&& (((1 : Int32) <<< (p2 &&& 31)) - (1 : Int32))))]) rfl zk) ?_
      show own_E p e below _ (s₁.setTop (mkF m 38 #[.val (.int p1), .val (.int p2), .val (.int p3), .val (.int (p1 &&& (((1 : Int32) <<< (p2 &&& 31)) - (1 : Int32))))] []))
      refine own_step (fun _ zk => XS.iloadN X0.here hx rfl (hb hby d1_38) rfl zk) ?_
      show own_E p e below _ (s₁.setTop (mkF m 39 #[.val (.int p1), .val (.int p2), .val (.int p3), .val (.int (p1 &&& (((1 : Int32) <<< (p2 &&& 31)) - (1 : Int32))))] [(.int (p1 &&& (((1 : Int32) <<< (p2 &&& 31)) - (1 : Int32))))]))
      refine own_ret X0 hlk (v := some (.int (p1 &&& (((1 : Int32) <<< (p2 &&& 31)) - (1 : Int32))))) (fun h => by rw [Bd.returns] at h; cases h) ?_ (by decide) (by decide) (fun fs hr => retI X0 hx Bd.returns (hb hby d1_39) hr)
      show Q1 Z p1 p2 p3 h0 n0 _ s₁.heap _
      rw [e0]
      refine ⟨congrArg (fun z => some (Value.int z)) ?_, N0, rfl⟩
      simp only [own_kept, hc3, hc12, if_true, if_false]
    · skip
      refine own_step (fun _ zk => XS.ifNo X0.here hx rfl (hb hby d1_12) rfl ((if0 _ _).trans (feq hc12).1) zk) ?_
      show own_E p e below _ (s₁.setTop (mkF m 15 #[.val (.int p1), .val (.int p2), .val (.int p3), .unset] []))
      refine own_step (fun _ zk => XS.iloadN X0.here hx rfl (hb hby d1_15) rfl zk) ?_
      show own_E p e below _ (s₁.setTop (mkF m 16 #[.val (.int p1), .val (.int p2), .val (.int p3), .unset] [(.int p1)]))
      refine own_step (fun _ zk => XS.bipush X0.here hx rfl (hb hby d1_16) zk) ?_
      show own_E p e below _ (s₁.setTop (mkF m 18 #[.val (.int p1), .val (.int p2), .val (.int p3), .unset] [(.int (32 : Int32)), (.int p1)]))
      refine own_step (fun _ zk => XS.iloadN X0.here hx rfl (hb hby d1_18) rfl zk) ?_
      show own_E p e below _ (s₁.setTop (mkF m 19 #[.val (.int p1), .val (.int p2), .val (.int p3), .unset] [(.int p2), (.int (32 : Int32)), (.int p1)]))
      refine own_step (fun _ zk => XS.isub X0.here hx rfl (hb hby d1_19) rfl zk) ?_
      show own_E p e below _ (s₁.setTop (mkF m 20 #[.val (.int p1), .val (.int p2), .val (.int p3), .unset] [(.int ((32 : Int32) - p2)), (.int p1)]))
      refine own_step (fun _ zk => Jvm.Free.XT.ishl X0.here hx rfl (hb hby d1_20) rfl zk) ?_
      show own_E p e below _ (s₁.setTop (mkF m 21 #[.val (.int p1), .val (.int p2), .val (.int p3), .unset] [(.int (p1 <<< (((32 : Int32) - p2) &&& 31)))]))
      refine own_step (fun _ zk => XS.bipush X0.here hx rfl (hb hby d1_21) zk) ?_
      show own_E p e below _ (s₁.setTop (mkF m 23 #[.val (.int p1), .val (.int p2), .val (.int p3), .unset] [(.int (32 : Int32)), (.int (p1 <<< (((32 : Int32) - p2) &&& 31)))]))
      refine own_step (fun _ zk => XS.iloadN X0.here hx rfl (hb hby d1_23) rfl zk) ?_
      show own_E p e below _ (s₁.setTop (mkF m 24 #[.val (.int p1), .val (.int p2), .val (.int p3), .unset] [(.int p2), (.int (32 : Int32)), (.int (p1 <<< (((32 : Int32) - p2) &&& 31)))]))
      refine own_step (fun _ zk => XS.isub X0.here hx rfl (hb hby d1_24) rfl zk) ?_
      show own_E p e below _ (s₁.setTop (mkF m 25 #[.val (.int p1), .val (.int p2), .val (.int p3), .unset] [(.int ((32 : Int32) - p2)), (.int (p1 <<< (((32 : Int32) - p2) &&& 31)))]))
      refine own_step (fun _ zk => Jvm.Free.XT.ishr X0.here hx rfl (hb hby d1_25) rfl zk) ?_
      show own_E p e below _ (s₁.setTop (mkF m 26 #[.val (.int p1), .val (.int p2), .val (.int p3), .unset] [(.int ((p1 <<< (((32 : Int32) - p2) &&& 31)) >>> (((32 : Int32) - p2) &&& 31)))]))
      refine own_step (fun _ zk => XS.istoreN X0.here hx rfl (hb hby d1_26) rfl (l' := #[.val (.int p1), .val (.int p2), .val (.int p3), .val (.int ((p1 <<< (((32 : Int32) - p2) &&& 31)) >>> (((32 : Int32) - p2) &&& 31)))]) rfl zk) ?_
      show own_E p e below _ (s₁.setTop (mkF m 27 #[.val (.int p1), .val (.int p2), .val (.int p3), .val (.int ((p1 <<< (((32 : Int32) - p2) &&& 31)) >>> (((32 : Int32) - p2) &&& 31)))] []))
      refine own_step (fun _ zk => XS.goto X0.here hx rfl (pc0 := 27) (pc' := 38) rfl (hb hby d1_27) (by decide) (by decide) zk) ?_
      show own_E p e below _ (s₁.setTop (mkF m 38 #[.val (.int p1), .val (.int p2), .val (.int p3), .val (.int ((p1 <<< (((32 : Int32) - p2) &&& 31)) >>> (((32 : Int32) - p2) &&& 31)))] []))
      refine own_step (fun _ zk => XS.iloadN X0.here hx rfl (hb hby d1_38) rfl zk) ?_
      show own_E p e below _ (s₁.setTop (mkF m 39 #[.val (.int p1), .val (.int p2), .val (.int p3), .val (.int ((p1 <<< (((32 : Int32) - p2) &&& 31)) >>> (((32 : Int32) - p2) &&& 31)))] [(.int ((p1 <<< (((32 : Int32) - p2) &&& 31)) >>> (((32 : Int32) - p2) &&& 31)))]))
      refine own_ret X0 hlk (v := some (.int ((p1 <<< (((32 : Int32) - p2) &&& 31)) >>> (((32 : Int32) - p2) &&& 31)))) (fun h => by rw [Bd.returns] at h; cases h) ?_ (by decide) (by decide) (fun fs hr => retI X0 hx Bd.returns (hb hby d1_39) hr)
      show Q1 Z p1 p2 p3 h0 n0 _ s₁.heap _
      rw [e0]
      refine ⟨congrArg (fun z => some (Value.int z)) ?_, N0, rfl⟩
      simp only [own_kept, hc3, hc12, if_true, if_false]
theorem pd_0_0 : parseMethodDescriptor "(IIZ)I" = some ⟨[.int, .int, .boolean], some .int⟩ := by decide +kernel
theorem pn_0 : plainName "com/example/spurion/spurion/channel/promela/PromelaVariableKeptPinLaw" = true := by first | (simp [plainName, overriddenIn]; done) | decide +kernel
theorem ef_0 (m : MethodId) (p1 : Int32) (p2 : Int32) (p3 : Int32)  : entryFrame m #[(.int p1), (.int p2), (.int p3)] maxLocals = mkF m 0 #[.val (.int p1), .val (.int p2), .val (.int p3), .unset, .unset, .unset, .unset, .unset, .unset, .unset, .unset, .unset, .unset, .unset, .unset, .unset] [] := by first | (simp [entryFrame, mkF, argsToLocals, Value.category, maxLocals]; done) | rfl
def Q0 (Z : State) (p1 : Int32) (p2 : Int32) (p3 : Int32)  (h0 : Heap) (n0 : Nat) (v : Option Value) (h : Heap) (L : List Loc) : Prop := v = some (.int 1) ∧ Fr n0 L
set_option maxRecDepth 65536 in
set_option maxHeartbeats 40000000 in
theorem rm0 (l : Launch) (Z : State) (a0 : Array Value) (hw : ∀ d ∈ tables_1, d.before a0 Z = true) (ws : List Jvm.Cond) (p1 : Int32) (p2 : Int32) (p3 : Int32)  (h0 : Heap) (n0 : Nat) (Z0 : n0 ≤ h0.size)  :
    MetFree l x (head1 (Jvm.Cond.code x code maxLocals ret :: ws) room_1) (fun a U => a = #[(.int p1), (.int p2), (.int p3)] ∧ Z.Warmed39 U.vm ∧ U.heap = h0) (fun _ _ _ _ _ => True) (fun _ U o U' => ∃ v L, o = .returned v ∧ Q0 Z p1 p2 p3 h0 n0 v U'.heap L ∧ FrameEnd U o U' L room_1.cells room_1.slots) := by
  refine MetFree.of_bodySF (plainFor_of_name pn_0) hisR ?_
  intro p e s m args below meth c s₁ Bd hml0 hP hK
  obtain ⟨rfl, hZ, hh⟩ := hP
  have hx := Bd.exec
  have hby := Bd.bytes
  have hml : c.maxLocals = 16 := hml0
  have hown : s.vm.findClass "com/example/spurion/spurion/channel/promela/PromelaVariableKeptPinLaw" = some m.cls := findClass_of_methodNamed Bd.named
  have hnm := (name_of_methodNamed Bd.named Bd.method).1
  have hlk : meth.locks = false := Bd.notSynchronized
  have X0 : Stand p l e room_1 s m #[(.int p1), (.int p2), (.int p3)] below meth c s₁ [] 0 0 := Stand.of_body Bd
  have e0 : s₁.heap = h0 := by rw [← hh, Bd.state]; rfl
  have N0 := Fr.nil n0
  refine own_step (p := p) (e := e) (below := below) (U' := s₁.setTop (mkF m 0 #[.val (.int p1), .val (.int p2), .val (.int p3), .unset, .unset, .unset, .unset, .unset, .unset, .unset, .unset, .unset, .unset, .unset, .unset, .unset] [])) (fun _ zk => castTop (ef_0 m p1 p2 p3 ) zk) ?_
  refine own_step (fun _ zk => XS.iloadN X0.here hx rfl (hb hby at_0) rfl zk) ?_
  show own_E p e below _ (s₁.setTop (mkF m 1 #[.val (.int p1), .val (.int p2), .val (.int p3), .unset, .unset, .unset, .unset, .unset, .unset, .unset, .unset, .unset, .unset, .unset, .unset, .unset] [(.int p2)]))
  refine own_step (fun _ zk => X0.ldcInt hx (v := 2147483647) hown (mvT hZ (hw _ (List.mem_of_getElem? (i := 0) rfl))) (g := (mkF m 1 #[.val (.int p1), .val (.int p2), .val (.int p3), .unset, .unset, .unset, .unset, .unset, .unset, .unset, .unset, .unset, .unset, .unset, .unset, .unset] [(.int p2)])) rfl (hb hby at_1) _ zk) ?_
  show own_E p e below _ (s₁.setTop (mkF m 3 #[.val (.int p1), .val (.int p2), .val (.int p3), .unset, .unset, .unset, .unset, .unset, .unset, .unset, .unset, .unset, .unset, .unset, .unset, .unset] [(.int (2147483647 : Int32)), (.int p2)]))
  refine own_step (fun _ zk => XS.iand X0.here hx rfl (hb hby at_3) rfl zk) ?_
  show own_E p e below _ (s₁.setTop (mkF m 4 #[.val (.int p1), .val (.int p2), .val (.int p3), .unset, .unset, .unset, .unset, .unset, .unset, .unset, .unset, .unset, .unset, .unset, .unset, .unset] [(.int (p2 &&& (2147483647 : Int32)))]))
  refine own_step (fun _ zk => XS.bipush X0.here hx rfl (hb hby at_4) zk) ?_
  show own_E p e below _ (s₁.setTop (mkF m 6 #[.val (.int p1), .val (.int p2), .val (.int p3), .unset, .unset, .unset, .unset, .unset, .unset, .unset, .unset, .unset, .unset, .unset, .unset, .unset] [(.int (32 : Int32)), (.int (p2 &&& (2147483647 : Int32)))]))
  refine own_step (fun _ zk => XS.irem X0.here hx rfl (hb hby at_6) rfl (by decide) zk) ?_
  show own_E p e below _ (s₁.setTop (mkF m 7 #[.val (.int p1), .val (.int p2), .val (.int p3), .unset, .unset, .unset, .unset, .unset, .unset, .unset, .unset, .unset, .unset, .unset, .unset, .unset] [(.int ((p2 &&& (2147483647 : Int32)) - ((p2 &&& (2147483647 : Int32)) / (32 : Int32)) * (32 : Int32)))]))
  refine own_step (fun _ zk => XS.iconst X0.here hx rfl (hb hby at_7) zk) ?_
  show own_E p e below _ (s₁.setTop (mkF m 8 #[.val (.int p1), .val (.int p2), .val (.int p3), .unset, .unset, .unset, .unset, .unset, .unset, .unset, .unset, .unset, .unset, .unset, .unset, .unset] [(.int (1 : Int32)), (.int ((p2 &&& (2147483647 : Int32)) - ((p2 &&& (2147483647 : Int32)) / (32 : Int32)) * (32 : Int32)))]))
  refine own_step (fun _ zk => XS.iadd X0.here hx rfl (hb hby at_8) rfl zk) ?_
  show own_E p e below _ (s₁.setTop (mkF m 9 #[.val (.int p1), .val (.int p2), .val (.int p3), .unset, .unset, .unset, .unset, .unset, .unset, .unset, .unset, .unset, .unset, .unset, .unset, .unset] [(.int (((p2 &&& (2147483647 : Int32)) - ((p2 &&& (2147483647 : Int32)) / (32 : Int32)) * (32 : Int32)) + (1 : Int32)))]))
  generalize hB : (((p2 &&& (2147483647 : Int32)) - ((p2 &&& (2147483647 : Int32)) / (32 : Int32)) * (32 : Int32)) + (1 : Int32)) = B
  show own_E p e below _ (s₁.setTop (mkF m 9 #[.val (.int p1), .val (.int p2), .val (.int p3), .unset, .unset, .unset, .unset, .unset, .unset, .unset, .unset, .unset, .unset, .unset, .unset, .unset] [(.int B)]))
  obtain ⟨k, hk0, hk1, hk2⟩ := own_bits _ _ hB
  refine own_step (fun _ zk => XS.istoreN X0.here hx rfl (hb hby at_9) rfl (l' := #[.val (.int p1), .val (.int p2), .val (.int p3), .val (.int B), .unset, .unset, .unset, .unset, .unset, .unset, .unset, .unset, .unset, .unset, .unset, .unset]) rfl zk) ?_
  show own_E p e below _ (s₁.setTop (mkF m 10 #[.val (.int p1), .val (.int p2), .val (.int p3), .val (.int B), .unset, .unset, .unset, .unset, .unset, .unset, .unset, .unset, .unset, .unset, .unset, .unset] []))
  refine own_step (fun _ zk => XS.iloadN X0.here hx rfl (hb hby at_10) rfl zk) ?_
  show own_E p e below _ (s₁.setTop (mkF m 11 #[.val (.int p1), .val (.int p2), .val (.int p3), .val (.int B), .unset, .unset, .unset, .unset, .unset, .unset, .unset, .unset, .unset, .unset, .unset, .unset] [(.int p3)]))
  refine own_step (fun _ zk => XS.iconst X0.here hx rfl (hb hby at_11) zk) ?_
  show own_E p e below _ (s₁.setTop (mkF m 12 #[.val (.int p1), .val (.int p2), .val (.int p3), .val (.int B), .unset, .unset, .unset, .unset, .unset, .unset, .unset, .unset, .unset, .unset, .unset, .unset] [(.int (1 : Int32)), (.int p3)]))
  refine own_step (fun _ zk => XS.iand X0.here hx rfl (hb hby at_12) rfl zk) ?_
  show own_E p e below _ (s₁.setTop (mkF m 13 #[.val (.int p1), .val (.int p2), .val (.int p3), .val (.int B), .unset, .unset, .unset, .unset, .unset, .unset, .unset, .unset, .unset, .unset, .unset, .unset] [(.int (p3 &&& (1 : Int32)))]))
  by_cases hc13 : (p3 &&& (1 : Int32)) = (0 : Int32)
  · skip
    refine own_step (fun _ zk => XS.ifYes X0.here hx rfl (pc0 := 13) (pc' := 20) rfl (hb hby at_13) rfl ((if0 _ _).trans (teq hc13).1) (by decide) (by decide) zk) ?_
    show own_E p e below _ (s₁.setTop (mkF m 20 #[.val (.int p1), .val (.int p2), .val (.int p3), .val (.int B), .unset, .unset, .unset, .unset, .unset, .unset, .unset, .unset, .unset, .unset, .unset, .unset] []))
    refine own_step (fun _ zk => XS.iconst X0.here hx rfl (hb hby at_20) zk) ?_
    show own_E p e below _ (s₁.setTop (mkF m 21 #[.val (.int p1), .val (.int p2), .val (.int p3), .val (.int B), .unset, .unset, .unset, .unset, .unset, .unset, .unset, .unset, .unset, .unset, .unset, .unset] [(.int (0 : Int32))]))
    refine own_step (fun _ zk => XS.istore X0.here hx rfl (hb hby at_21) rfl (l' := #[.val (.int p1), .val (.int p2), .val (.int p3), .val (.int B), .val (.int (0 : Int32)), .unset, .unset, .unset, .unset, .unset, .unset, .unset, .unset, .unset, .unset, .unset]) rfl zk) ?_
    show own_E p e below _ (s₁.setTop (mkF m 23 #[.val (.int p1), .val (.int p2), .val (.int p3), .val (.int B), .val (.int (0 : Int32)), .unset, .unset, .unset, .unset, .unset, .unset, .unset, .unset, .unset, .unset, .unset] []))
    refine own_step (fun _ zk => XS.iloadN X0.here hx rfl (hb hby at_23) rfl zk) ?_
    show own_E p e below _ (s₁.setTop (mkF m 24 #[.val (.int p1), .val (.int p2), .val (.int p3), .val (.int B), .val (.int (0 : Int32)), .unset, .unset, .unset, .unset, .unset, .unset, .unset, .unset, .unset, .unset, .unset] [(.int p1)]))
    refine own_step (fun _ zk => XS.iloadN X0.here hx rfl (hb hby at_24) rfl zk) ?_
    show own_E p e below _ (s₁.setTop (mkF m 25 #[.val (.int p1), .val (.int p2), .val (.int p3), .val (.int B), .val (.int (0 : Int32)), .unset, .unset, .unset, .unset, .unset, .unset, .unset, .unset, .unset, .unset, .unset] [(.int B), (.int p1)]))
    refine own_step (fun _ zk => XS.iload X0.here hx rfl (hb hby at_25) rfl zk) ?_
    show own_E p e below _ (s₁.setTop (mkF m 27 #[.val (.int p1), .val (.int p2), .val (.int p3), .val (.int B), .val (.int (0 : Int32)), .unset, .unset, .unset, .unset, .unset, .unset, .unset, .unset, .unset, .unset, .unset] [(.int (0 : Int32)), (.int B), (.int p1)]))
    obtain ⟨_, _, ⟨T1, L1, k1, n1⟩, -, X1, ⟨Lc1, hQ1, l1, y1, z1⟩, st1⟩ := Jvm.LawKit.callS X0 hx (y := (⟨"com/example/spurion/spurion/channel/promela/PromelaVariable", "kept", "(IIZ)I"⟩ : MethodName)) hown (mvT hZ (hw _ (List.mem_of_getElem? (i := 1) rfl))) (mvT hZ (hw _ (List.mem_of_getElem? (i := 2) rfl))) (mvT hZ (hw _ (List.mem_of_getElem? (i := 3) rfl))) (mvT hZ (hw _ (List.mem_of_getElem? (i := 4) rfl))) (by decide) (backOf (W := 0) (rm1 l Z a0 hw [] p1 B (0 : Int32)  h0 n0 Z0) hZ (hw _ (List.mem_of_getElem? (i := 4) rfl)) (hw _ (List.mem_of_getElem? (i := 3) rfl)) (by decide) (by decide)) (g := (mkF m 27 #[.val (.int p1), .val (.int p2), .val (.int p3), .val (.int B), .val (.int (0 : Int32)), .unset, .unset, .unset, .unset, .unset, .unset, .unset, .unset, .unset, .unset, .unset] [(.int (0 : Int32)), (.int B), (.int p1)])) rfl (by rw [hml]; rfl) (argsL := [(.int p1), (.int B), (.int (0 : Int32))]) (rest := []) (lenOf pd_0_0 rfl) rfl (by show 2 * 0 + _ ≤ _; exact Nat.le_of_eq rfl) (hb hby at_27) (fun _ _ => ⟨rfl, e0, (by decide : 0 + 0 ≤ _), (by decide : 0 + 0 ≤ _)⟩)
    dsimp only [Pt.U, Pt.locs, Pt.cells, Pt.slots] at X1 l1 y1 z1 st1 hQ1
    subst l1 y1 z1
    obtain ⟨rfl, N1q, e1⟩ := hQ1
    have N1 := Fr.app N0 N1q
    refine own_step (st1) ?_
    show own_E p e below _ (T1.setTop (mkF m 30 #[.val (.int p1), .val (.int p2), .val (.int p3), .val (.int B), .val (.int (0 : Int32)), .unset, .unset, .unset, .unset, .unset, .unset, .unset, .unset, .unset, .unset, .unset] [(.int (own_kept p1 B (0 : Int32)))]))
    refine own_step (fun _ zk => XS.istore X1.here hx rfl (hb hby at_30) rfl (l' := #[.val (.int p1), .val (.int p2), .val (.int p3), .val (.int B), .val (.int (0 : Int32)), .val (.int (own_kept p1 B (0 : Int32))), .unset, .unset, .unset, .unset, .unset, .unset, .unset, .unset, .unset, .unset]) rfl zk) ?_
    show own_E p e below _ (T1.setTop (mkF m 32 #[.val (.int p1), .val (.int p2), .val (.int p3), .val (.int B), .val (.int (0 : Int32)), .val (.int (own_kept p1 B (0 : Int32))), .unset, .unset, .unset, .unset, .unset, .unset, .unset, .unset, .unset, .unset] []))
    refine own_step (fun _ zk => XS.iloadN X1.here hx rfl (hb hby at_32) rfl zk) ?_
    show own_E p e below _ (T1.setTop (mkF m 33 #[.val (.int p1), .val (.int p2), .val (.int p3), .val (.int B), .val (.int (0 : Int32)), .val (.int (own_kept p1 B (0 : Int32))), .unset, .unset, .unset, .unset, .unset, .unset, .unset, .unset, .unset, .unset] [(.int B)]))
    refine own_step (fun _ zk => XS.bipush X1.here hx rfl (hb hby at_33) zk) ?_
    show own_E p e below _ (T1.setTop (mkF m 35 #[.val (.int p1), .val (.int p2), .val (.int p3), .val (.int B), .val (.int (0 : Int32)), .val (.int (own_kept p1 B (0 : Int32))), .unset, .unset, .unset, .unset, .unset, .unset, .unset, .unset, .unset, .unset] [(.int (32 : Int32)), (.int B)]))
    by_cases hc35 : B = (32 : Int32)
    · skip
      refine own_step (fun _ zk => XS.icmpNo X1.here hx rfl (hb hby at_35) rfl (teq hc35).2 zk) ?_
      show own_E p e below _ (T1.setTop (mkF m 38 #[.val (.int p1), .val (.int p2), .val (.int p3), .val (.int B), .val (.int (0 : Int32)), .val (.int (own_kept p1 B (0 : Int32))), .unset, .unset, .unset, .unset, .unset, .unset, .unset, .unset, .unset, .unset] []))
      refine own_step (fun _ zk => XS.iload X1.here hx rfl (hb hby at_38) rfl zk) ?_
      show own_E p e below _ (T1.setTop (mkF m 40 #[.val (.int p1), .val (.int p2), .val (.int p3), .val (.int B), .val (.int (0 : Int32)), .val (.int (own_kept p1 B (0 : Int32))), .unset, .unset, .unset, .unset, .unset, .unset, .unset, .unset, .unset, .unset] [(.int (own_kept p1 B (0 : Int32)))]))
      refine own_step (fun _ zk => XS.iloadN X1.here hx rfl (hb hby at_40) rfl zk) ?_
      show own_E p e below _ (T1.setTop (mkF m 41 #[.val (.int p1), .val (.int p2), .val (.int p3), .val (.int B), .val (.int (0 : Int32)), .val (.int (own_kept p1 B (0 : Int32))), .unset, .unset, .unset, .unset, .unset, .unset, .unset, .unset, .unset, .unset] [(.int p1), (.int (own_kept p1 B (0 : Int32)))]))
      refine own_step (fun _ zk => XS.icmpNo X1.here hx rfl (hb hby at_41) rfl (teq (own_kept32 _ _ hc35)).2 zk) ?_
      show own_E p e below _ (T1.setTop (mkF m 44 #[.val (.int p1), .val (.int p2), .val (.int p3), .val (.int B), .val (.int (0 : Int32)), .val (.int (own_kept p1 B (0 : Int32))), .unset, .unset, .unset, .unset, .unset, .unset, .unset, .unset, .unset, .unset] []))
      refine own_step (fun _ zk => XS.iconst X1.here hx rfl (hb hby at_44) zk) ?_
      show own_E p e below _ (T1.setTop (mkF m 45 #[.val (.int p1), .val (.int p2), .val (.int p3), .val (.int B), .val (.int (0 : Int32)), .val (.int (own_kept p1 B (0 : Int32))), .unset, .unset, .unset, .unset, .unset, .unset, .unset, .unset, .unset, .unset] [(.int (1 : Int32))]))
      refine own_step (fun _ zk => XS.goto X1.here hx rfl (pc0 := 45) (pc' := 49) rfl (hb hby at_45) (by decide) (by decide) zk) ?_
      show own_E p e below _ (T1.setTop (mkF m 49 #[.val (.int p1), .val (.int p2), .val (.int p3), .val (.int B), .val (.int (0 : Int32)), .val (.int (own_kept p1 B (0 : Int32))), .unset, .unset, .unset, .unset, .unset, .unset, .unset, .unset, .unset, .unset] [(.int (1 : Int32))]))
      refine own_ret X1 hlk (v := some (.int (nar .boolean (1 : Int32)))) (fun h => by rw [Bd.returns] at h; cases h) ?_ (by decide) (by decide) (fun fs hr => retN X1 hx (t := .boolean) Bd.returns (by simp) (hb hby at_49) hr)
      show Q0 Z p1 p2 p3 h0 n0 _ T1.heap _
      rw [e1]
      exact ⟨by decide, N1⟩
    · skip
      refine own_step (fun _ zk => XS.icmpYes X1.here hx rfl (pc0 := 35) (pc' := 50) rfl (hb hby at_35) rfl (feq hc35).2 (by decide) (by decide) zk) ?_
      show own_E p e below _ (T1.setTop (mkF m 50 #[.val (.int p1), .val (.int p2), .val (.int p3), .val (.int B), .val (.int (0 : Int32)), .val (.int (own_kept p1 B (0 : Int32))), .unset, .unset, .unset, .unset, .unset, .unset, .unset, .unset, .unset, .unset] []))
      have hk3 : k < 32 := by rcases Nat.lt_or_ge k 32 with h | h; exact h; exact absurd (hk0.trans (by rw [show k = 32 by omega]; rfl)) hc35
      refine own_step (fun _ zk => Jvm.Free.XT.lconst X1.here hx rfl (hb hby at_50) zk) ?_
      show own_E p e below _ (T1.setTop (mkF m 51 #[.val (.int p1), .val (.int p2), .val (.int p3), .val (.int B), .val (.int (0 : Int32)), .val (.int (own_kept p1 B (0 : Int32))), .unset, .unset, .unset, .unset, .unset, .unset, .unset, .unset, .unset, .unset] [(.long (1 : Int64))]))
      refine own_step (fun _ zk => XS.iloadN X1.here hx rfl (hb hby at_51) rfl zk) ?_
      show own_E p e below _ (T1.setTop (mkF m 52 #[.val (.int p1), .val (.int p2), .val (.int p3), .val (.int B), .val (.int (0 : Int32)), .val (.int (own_kept p1 B (0 : Int32))), .unset, .unset, .unset, .unset, .unset, .unset, .unset, .unset, .unset, .unset] [(.int B), (.long (1 : Int64))]))
      refine own_step (fun _ zk => Jvm.Free.XT.lshl X1.here hx rfl (hb hby at_52) rfl zk) ?_
      show own_E p e below _ (T1.setTop (mkF m 53 #[.val (.int p1), .val (.int p2), .val (.int p3), .val (.int B), .val (.int (0 : Int32)), .val (.int (own_kept p1 B (0 : Int32))), .unset, .unset, .unset, .unset, .unset, .unset, .unset, .unset, .unset, .unset] [(.long ((1 : Int64) <<< ((B).toInt64 &&& 63)))]))
      refine own_step (fun _ zk => Jvm.Free.XT.lstore X1.here hx rfl (hb hby at_53) rfl (l' := #[.val (.int p1), .val (.int p2), .val (.int p3), .val (.int B), .val (.int (0 : Int32)), .val (.int (own_kept p1 B (0 : Int32))), .val (.long ((1 : Int64) <<< ((B).toInt64 &&& 63))), .second, .unset, .unset, .unset, .unset, .unset, .unset, .unset, .unset]) rfl zk) ?_
      show own_E p e below _ (T1.setTop (mkF m 55 #[.val (.int p1), .val (.int p2), .val (.int p3), .val (.int B), .val (.int (0 : Int32)), .val (.int (own_kept p1 B (0 : Int32))), .val (.long ((1 : Int64) <<< ((B).toInt64 &&& 63))), .second, .unset, .unset, .unset, .unset, .unset, .unset, .unset, .unset] []))
      refine own_step (fun _ zk => XS.iloadN X1.here hx rfl (hb hby at_55) rfl zk) ?_
      show own_E p e below _ (T1.setTop (mkF m 56 #[.val (.int p1), .val (.int p2), .val (.int p3), .val (.int B), .val (.int (0 : Int32)), .val (.int (own_kept p1 B (0 : Int32))), .val (.long ((1 : Int64) <<< ((B).toInt64 &&& 63))), .second, .unset, .unset, .unset, .unset, .unset, .unset, .unset, .unset] [(.int p1)]))
      refine own_step (fun _ zk => Jvm.Free.XT.i2l X1.here hx rfl (hb hby at_56) rfl zk) ?_
      show own_E p e below _ (T1.setTop (mkF m 57 #[.val (.int p1), .val (.int p2), .val (.int p3), .val (.int B), .val (.int (0 : Int32)), .val (.int (own_kept p1 B (0 : Int32))), .val (.long ((1 : Int64) <<< ((B).toInt64 &&& 63))), .second, .unset, .unset, .unset, .unset, .unset, .unset, .unset, .unset] [(.long (Int32.toInt64 p1))]))
      refine own_step (fun _ zk => XS.iload X1.here hx rfl (hb hby at_57) rfl zk) ?_
      show own_E p e below _ (T1.setTop (mkF m 59 #[.val (.int p1), .val (.int p2), .val (.int p3), .val (.int B), .val (.int (0 : Int32)), .val (.int (own_kept p1 B (0 : Int32))), .val (.long ((1 : Int64) <<< ((B).toInt64 &&& 63))), .second, .unset, .unset, .unset, .unset, .unset, .unset, .unset, .unset] [(.int (own_kept p1 B (0 : Int32))), (.long (Int32.toInt64 p1))]))
      refine own_step (fun _ zk => Jvm.Free.XT.i2l X1.here hx rfl (hb hby at_59) rfl zk) ?_
      show own_E p e below _ (T1.setTop (mkF m 60 #[.val (.int p1), .val (.int p2), .val (.int p3), .val (.int B), .val (.int (0 : Int32)), .val (.int (own_kept p1 B (0 : Int32))), .val (.long ((1 : Int64) <<< ((B).toInt64 &&& 63))), .second, .unset, .unset, .unset, .unset, .unset, .unset, .unset, .unset] [(.long (Int32.toInt64 (own_kept p1 B (0 : Int32)))), (.long (Int32.toInt64 p1))]))
      refine own_step (fun _ zk => Jvm.Free.XT.lsub X1.here hx rfl (hb hby at_60) rfl zk) ?_
      show own_E p e below _ (T1.setTop (mkF m 61 #[.val (.int p1), .val (.int p2), .val (.int p3), .val (.int B), .val (.int (0 : Int32)), .val (.int (own_kept p1 B (0 : Int32))), .val (.long ((1 : Int64) <<< ((B).toInt64 &&& 63))), .second, .unset, .unset, .unset, .unset, .unset, .unset, .unset, .unset] [(.long ((Int32.toInt64 p1) - (Int32.toInt64 (own_kept p1 B (0 : Int32)))))]))
      refine own_step (fun _ zk => Jvm.Free.XT.lstore X1.here hx rfl (hb hby at_61) rfl (l' := #[.val (.int p1), .val (.int p2), .val (.int p3), .val (.int B), .val (.int (0 : Int32)), .val (.int (own_kept p1 B (0 : Int32))), .val (.long ((1 : Int64) <<< ((B).toInt64 &&& 63))), .second, .val (.long ((Int32.toInt64 p1) - (Int32.toInt64 (own_kept p1 B (0 : Int32))))), .second, .unset, .unset, .unset, .unset, .unset, .unset]) rfl zk) ?_
      show own_E p e below _ (T1.setTop (mkF m 63 #[.val (.int p1), .val (.int p2), .val (.int p3), .val (.int B), .val (.int (0 : Int32)), .val (.int (own_kept p1 B (0 : Int32))), .val (.long ((1 : Int64) <<< ((B).toInt64 &&& 63))), .second, .val (.long ((Int32.toInt64 p1) - (Int32.toInt64 (own_kept p1 B (0 : Int32))))), .second, .unset, .unset, .unset, .unset, .unset, .unset] []))
      refine own_step (fun _ zk => Jvm.Free.XT.lload X1.here hx rfl (hb hby at_63) rfl zk) ?_
      show own_E p e below _ (T1.setTop (mkF m 65 #[.val (.int p1), .val (.int p2), .val (.int p3), .val (.int B), .val (.int (0 : Int32)), .val (.int (own_kept p1 B (0 : Int32))), .val (.long ((1 : Int64) <<< ((B).toInt64 &&& 63))), .second, .val (.long ((Int32.toInt64 p1) - (Int32.toInt64 (own_kept p1 B (0 : Int32))))), .second, .unset, .unset, .unset, .unset, .unset, .unset] [(.long ((Int32.toInt64 p1) - (Int32.toInt64 (own_kept p1 B (0 : Int32)))))]))
      refine own_step (fun _ zk => Jvm.Free.XT.lload X1.here hx rfl (hb hby at_65) rfl zk) ?_
      show own_E p e below _ (T1.setTop (mkF m 67 #[.val (.int p1), .val (.int p2), .val (.int p3), .val (.int B), .val (.int (0 : Int32)), .val (.int (own_kept p1 B (0 : Int32))), .val (.long ((1 : Int64) <<< ((B).toInt64 &&& 63))), .second, .val (.long ((Int32.toInt64 p1) - (Int32.toInt64 (own_kept p1 B (0 : Int32))))), .second, .unset, .unset, .unset, .unset, .unset, .unset] [(.long ((1 : Int64) <<< ((B).toInt64 &&& 63))), (.long ((Int32.toInt64 p1) - (Int32.toInt64 (own_kept p1 B (0 : Int32)))))]))
      refine own_step (fun _ zk => Jvm.Free.XT.lrem X1.here hx rfl (hb hby at_67) rfl (own_mnz k hk0 hk3) zk) ?_
      show own_E p e below _ (T1.setTop (mkF m 68 #[.val (.int p1), .val (.int p2), .val (.int p3), .val (.int B), .val (.int (0 : Int32)), .val (.int (own_kept p1 B (0 : Int32))), .val (.long ((1 : Int64) <<< ((B).toInt64 &&& 63))), .second, .val (.long ((Int32.toInt64 p1) - (Int32.toInt64 (own_kept p1 B (0 : Int32))))), .second, .unset, .unset, .unset, .unset, .unset, .unset] [(.long (((Int32.toInt64 p1) - (Int32.toInt64 (own_kept p1 B (0 : Int32)))) - (((Int32.toInt64 p1) - (Int32.toInt64 (own_kept p1 B (0 : Int32)))) / ((1 : Int64) <<< ((B).toInt64 &&& 63))) * ((1 : Int64) <<< ((B).toInt64 &&& 63))))]))
      refine own_step (fun _ zk => Jvm.Free.XT.lconst X1.here hx rfl (hb hby at_68) zk) ?_
      show own_E p e below _ (T1.setTop (mkF m 69 #[.val (.int p1), .val (.int p2), .val (.int p3), .val (.int B), .val (.int (0 : Int32)), .val (.int (own_kept p1 B (0 : Int32))), .val (.long ((1 : Int64) <<< ((B).toInt64 &&& 63))), .second, .val (.long ((Int32.toInt64 p1) - (Int32.toInt64 (own_kept p1 B (0 : Int32))))), .second, .unset, .unset, .unset, .unset, .unset, .unset] [(.long (0 : Int64)), (.long (((Int32.toInt64 p1) - (Int32.toInt64 (own_kept p1 B (0 : Int32)))) - (((Int32.toInt64 p1) - (Int32.toInt64 (own_kept p1 B (0 : Int32)))) / ((1 : Int64) <<< ((B).toInt64 &&& 63))) * ((1 : Int64) <<< ((B).toInt64 &&& 63))))]))
      refine own_step (fun _ zk => Jvm.Free.XT.lcmp X1.here hx rfl (hb hby at_69) rfl zk) ?_
      show own_E p e below _ (T1.setTop (mkF m 70 #[.val (.int p1), .val (.int p2), .val (.int p3), .val (.int B), .val (.int (0 : Int32)), .val (.int (own_kept p1 B (0 : Int32))), .val (.long ((1 : Int64) <<< ((B).toInt64 &&& 63))), .second, .val (.long ((Int32.toInt64 p1) - (Int32.toInt64 (own_kept p1 B (0 : Int32))))), .second, .unset, .unset, .unset, .unset, .unset, .unset] [(.int (Jvm.Free.XT.cmpL (((Int32.toInt64 p1) - (Int32.toInt64 (own_kept p1 B (0 : Int32)))) - (((Int32.toInt64 p1) - (Int32.toInt64 (own_kept p1 B (0 : Int32)))) / ((1 : Int64) <<< ((B).toInt64 &&& 63))) * ((1 : Int64) <<< ((B).toInt64 &&& 63))) (0 : Int64)))]))
      refine own_step (fun _ zk => XS.ifNo X1.here hx rfl (hb hby at_70) rfl (own_lc_ne_f (own_cong _ _ k hk0 hk1 hk3)) zk) ?_
      show own_E p e below _ (T1.setTop (mkF m 73 #[.val (.int p1), .val (.int p2), .val (.int p3), .val (.int B), .val (.int (0 : Int32)), .val (.int (own_kept p1 B (0 : Int32))), .val (.long ((1 : Int64) <<< ((B).toInt64 &&& 63))), .second, .val (.long ((Int32.toInt64 p1) - (Int32.toInt64 (own_kept p1 B (0 : Int32))))), .second, .unset, .unset, .unset, .unset, .unset, .unset] []))
      refine own_step (fun _ zk => XS.iconst X1.here hx rfl (hb hby at_73) zk) ?_
      show own_E p e below _ (T1.setTop (mkF m 74 #[.val (.int p1), .val (.int p2), .val (.int p3), .val (.int B), .val (.int (0 : Int32)), .val (.int (own_kept p1 B (0 : Int32))), .val (.long ((1 : Int64) <<< ((B).toInt64 &&& 63))), .second, .val (.long ((Int32.toInt64 p1) - (Int32.toInt64 (own_kept p1 B (0 : Int32))))), .second, .unset, .unset, .unset, .unset, .unset, .unset] [(.int (1 : Int32))]))
      refine own_step (fun _ zk => XS.goto X1.here hx rfl (pc0 := 74) (pc' := 78) rfl (hb hby at_74) (by decide) (by decide) zk) ?_
      show own_E p e below _ (T1.setTop (mkF m 78 #[.val (.int p1), .val (.int p2), .val (.int p3), .val (.int B), .val (.int (0 : Int32)), .val (.int (own_kept p1 B (0 : Int32))), .val (.long ((1 : Int64) <<< ((B).toInt64 &&& 63))), .second, .val (.long ((Int32.toInt64 p1) - (Int32.toInt64 (own_kept p1 B (0 : Int32))))), .second, .unset, .unset, .unset, .unset, .unset, .unset] [(.int (1 : Int32))]))
      refine own_step (fun _ zk => XS.istore X1.here hx rfl (hb hby at_78) rfl (l' := #[.val (.int p1), .val (.int p2), .val (.int p3), .val (.int B), .val (.int (0 : Int32)), .val (.int (own_kept p1 B (0 : Int32))), .val (.long ((1 : Int64) <<< ((B).toInt64 &&& 63))), .second, .val (.long ((Int32.toInt64 p1) - (Int32.toInt64 (own_kept p1 B (0 : Int32))))), .second, .val (.int (1 : Int32)), .unset, .unset, .unset, .unset, .unset]) rfl zk) ?_
      show own_E p e below _ (T1.setTop (mkF m 80 #[.val (.int p1), .val (.int p2), .val (.int p3), .val (.int B), .val (.int (0 : Int32)), .val (.int (own_kept p1 B (0 : Int32))), .val (.long ((1 : Int64) <<< ((B).toInt64 &&& 63))), .second, .val (.long ((Int32.toInt64 p1) - (Int32.toInt64 (own_kept p1 B (0 : Int32))))), .second, .val (.int (1 : Int32)), .unset, .unset, .unset, .unset, .unset] []))
      refine own_step (fun _ zk => XS.iload X1.here hx rfl (hb hby at_80) rfl zk) ?_
      show own_E p e below _ (T1.setTop (mkF m 82 #[.val (.int p1), .val (.int p2), .val (.int p3), .val (.int B), .val (.int (0 : Int32)), .val (.int (own_kept p1 B (0 : Int32))), .val (.long ((1 : Int64) <<< ((B).toInt64 &&& 63))), .second, .val (.long ((Int32.toInt64 p1) - (Int32.toInt64 (own_kept p1 B (0 : Int32))))), .second, .val (.int (1 : Int32)), .unset, .unset, .unset, .unset, .unset] [(.int (0 : Int32))]))
      refine own_step (fun _ zk => XS.ifYes X1.here hx rfl (pc0 := 82) (pc' := 105) rfl (hb hby at_82) rfl ((if0 _ _).trans (teq rfl).1) (by decide) (by decide) zk) ?_
      show own_E p e below _ (T1.setTop (mkF m 105 #[.val (.int p1), .val (.int p2), .val (.int p3), .val (.int B), .val (.int (0 : Int32)), .val (.int (own_kept p1 B (0 : Int32))), .val (.long ((1 : Int64) <<< ((B).toInt64 &&& 63))), .second, .val (.long ((Int32.toInt64 p1) - (Int32.toInt64 (own_kept p1 B (0 : Int32))))), .second, .val (.int (1 : Int32)), .unset, .unset, .unset, .unset, .unset] []))
      refine own_step (fun _ zk => Jvm.Free.XT.lconst X1.here hx rfl (hb hby at_105) zk) ?_
      show own_E p e below _ (T1.setTop (mkF m 106 #[.val (.int p1), .val (.int p2), .val (.int p3), .val (.int B), .val (.int (0 : Int32)), .val (.int (own_kept p1 B (0 : Int32))), .val (.long ((1 : Int64) <<< ((B).toInt64 &&& 63))), .second, .val (.long ((Int32.toInt64 p1) - (Int32.toInt64 (own_kept p1 B (0 : Int32))))), .second, .val (.int (1 : Int32)), .unset, .unset, .unset, .unset, .unset] [(.long (0 : Int64))]))
      refine own_step (fun _ zk => Jvm.Free.XT.lstore X1.here hx rfl (hb hby at_106) rfl (l' := #[.val (.int p1), .val (.int p2), .val (.int p3), .val (.int B), .val (.int (0 : Int32)), .val (.int (own_kept p1 B (0 : Int32))), .val (.long ((1 : Int64) <<< ((B).toInt64 &&& 63))), .second, .val (.long ((Int32.toInt64 p1) - (Int32.toInt64 (own_kept p1 B (0 : Int32))))), .second, .val (.int (1 : Int32)), .val (.long (0 : Int64)), .second, .unset, .unset, .unset]) rfl zk) ?_
      show own_E p e below _ (T1.setTop (mkF m 108 #[.val (.int p1), .val (.int p2), .val (.int p3), .val (.int B), .val (.int (0 : Int32)), .val (.int (own_kept p1 B (0 : Int32))), .val (.long ((1 : Int64) <<< ((B).toInt64 &&& 63))), .second, .val (.long ((Int32.toInt64 p1) - (Int32.toInt64 (own_kept p1 B (0 : Int32))))), .second, .val (.int (1 : Int32)), .val (.long (0 : Int64)), .second, .unset, .unset, .unset] []))
      refine own_step (fun _ zk => Jvm.Free.XT.lload X1.here hx rfl (hb hby at_108) rfl zk) ?_
      show own_E p e below _ (T1.setTop (mkF m 110 #[.val (.int p1), .val (.int p2), .val (.int p3), .val (.int B), .val (.int (0 : Int32)), .val (.int (own_kept p1 B (0 : Int32))), .val (.long ((1 : Int64) <<< ((B).toInt64 &&& 63))), .second, .val (.long ((Int32.toInt64 p1) - (Int32.toInt64 (own_kept p1 B (0 : Int32))))), .second, .val (.int (1 : Int32)), .val (.long (0 : Int64)), .second, .unset, .unset, .unset] [(.long ((1 : Int64) <<< ((B).toInt64 &&& 63)))]))
      refine own_step (fun _ zk => Jvm.Free.XT.lstore X1.here hx rfl (hb hby at_110) rfl (l' := #[.val (.int p1), .val (.int p2), .val (.int p3), .val (.int B), .val (.int (0 : Int32)), .val (.int (own_kept p1 B (0 : Int32))), .val (.long ((1 : Int64) <<< ((B).toInt64 &&& 63))), .second, .val (.long ((Int32.toInt64 p1) - (Int32.toInt64 (own_kept p1 B (0 : Int32))))), .second, .val (.int (1 : Int32)), .val (.long (0 : Int64)), .second, .val (.long ((1 : Int64) <<< ((B).toInt64 &&& 63))), .second, .unset]) rfl zk) ?_
      show own_E p e below _ (T1.setTop (mkF m 112 #[.val (.int p1), .val (.int p2), .val (.int p3), .val (.int B), .val (.int (0 : Int32)), .val (.int (own_kept p1 B (0 : Int32))), .val (.long ((1 : Int64) <<< ((B).toInt64 &&& 63))), .second, .val (.long ((Int32.toInt64 p1) - (Int32.toInt64 (own_kept p1 B (0 : Int32))))), .second, .val (.int (1 : Int32)), .val (.long (0 : Int64)), .second, .val (.long ((1 : Int64) <<< ((B).toInt64 &&& 63))), .second, .unset] []))
      refine own_step (fun _ zk => Jvm.Free.XT.lload X1.here hx rfl (hb hby at_112) rfl zk) ?_
      show own_E p e below _ (T1.setTop (mkF m 114 #[.val (.int p1), .val (.int p2), .val (.int p3), .val (.int B), .val (.int (0 : Int32)), .val (.int (own_kept p1 B (0 : Int32))), .val (.long ((1 : Int64) <<< ((B).toInt64 &&& 63))), .second, .val (.long ((Int32.toInt64 p1) - (Int32.toInt64 (own_kept p1 B (0 : Int32))))), .second, .val (.int (1 : Int32)), .val (.long (0 : Int64)), .second, .val (.long ((1 : Int64) <<< ((B).toInt64 &&& 63))), .second, .unset] [(.long (0 : Int64))]))
      refine own_step (fun _ zk => XS.iload X1.here hx rfl (hb hby at_114) rfl zk) ?_
      show own_E p e below _ (T1.setTop (mkF m 116 #[.val (.int p1), .val (.int p2), .val (.int p3), .val (.int B), .val (.int (0 : Int32)), .val (.int (own_kept p1 B (0 : Int32))), .val (.long ((1 : Int64) <<< ((B).toInt64 &&& 63))), .second, .val (.long ((Int32.toInt64 p1) - (Int32.toInt64 (own_kept p1 B (0 : Int32))))), .second, .val (.int (1 : Int32)), .val (.long (0 : Int64)), .second, .val (.long ((1 : Int64) <<< ((B).toInt64 &&& 63))), .second, .unset] [(.int (own_kept p1 B (0 : Int32))), (.long (0 : Int64))]))
      refine own_step (fun _ zk => Jvm.Free.XT.i2l X1.here hx rfl (hb hby at_116) rfl zk) ?_
      show own_E p e below _ (T1.setTop (mkF m 117 #[.val (.int p1), .val (.int p2), .val (.int p3), .val (.int B), .val (.int (0 : Int32)), .val (.int (own_kept p1 B (0 : Int32))), .val (.long ((1 : Int64) <<< ((B).toInt64 &&& 63))), .second, .val (.long ((Int32.toInt64 p1) - (Int32.toInt64 (own_kept p1 B (0 : Int32))))), .second, .val (.int (1 : Int32)), .val (.long (0 : Int64)), .second, .val (.long ((1 : Int64) <<< ((B).toInt64 &&& 63))), .second, .unset] [(.long (Int32.toInt64 (own_kept p1 B (0 : Int32)))), (.long (0 : Int64))]))
      refine own_step (fun _ zk => Jvm.Free.XT.lcmp X1.here hx rfl (hb hby at_117) rfl zk) ?_
      show own_E p e below _ (T1.setTop (mkF m 118 #[.val (.int p1), .val (.int p2), .val (.int p3), .val (.int B), .val (.int (0 : Int32)), .val (.int (own_kept p1 B (0 : Int32))), .val (.long ((1 : Int64) <<< ((B).toInt64 &&& 63))), .second, .val (.long ((Int32.toInt64 p1) - (Int32.toInt64 (own_kept p1 B (0 : Int32))))), .second, .val (.int (1 : Int32)), .val (.long (0 : Int64)), .second, .val (.long ((1 : Int64) <<< ((B).toInt64 &&& 63))), .second, .unset] [(.int (Jvm.Free.XT.cmpL (0 : Int64) (Int32.toInt64 (own_kept p1 B (0 : Int32)))))]))
      refine own_step (fun _ zk => XS.ifNo X1.here hx rfl (hb hby at_118) rfl (own_lc_gt_f (own_rng_u1 _ _ rfl k hk0 hk1 hk3)) zk) ?_
      show own_E p e below _ (T1.setTop (mkF m 121 #[.val (.int p1), .val (.int p2), .val (.int p3), .val (.int B), .val (.int (0 : Int32)), .val (.int (own_kept p1 B (0 : Int32))), .val (.long ((1 : Int64) <<< ((B).toInt64 &&& 63))), .second, .val (.long ((Int32.toInt64 p1) - (Int32.toInt64 (own_kept p1 B (0 : Int32))))), .second, .val (.int (1 : Int32)), .val (.long (0 : Int64)), .second, .val (.long ((1 : Int64) <<< ((B).toInt64 &&& 63))), .second, .unset] []))
      refine own_step (fun _ zk => XS.iload X1.here hx rfl (hb hby at_121) rfl zk) ?_
      show own_E p e below _ (T1.setTop (mkF m 123 #[.val (.int p1), .val (.int p2), .val (.int p3), .val (.int B), .val (.int (0 : Int32)), .val (.int (own_kept p1 B (0 : Int32))), .val (.long ((1 : Int64) <<< ((B).toInt64 &&& 63))), .second, .val (.long ((Int32.toInt64 p1) - (Int32.toInt64 (own_kept p1 B (0 : Int32))))), .second, .val (.int (1 : Int32)), .val (.long (0 : Int64)), .second, .val (.long ((1 : Int64) <<< ((B).toInt64 &&& 63))), .second, .unset] [(.int (own_kept p1 B (0 : Int32)))]))
      refine own_step (fun _ zk => Jvm.Free.XT.i2l X1.here hx rfl (hb hby at_123) rfl zk) ?_
      show own_E p e below _ (T1.setTop (mkF m 124 #[.val (.int p1), .val (.int p2), .val (.int p3), .val (.int B), .val (.int (0 : Int32)), .val (.int (own_kept p1 B (0 : Int32))), .val (.long ((1 : Int64) <<< ((B).toInt64 &&& 63))), .second, .val (.long ((Int32.toInt64 p1) - (Int32.toInt64 (own_kept p1 B (0 : Int32))))), .second, .val (.int (1 : Int32)), .val (.long (0 : Int64)), .second, .val (.long ((1 : Int64) <<< ((B).toInt64 &&& 63))), .second, .unset] [(.long (Int32.toInt64 (own_kept p1 B (0 : Int32))))]))
      refine own_step (fun _ zk => Jvm.Free.XT.lload X1.here hx rfl (hb hby at_124) rfl zk) ?_
      show own_E p e below _ (T1.setTop (mkF m 126 #[.val (.int p1), .val (.int p2), .val (.int p3), .val (.int B), .val (.int (0 : Int32)), .val (.int (own_kept p1 B (0 : Int32))), .val (.long ((1 : Int64) <<< ((B).toInt64 &&& 63))), .second, .val (.long ((Int32.toInt64 p1) - (Int32.toInt64 (own_kept p1 B (0 : Int32))))), .second, .val (.int (1 : Int32)), .val (.long (0 : Int64)), .second, .val (.long ((1 : Int64) <<< ((B).toInt64 &&& 63))), .second, .unset] [(.long ((1 : Int64) <<< ((B).toInt64 &&& 63))), (.long (Int32.toInt64 (own_kept p1 B (0 : Int32))))]))
      refine own_step (fun _ zk => Jvm.Free.XT.lcmp X1.here hx rfl (hb hby at_126) rfl zk) ?_
      show own_E p e below _ (T1.setTop (mkF m 127 #[.val (.int p1), .val (.int p2), .val (.int p3), .val (.int B), .val (.int (0 : Int32)), .val (.int (own_kept p1 B (0 : Int32))), .val (.long ((1 : Int64) <<< ((B).toInt64 &&& 63))), .second, .val (.long ((Int32.toInt64 p1) - (Int32.toInt64 (own_kept p1 B (0 : Int32))))), .second, .val (.int (1 : Int32)), .val (.long (0 : Int64)), .second, .val (.long ((1 : Int64) <<< ((B).toInt64 &&& 63))), .second, .unset] [(.int (Jvm.Free.XT.cmpL (Int32.toInt64 (own_kept p1 B (0 : Int32))) ((1 : Int64) <<< ((B).toInt64 &&& 63))))]))
      refine own_step (fun _ zk => XS.ifNo X1.here hx rfl (hb hby at_127) rfl (own_lc_ge_f (own_rng_u2 _ _ rfl k hk0 hk1 hk3)) zk) ?_
      show own_E p e below _ (T1.setTop (mkF m 130 #[.val (.int p1), .val (.int p2), .val (.int p3), .val (.int B), .val (.int (0 : Int32)), .val (.int (own_kept p1 B (0 : Int32))), .val (.long ((1 : Int64) <<< ((B).toInt64 &&& 63))), .second, .val (.long ((Int32.toInt64 p1) - (Int32.toInt64 (own_kept p1 B (0 : Int32))))), .second, .val (.int (1 : Int32)), .val (.long (0 : Int64)), .second, .val (.long ((1 : Int64) <<< ((B).toInt64 &&& 63))), .second, .unset] []))
      refine own_step (fun _ zk => XS.iconst X1.here hx rfl (hb hby at_130) zk) ?_
      show own_E p e below _ (T1.setTop (mkF m 131 #[.val (.int p1), .val (.int p2), .val (.int p3), .val (.int B), .val (.int (0 : Int32)), .val (.int (own_kept p1 B (0 : Int32))), .val (.long ((1 : Int64) <<< ((B).toInt64 &&& 63))), .second, .val (.long ((Int32.toInt64 p1) - (Int32.toInt64 (own_kept p1 B (0 : Int32))))), .second, .val (.int (1 : Int32)), .val (.long (0 : Int64)), .second, .val (.long ((1 : Int64) <<< ((B).toInt64 &&& 63))), .second, .unset] [(.int (1 : Int32))]))
      refine own_step (fun _ zk => XS.goto X1.here hx rfl (pc0 := 131) (pc' := 135) rfl (hb hby at_131) (by decide) (by decide) zk) ?_
      show own_E p e below _ (T1.setTop (mkF m 135 #[.val (.int p1), .val (.int p2), .val (.int p3), .val (.int B), .val (.int (0 : Int32)), .val (.int (own_kept p1 B (0 : Int32))), .val (.long ((1 : Int64) <<< ((B).toInt64 &&& 63))), .second, .val (.long ((Int32.toInt64 p1) - (Int32.toInt64 (own_kept p1 B (0 : Int32))))), .second, .val (.int (1 : Int32)), .val (.long (0 : Int64)), .second, .val (.long ((1 : Int64) <<< ((B).toInt64 &&& 63))), .second, .unset] [(.int (1 : Int32))]))
      refine own_step (fun _ zk => XS.istore X1.here hx rfl (hb hby at_135) rfl (l' := #[.val (.int p1), .val (.int p2), .val (.int p3), .val (.int B), .val (.int (0 : Int32)), .val (.int (own_kept p1 B (0 : Int32))), .val (.long ((1 : Int64) <<< ((B).toInt64 &&& 63))), .second, .val (.long ((Int32.toInt64 p1) - (Int32.toInt64 (own_kept p1 B (0 : Int32))))), .second, .val (.int (1 : Int32)), .val (.long (0 : Int64)), .second, .val (.long ((1 : Int64) <<< ((B).toInt64 &&& 63))), .second, .val (.int (1 : Int32))]) rfl zk) ?_
      show own_E p e below _ (T1.setTop (mkF m 137 #[.val (.int p1), .val (.int p2), .val (.int p3), .val (.int B), .val (.int (0 : Int32)), .val (.int (own_kept p1 B (0 : Int32))), .val (.long ((1 : Int64) <<< ((B).toInt64 &&& 63))), .second, .val (.long ((Int32.toInt64 p1) - (Int32.toInt64 (own_kept p1 B (0 : Int32))))), .second, .val (.int (1 : Int32)), .val (.long (0 : Int64)), .second, .val (.long ((1 : Int64) <<< ((B).toInt64 &&& 63))), .second, .val (.int (1 : Int32))] []))
      refine own_step (fun _ zk => XS.iload X1.here hx rfl (hb hby at_137) rfl zk) ?_
      show own_E p e below _ (T1.setTop (mkF m 139 #[.val (.int p1), .val (.int p2), .val (.int p3), .val (.int B), .val (.int (0 : Int32)), .val (.int (own_kept p1 B (0 : Int32))), .val (.long ((1 : Int64) <<< ((B).toInt64 &&& 63))), .second, .val (.long ((Int32.toInt64 p1) - (Int32.toInt64 (own_kept p1 B (0 : Int32))))), .second, .val (.int (1 : Int32)), .val (.long (0 : Int64)), .second, .val (.long ((1 : Int64) <<< ((B).toInt64 &&& 63))), .second, .val (.int (1 : Int32))] [(.int (1 : Int32))]))
      refine own_step (fun _ zk => XS.ifNo X1.here hx rfl (hb hby at_139) rfl ((if0 _ _).trans (feq (by decide)).1) zk) ?_
      show own_E p e below _ (T1.setTop (mkF m 142 #[.val (.int p1), .val (.int p2), .val (.int p3), .val (.int B), .val (.int (0 : Int32)), .val (.int (own_kept p1 B (0 : Int32))), .val (.long ((1 : Int64) <<< ((B).toInt64 &&& 63))), .second, .val (.long ((Int32.toInt64 p1) - (Int32.toInt64 (own_kept p1 B (0 : Int32))))), .second, .val (.int (1 : Int32)), .val (.long (0 : Int64)), .second, .val (.long ((1 : Int64) <<< ((B).toInt64 &&& 63))), .second, .val (.int (1 : Int32))] []))
      refine own_step (fun _ zk => XS.iload X1.here hx rfl (hb hby at_142) rfl zk) ?_
      show own_E p e below _ (T1.setTop (mkF m 144 #[.val (.int p1), .val (.int p2), .val (.int p3), .val (.int B), .val (.int (0 : Int32)), .val (.int (own_kept p1 B (0 : Int32))), .val (.long ((1 : Int64) <<< ((B).toInt64 &&& 63))), .second, .val (.long ((Int32.toInt64 p1) - (Int32.toInt64 (own_kept p1 B (0 : Int32))))), .second, .val (.int (1 : Int32)), .val (.long (0 : Int64)), .second, .val (.long ((1 : Int64) <<< ((B).toInt64 &&& 63))), .second, .val (.int (1 : Int32))] [(.int (1 : Int32))]))
      refine own_step (fun _ zk => XS.ifNo X1.here hx rfl (hb hby at_144) rfl ((if0 _ _).trans (feq (by decide)).1) zk) ?_
      show own_E p e below _ (T1.setTop (mkF m 147 #[.val (.int p1), .val (.int p2), .val (.int p3), .val (.int B), .val (.int (0 : Int32)), .val (.int (own_kept p1 B (0 : Int32))), .val (.long ((1 : Int64) <<< ((B).toInt64 &&& 63))), .second, .val (.long ((Int32.toInt64 p1) - (Int32.toInt64 (own_kept p1 B (0 : Int32))))), .second, .val (.int (1 : Int32)), .val (.long (0 : Int64)), .second, .val (.long ((1 : Int64) <<< ((B).toInt64 &&& 63))), .second, .val (.int (1 : Int32))] []))
      refine own_step (fun _ zk => XS.iconst X1.here hx rfl (hb hby at_147) zk) ?_
      show own_E p e below _ (T1.setTop (mkF m 148 #[.val (.int p1), .val (.int p2), .val (.int p3), .val (.int B), .val (.int (0 : Int32)), .val (.int (own_kept p1 B (0 : Int32))), .val (.long ((1 : Int64) <<< ((B).toInt64 &&& 63))), .second, .val (.long ((Int32.toInt64 p1) - (Int32.toInt64 (own_kept p1 B (0 : Int32))))), .second, .val (.int (1 : Int32)), .val (.long (0 : Int64)), .second, .val (.long ((1 : Int64) <<< ((B).toInt64 &&& 63))), .second, .val (.int (1 : Int32))] [(.int (1 : Int32))]))
      refine own_step (fun _ zk => XS.goto X1.here hx rfl (pc0 := 148) (pc' := 152) rfl (hb hby at_148) (by decide) (by decide) zk) ?_
      show own_E p e below _ (T1.setTop (mkF m 152 #[.val (.int p1), .val (.int p2), .val (.int p3), .val (.int B), .val (.int (0 : Int32)), .val (.int (own_kept p1 B (0 : Int32))), .val (.long ((1 : Int64) <<< ((B).toInt64 &&& 63))), .second, .val (.long ((Int32.toInt64 p1) - (Int32.toInt64 (own_kept p1 B (0 : Int32))))), .second, .val (.int (1 : Int32)), .val (.long (0 : Int64)), .second, .val (.long ((1 : Int64) <<< ((B).toInt64 &&& 63))), .second, .val (.int (1 : Int32))] [(.int (1 : Int32))]))
      refine own_ret X1 hlk (v := some (.int (nar .boolean (1 : Int32)))) (fun h => by rw [Bd.returns] at h; cases h) ?_ (by decide) (by decide) (fun fs hr => retN X1 hx (t := .boolean) Bd.returns (by simp) (hb hby at_152) hr)
      show Q0 Z p1 p2 p3 h0 n0 _ T1.heap _
      rw [e1]
      exact ⟨by decide, N1⟩
  · skip
    refine own_step (fun _ zk => XS.ifNo X0.here hx rfl (hb hby at_13) rfl ((if0 _ _).trans (feq hc13).1) zk) ?_
    show own_E p e below _ (s₁.setTop (mkF m 16 #[.val (.int p1), .val (.int p2), .val (.int p3), .val (.int B), .unset, .unset, .unset, .unset, .unset, .unset, .unset, .unset, .unset, .unset, .unset, .unset] []))
    refine own_step (fun _ zk => XS.iconst X0.here hx rfl (hb hby at_16) zk) ?_
    show own_E p e below _ (s₁.setTop (mkF m 17 #[.val (.int p1), .val (.int p2), .val (.int p3), .val (.int B), .unset, .unset, .unset, .unset, .unset, .unset, .unset, .unset, .unset, .unset, .unset, .unset] [(.int (1 : Int32))]))
    refine own_step (fun _ zk => XS.goto X0.here hx rfl (pc0 := 17) (pc' := 21) rfl (hb hby at_17) (by decide) (by decide) zk) ?_
    show own_E p e below _ (s₁.setTop (mkF m 21 #[.val (.int p1), .val (.int p2), .val (.int p3), .val (.int B), .unset, .unset, .unset, .unset, .unset, .unset, .unset, .unset, .unset, .unset, .unset, .unset] [(.int (1 : Int32))]))
    refine own_step (fun _ zk => XS.istore X0.here hx rfl (hb hby at_21) rfl (l' := #[.val (.int p1), .val (.int p2), .val (.int p3), .val (.int B), .val (.int (1 : Int32)), .unset, .unset, .unset, .unset, .unset, .unset, .unset, .unset, .unset, .unset, .unset]) rfl zk) ?_
    show own_E p e below _ (s₁.setTop (mkF m 23 #[.val (.int p1), .val (.int p2), .val (.int p3), .val (.int B), .val (.int (1 : Int32)), .unset, .unset, .unset, .unset, .unset, .unset, .unset, .unset, .unset, .unset, .unset] []))
    refine own_step (fun _ zk => XS.iloadN X0.here hx rfl (hb hby at_23) rfl zk) ?_
    show own_E p e below _ (s₁.setTop (mkF m 24 #[.val (.int p1), .val (.int p2), .val (.int p3), .val (.int B), .val (.int (1 : Int32)), .unset, .unset, .unset, .unset, .unset, .unset, .unset, .unset, .unset, .unset, .unset] [(.int p1)]))
    refine own_step (fun _ zk => XS.iloadN X0.here hx rfl (hb hby at_24) rfl zk) ?_
    show own_E p e below _ (s₁.setTop (mkF m 25 #[.val (.int p1), .val (.int p2), .val (.int p3), .val (.int B), .val (.int (1 : Int32)), .unset, .unset, .unset, .unset, .unset, .unset, .unset, .unset, .unset, .unset, .unset] [(.int B), (.int p1)]))
    refine own_step (fun _ zk => XS.iload X0.here hx rfl (hb hby at_25) rfl zk) ?_
    show own_E p e below _ (s₁.setTop (mkF m 27 #[.val (.int p1), .val (.int p2), .val (.int p3), .val (.int B), .val (.int (1 : Int32)), .unset, .unset, .unset, .unset, .unset, .unset, .unset, .unset, .unset, .unset, .unset] [(.int (1 : Int32)), (.int B), (.int p1)]))
    obtain ⟨_, _, ⟨T2, L2, k2, n2⟩, -, X2, ⟨Lc2, hQ2, l2, y2, z2⟩, st2⟩ := Jvm.LawKit.callS X0 hx (y := (⟨"com/example/spurion/spurion/channel/promela/PromelaVariable", "kept", "(IIZ)I"⟩ : MethodName)) hown (mvT hZ (hw _ (List.mem_of_getElem? (i := 1) rfl))) (mvT hZ (hw _ (List.mem_of_getElem? (i := 2) rfl))) (mvT hZ (hw _ (List.mem_of_getElem? (i := 3) rfl))) (mvT hZ (hw _ (List.mem_of_getElem? (i := 4) rfl))) (by decide) (backOf (W := 0) (rm1 l Z a0 hw [] p1 B (1 : Int32)  h0 n0 Z0) hZ (hw _ (List.mem_of_getElem? (i := 4) rfl)) (hw _ (List.mem_of_getElem? (i := 3) rfl)) (by decide) (by decide)) (g := (mkF m 27 #[.val (.int p1), .val (.int p2), .val (.int p3), .val (.int B), .val (.int (1 : Int32)), .unset, .unset, .unset, .unset, .unset, .unset, .unset, .unset, .unset, .unset, .unset] [(.int (1 : Int32)), (.int B), (.int p1)])) rfl (by rw [hml]; rfl) (argsL := [(.int p1), (.int B), (.int (1 : Int32))]) (rest := []) (lenOf pd_0_0 rfl) rfl (by show 2 * 0 + _ ≤ _; exact Nat.le_of_eq rfl) (hb hby at_27) (fun _ _ => ⟨rfl, e0, (by decide : 0 + 0 ≤ _), (by decide : 0 + 0 ≤ _)⟩)
    dsimp only [Pt.U, Pt.locs, Pt.cells, Pt.slots] at X2 l2 y2 z2 st2 hQ2
    subst l2 y2 z2
    obtain ⟨rfl, N2q, e2⟩ := hQ2
    have N2 := Fr.app N0 N2q
    refine own_step (st2) ?_
    show own_E p e below _ (T2.setTop (mkF m 30 #[.val (.int p1), .val (.int p2), .val (.int p3), .val (.int B), .val (.int (1 : Int32)), .unset, .unset, .unset, .unset, .unset, .unset, .unset, .unset, .unset, .unset, .unset] [(.int (own_kept p1 B (1 : Int32)))]))
    refine own_step (fun _ zk => XS.istore X2.here hx rfl (hb hby at_30) rfl (l' := #[.val (.int p1), .val (.int p2), .val (.int p3), .val (.int B), .val (.int (1 : Int32)), .val (.int (own_kept p1 B (1 : Int32))), .unset, .unset, .unset, .unset, .unset, .unset, .unset, .unset, .unset, .unset]) rfl zk) ?_
    show own_E p e below _ (T2.setTop (mkF m 32 #[.val (.int p1), .val (.int p2), .val (.int p3), .val (.int B), .val (.int (1 : Int32)), .val (.int (own_kept p1 B (1 : Int32))), .unset, .unset, .unset, .unset, .unset, .unset, .unset, .unset, .unset, .unset] []))
    refine own_step (fun _ zk => XS.iloadN X2.here hx rfl (hb hby at_32) rfl zk) ?_
    show own_E p e below _ (T2.setTop (mkF m 33 #[.val (.int p1), .val (.int p2), .val (.int p3), .val (.int B), .val (.int (1 : Int32)), .val (.int (own_kept p1 B (1 : Int32))), .unset, .unset, .unset, .unset, .unset, .unset, .unset, .unset, .unset, .unset] [(.int B)]))
    refine own_step (fun _ zk => XS.bipush X2.here hx rfl (hb hby at_33) zk) ?_
    show own_E p e below _ (T2.setTop (mkF m 35 #[.val (.int p1), .val (.int p2), .val (.int p3), .val (.int B), .val (.int (1 : Int32)), .val (.int (own_kept p1 B (1 : Int32))), .unset, .unset, .unset, .unset, .unset, .unset, .unset, .unset, .unset, .unset] [(.int (32 : Int32)), (.int B)]))
    by_cases hc35 : B = (32 : Int32)
    · skip
      refine own_step (fun _ zk => XS.icmpNo X2.here hx rfl (hb hby at_35) rfl (teq hc35).2 zk) ?_
      show own_E p e below _ (T2.setTop (mkF m 38 #[.val (.int p1), .val (.int p2), .val (.int p3), .val (.int B), .val (.int (1 : Int32)), .val (.int (own_kept p1 B (1 : Int32))), .unset, .unset, .unset, .unset, .unset, .unset, .unset, .unset, .unset, .unset] []))
      refine own_step (fun _ zk => XS.iload X2.here hx rfl (hb hby at_38) rfl zk) ?_
      show own_E p e below _ (T2.setTop (mkF m 40 #[.val (.int p1), .val (.int p2), .val (.int p3), .val (.int B), .val (.int (1 : Int32)), .val (.int (own_kept p1 B (1 : Int32))), .unset, .unset, .unset, .unset, .unset, .unset, .unset, .unset, .unset, .unset] [(.int (own_kept p1 B (1 : Int32)))]))
      refine own_step (fun _ zk => XS.iloadN X2.here hx rfl (hb hby at_40) rfl zk) ?_
      show own_E p e below _ (T2.setTop (mkF m 41 #[.val (.int p1), .val (.int p2), .val (.int p3), .val (.int B), .val (.int (1 : Int32)), .val (.int (own_kept p1 B (1 : Int32))), .unset, .unset, .unset, .unset, .unset, .unset, .unset, .unset, .unset, .unset] [(.int p1), (.int (own_kept p1 B (1 : Int32)))]))
      refine own_step (fun _ zk => XS.icmpNo X2.here hx rfl (hb hby at_41) rfl (teq (own_kept32 _ _ hc35)).2 zk) ?_
      show own_E p e below _ (T2.setTop (mkF m 44 #[.val (.int p1), .val (.int p2), .val (.int p3), .val (.int B), .val (.int (1 : Int32)), .val (.int (own_kept p1 B (1 : Int32))), .unset, .unset, .unset, .unset, .unset, .unset, .unset, .unset, .unset, .unset] []))
      refine own_step (fun _ zk => XS.iconst X2.here hx rfl (hb hby at_44) zk) ?_
      show own_E p e below _ (T2.setTop (mkF m 45 #[.val (.int p1), .val (.int p2), .val (.int p3), .val (.int B), .val (.int (1 : Int32)), .val (.int (own_kept p1 B (1 : Int32))), .unset, .unset, .unset, .unset, .unset, .unset, .unset, .unset, .unset, .unset] [(.int (1 : Int32))]))
      refine own_step (fun _ zk => XS.goto X2.here hx rfl (pc0 := 45) (pc' := 49) rfl (hb hby at_45) (by decide) (by decide) zk) ?_
      show own_E p e below _ (T2.setTop (mkF m 49 #[.val (.int p1), .val (.int p2), .val (.int p3), .val (.int B), .val (.int (1 : Int32)), .val (.int (own_kept p1 B (1 : Int32))), .unset, .unset, .unset, .unset, .unset, .unset, .unset, .unset, .unset, .unset] [(.int (1 : Int32))]))
      refine own_ret X2 hlk (v := some (.int (nar .boolean (1 : Int32)))) (fun h => by rw [Bd.returns] at h; cases h) ?_ (by decide) (by decide) (fun fs hr => retN X2 hx (t := .boolean) Bd.returns (by simp) (hb hby at_49) hr)
      show Q0 Z p1 p2 p3 h0 n0 _ T2.heap _
      rw [e2]
      exact ⟨by decide, N2⟩
    · skip
      refine own_step (fun _ zk => XS.icmpYes X2.here hx rfl (pc0 := 35) (pc' := 50) rfl (hb hby at_35) rfl (feq hc35).2 (by decide) (by decide) zk) ?_
      show own_E p e below _ (T2.setTop (mkF m 50 #[.val (.int p1), .val (.int p2), .val (.int p3), .val (.int B), .val (.int (1 : Int32)), .val (.int (own_kept p1 B (1 : Int32))), .unset, .unset, .unset, .unset, .unset, .unset, .unset, .unset, .unset, .unset] []))
      have hk3 : k < 32 := by rcases Nat.lt_or_ge k 32 with h | h; exact h; exact absurd (hk0.trans (by rw [show k = 32 by omega]; rfl)) hc35
      refine own_step (fun _ zk => Jvm.Free.XT.lconst X2.here hx rfl (hb hby at_50) zk) ?_
      show own_E p e below _ (T2.setTop (mkF m 51 #[.val (.int p1), .val (.int p2), .val (.int p3), .val (.int B), .val (.int (1 : Int32)), .val (.int (own_kept p1 B (1 : Int32))), .unset, .unset, .unset, .unset, .unset, .unset, .unset, .unset, .unset, .unset] [(.long (1 : Int64))]))
      refine own_step (fun _ zk => XS.iloadN X2.here hx rfl (hb hby at_51) rfl zk) ?_
      show own_E p e below _ (T2.setTop (mkF m 52 #[.val (.int p1), .val (.int p2), .val (.int p3), .val (.int B), .val (.int (1 : Int32)), .val (.int (own_kept p1 B (1 : Int32))), .unset, .unset, .unset, .unset, .unset, .unset, .unset, .unset, .unset, .unset] [(.int B), (.long (1 : Int64))]))
      refine own_step (fun _ zk => Jvm.Free.XT.lshl X2.here hx rfl (hb hby at_52) rfl zk) ?_
      show own_E p e below _ (T2.setTop (mkF m 53 #[.val (.int p1), .val (.int p2), .val (.int p3), .val (.int B), .val (.int (1 : Int32)), .val (.int (own_kept p1 B (1 : Int32))), .unset, .unset, .unset, .unset, .unset, .unset, .unset, .unset, .unset, .unset] [(.long ((1 : Int64) <<< ((B).toInt64 &&& 63)))]))
      refine own_step (fun _ zk => Jvm.Free.XT.lstore X2.here hx rfl (hb hby at_53) rfl (l' := #[.val (.int p1), .val (.int p2), .val (.int p3), .val (.int B), .val (.int (1 : Int32)), .val (.int (own_kept p1 B (1 : Int32))), .val (.long ((1 : Int64) <<< ((B).toInt64 &&& 63))), .second, .unset, .unset, .unset, .unset, .unset, .unset, .unset, .unset]) rfl zk) ?_
      show own_E p e below _ (T2.setTop (mkF m 55 #[.val (.int p1), .val (.int p2), .val (.int p3), .val (.int B), .val (.int (1 : Int32)), .val (.int (own_kept p1 B (1 : Int32))), .val (.long ((1 : Int64) <<< ((B).toInt64 &&& 63))), .second, .unset, .unset, .unset, .unset, .unset, .unset, .unset, .unset] []))
      refine own_step (fun _ zk => XS.iloadN X2.here hx rfl (hb hby at_55) rfl zk) ?_
      show own_E p e below _ (T2.setTop (mkF m 56 #[.val (.int p1), .val (.int p2), .val (.int p3), .val (.int B), .val (.int (1 : Int32)), .val (.int (own_kept p1 B (1 : Int32))), .val (.long ((1 : Int64) <<< ((B).toInt64 &&& 63))), .second, .unset, .unset, .unset, .unset, .unset, .unset, .unset, .unset] [(.int p1)]))
      refine own_step (fun _ zk => Jvm.Free.XT.i2l X2.here hx rfl (hb hby at_56) rfl zk) ?_
      show own_E p e below _ (T2.setTop (mkF m 57 #[.val (.int p1), .val (.int p2), .val (.int p3), .val (.int B), .val (.int (1 : Int32)), .val (.int (own_kept p1 B (1 : Int32))), .val (.long ((1 : Int64) <<< ((B).toInt64 &&& 63))), .second, .unset, .unset, .unset, .unset, .unset, .unset, .unset, .unset] [(.long (Int32.toInt64 p1))]))
      refine own_step (fun _ zk => XS.iload X2.here hx rfl (hb hby at_57) rfl zk) ?_
      show own_E p e below _ (T2.setTop (mkF m 59 #[.val (.int p1), .val (.int p2), .val (.int p3), .val (.int B), .val (.int (1 : Int32)), .val (.int (own_kept p1 B (1 : Int32))), .val (.long ((1 : Int64) <<< ((B).toInt64 &&& 63))), .second, .unset, .unset, .unset, .unset, .unset, .unset, .unset, .unset] [(.int (own_kept p1 B (1 : Int32))), (.long (Int32.toInt64 p1))]))
      refine own_step (fun _ zk => Jvm.Free.XT.i2l X2.here hx rfl (hb hby at_59) rfl zk) ?_
      show own_E p e below _ (T2.setTop (mkF m 60 #[.val (.int p1), .val (.int p2), .val (.int p3), .val (.int B), .val (.int (1 : Int32)), .val (.int (own_kept p1 B (1 : Int32))), .val (.long ((1 : Int64) <<< ((B).toInt64 &&& 63))), .second, .unset, .unset, .unset, .unset, .unset, .unset, .unset, .unset] [(.long (Int32.toInt64 (own_kept p1 B (1 : Int32)))), (.long (Int32.toInt64 p1))]))
      refine own_step (fun _ zk => Jvm.Free.XT.lsub X2.here hx rfl (hb hby at_60) rfl zk) ?_
      show own_E p e below _ (T2.setTop (mkF m 61 #[.val (.int p1), .val (.int p2), .val (.int p3), .val (.int B), .val (.int (1 : Int32)), .val (.int (own_kept p1 B (1 : Int32))), .val (.long ((1 : Int64) <<< ((B).toInt64 &&& 63))), .second, .unset, .unset, .unset, .unset, .unset, .unset, .unset, .unset] [(.long ((Int32.toInt64 p1) - (Int32.toInt64 (own_kept p1 B (1 : Int32)))))]))
      refine own_step (fun _ zk => Jvm.Free.XT.lstore X2.here hx rfl (hb hby at_61) rfl (l' := #[.val (.int p1), .val (.int p2), .val (.int p3), .val (.int B), .val (.int (1 : Int32)), .val (.int (own_kept p1 B (1 : Int32))), .val (.long ((1 : Int64) <<< ((B).toInt64 &&& 63))), .second, .val (.long ((Int32.toInt64 p1) - (Int32.toInt64 (own_kept p1 B (1 : Int32))))), .second, .unset, .unset, .unset, .unset, .unset, .unset]) rfl zk) ?_
      show own_E p e below _ (T2.setTop (mkF m 63 #[.val (.int p1), .val (.int p2), .val (.int p3), .val (.int B), .val (.int (1 : Int32)), .val (.int (own_kept p1 B (1 : Int32))), .val (.long ((1 : Int64) <<< ((B).toInt64 &&& 63))), .second, .val (.long ((Int32.toInt64 p1) - (Int32.toInt64 (own_kept p1 B (1 : Int32))))), .second, .unset, .unset, .unset, .unset, .unset, .unset] []))
      refine own_step (fun _ zk => Jvm.Free.XT.lload X2.here hx rfl (hb hby at_63) rfl zk) ?_
      show own_E p e below _ (T2.setTop (mkF m 65 #[.val (.int p1), .val (.int p2), .val (.int p3), .val (.int B), .val (.int (1 : Int32)), .val (.int (own_kept p1 B (1 : Int32))), .val (.long ((1 : Int64) <<< ((B).toInt64 &&& 63))), .second, .val (.long ((Int32.toInt64 p1) - (Int32.toInt64 (own_kept p1 B (1 : Int32))))), .second, .unset, .unset, .unset, .unset, .unset, .unset] [(.long ((Int32.toInt64 p1) - (Int32.toInt64 (own_kept p1 B (1 : Int32)))))]))
      refine own_step (fun _ zk => Jvm.Free.XT.lload X2.here hx rfl (hb hby at_65) rfl zk) ?_
      show own_E p e below _ (T2.setTop (mkF m 67 #[.val (.int p1), .val (.int p2), .val (.int p3), .val (.int B), .val (.int (1 : Int32)), .val (.int (own_kept p1 B (1 : Int32))), .val (.long ((1 : Int64) <<< ((B).toInt64 &&& 63))), .second, .val (.long ((Int32.toInt64 p1) - (Int32.toInt64 (own_kept p1 B (1 : Int32))))), .second, .unset, .unset, .unset, .unset, .unset, .unset] [(.long ((1 : Int64) <<< ((B).toInt64 &&& 63))), (.long ((Int32.toInt64 p1) - (Int32.toInt64 (own_kept p1 B (1 : Int32)))))]))
      refine own_step (fun _ zk => Jvm.Free.XT.lrem X2.here hx rfl (hb hby at_67) rfl (own_mnz k hk0 hk3) zk) ?_
      show own_E p e below _ (T2.setTop (mkF m 68 #[.val (.int p1), .val (.int p2), .val (.int p3), .val (.int B), .val (.int (1 : Int32)), .val (.int (own_kept p1 B (1 : Int32))), .val (.long ((1 : Int64) <<< ((B).toInt64 &&& 63))), .second, .val (.long ((Int32.toInt64 p1) - (Int32.toInt64 (own_kept p1 B (1 : Int32))))), .second, .unset, .unset, .unset, .unset, .unset, .unset] [(.long (((Int32.toInt64 p1) - (Int32.toInt64 (own_kept p1 B (1 : Int32)))) - (((Int32.toInt64 p1) - (Int32.toInt64 (own_kept p1 B (1 : Int32)))) / ((1 : Int64) <<< ((B).toInt64 &&& 63))) * ((1 : Int64) <<< ((B).toInt64 &&& 63))))]))
      refine own_step (fun _ zk => Jvm.Free.XT.lconst X2.here hx rfl (hb hby at_68) zk) ?_
      show own_E p e below _ (T2.setTop (mkF m 69 #[.val (.int p1), .val (.int p2), .val (.int p3), .val (.int B), .val (.int (1 : Int32)), .val (.int (own_kept p1 B (1 : Int32))), .val (.long ((1 : Int64) <<< ((B).toInt64 &&& 63))), .second, .val (.long ((Int32.toInt64 p1) - (Int32.toInt64 (own_kept p1 B (1 : Int32))))), .second, .unset, .unset, .unset, .unset, .unset, .unset] [(.long (0 : Int64)), (.long (((Int32.toInt64 p1) - (Int32.toInt64 (own_kept p1 B (1 : Int32)))) - (((Int32.toInt64 p1) - (Int32.toInt64 (own_kept p1 B (1 : Int32)))) / ((1 : Int64) <<< ((B).toInt64 &&& 63))) * ((1 : Int64) <<< ((B).toInt64 &&& 63))))]))
      refine own_step (fun _ zk => Jvm.Free.XT.lcmp X2.here hx rfl (hb hby at_69) rfl zk) ?_
      show own_E p e below _ (T2.setTop (mkF m 70 #[.val (.int p1), .val (.int p2), .val (.int p3), .val (.int B), .val (.int (1 : Int32)), .val (.int (own_kept p1 B (1 : Int32))), .val (.long ((1 : Int64) <<< ((B).toInt64 &&& 63))), .second, .val (.long ((Int32.toInt64 p1) - (Int32.toInt64 (own_kept p1 B (1 : Int32))))), .second, .unset, .unset, .unset, .unset, .unset, .unset] [(.int (Jvm.Free.XT.cmpL (((Int32.toInt64 p1) - (Int32.toInt64 (own_kept p1 B (1 : Int32)))) - (((Int32.toInt64 p1) - (Int32.toInt64 (own_kept p1 B (1 : Int32)))) / ((1 : Int64) <<< ((B).toInt64 &&& 63))) * ((1 : Int64) <<< ((B).toInt64 &&& 63))) (0 : Int64)))]))
      refine own_step (fun _ zk => XS.ifNo X2.here hx rfl (hb hby at_70) rfl (own_lc_ne_f (own_cong _ _ k hk0 hk1 hk3)) zk) ?_
      show own_E p e below _ (T2.setTop (mkF m 73 #[.val (.int p1), .val (.int p2), .val (.int p3), .val (.int B), .val (.int (1 : Int32)), .val (.int (own_kept p1 B (1 : Int32))), .val (.long ((1 : Int64) <<< ((B).toInt64 &&& 63))), .second, .val (.long ((Int32.toInt64 p1) - (Int32.toInt64 (own_kept p1 B (1 : Int32))))), .second, .unset, .unset, .unset, .unset, .unset, .unset] []))
      refine own_step (fun _ zk => XS.iconst X2.here hx rfl (hb hby at_73) zk) ?_
      show own_E p e below _ (T2.setTop (mkF m 74 #[.val (.int p1), .val (.int p2), .val (.int p3), .val (.int B), .val (.int (1 : Int32)), .val (.int (own_kept p1 B (1 : Int32))), .val (.long ((1 : Int64) <<< ((B).toInt64 &&& 63))), .second, .val (.long ((Int32.toInt64 p1) - (Int32.toInt64 (own_kept p1 B (1 : Int32))))), .second, .unset, .unset, .unset, .unset, .unset, .unset] [(.int (1 : Int32))]))
      refine own_step (fun _ zk => XS.goto X2.here hx rfl (pc0 := 74) (pc' := 78) rfl (hb hby at_74) (by decide) (by decide) zk) ?_
      show own_E p e below _ (T2.setTop (mkF m 78 #[.val (.int p1), .val (.int p2), .val (.int p3), .val (.int B), .val (.int (1 : Int32)), .val (.int (own_kept p1 B (1 : Int32))), .val (.long ((1 : Int64) <<< ((B).toInt64 &&& 63))), .second, .val (.long ((Int32.toInt64 p1) - (Int32.toInt64 (own_kept p1 B (1 : Int32))))), .second, .unset, .unset, .unset, .unset, .unset, .unset] [(.int (1 : Int32))]))
      refine own_step (fun _ zk => XS.istore X2.here hx rfl (hb hby at_78) rfl (l' := #[.val (.int p1), .val (.int p2), .val (.int p3), .val (.int B), .val (.int (1 : Int32)), .val (.int (own_kept p1 B (1 : Int32))), .val (.long ((1 : Int64) <<< ((B).toInt64 &&& 63))), .second, .val (.long ((Int32.toInt64 p1) - (Int32.toInt64 (own_kept p1 B (1 : Int32))))), .second, .val (.int (1 : Int32)), .unset, .unset, .unset, .unset, .unset]) rfl zk) ?_
      show own_E p e below _ (T2.setTop (mkF m 80 #[.val (.int p1), .val (.int p2), .val (.int p3), .val (.int B), .val (.int (1 : Int32)), .val (.int (own_kept p1 B (1 : Int32))), .val (.long ((1 : Int64) <<< ((B).toInt64 &&& 63))), .second, .val (.long ((Int32.toInt64 p1) - (Int32.toInt64 (own_kept p1 B (1 : Int32))))), .second, .val (.int (1 : Int32)), .unset, .unset, .unset, .unset, .unset] []))
      refine own_step (fun _ zk => XS.iload X2.here hx rfl (hb hby at_80) rfl zk) ?_
      show own_E p e below _ (T2.setTop (mkF m 82 #[.val (.int p1), .val (.int p2), .val (.int p3), .val (.int B), .val (.int (1 : Int32)), .val (.int (own_kept p1 B (1 : Int32))), .val (.long ((1 : Int64) <<< ((B).toInt64 &&& 63))), .second, .val (.long ((Int32.toInt64 p1) - (Int32.toInt64 (own_kept p1 B (1 : Int32))))), .second, .val (.int (1 : Int32)), .unset, .unset, .unset, .unset, .unset] [(.int (1 : Int32))]))
      refine own_step (fun _ zk => XS.ifNo X2.here hx rfl (hb hby at_82) rfl ((if0 _ _).trans (feq (by decide)).1) zk) ?_
      show own_E p e below _ (T2.setTop (mkF m 85 #[.val (.int p1), .val (.int p2), .val (.int p3), .val (.int B), .val (.int (1 : Int32)), .val (.int (own_kept p1 B (1 : Int32))), .val (.long ((1 : Int64) <<< ((B).toInt64 &&& 63))), .second, .val (.long ((Int32.toInt64 p1) - (Int32.toInt64 (own_kept p1 B (1 : Int32))))), .second, .val (.int (1 : Int32)), .unset, .unset, .unset, .unset, .unset] []))
      refine own_step (fun _ zk => Jvm.Free.XT.lload X2.here hx rfl (hb hby at_85) rfl zk) ?_
      show own_E p e below _ (T2.setTop (mkF m 87 #[.val (.int p1), .val (.int p2), .val (.int p3), .val (.int B), .val (.int (1 : Int32)), .val (.int (own_kept p1 B (1 : Int32))), .val (.long ((1 : Int64) <<< ((B).toInt64 &&& 63))), .second, .val (.long ((Int32.toInt64 p1) - (Int32.toInt64 (own_kept p1 B (1 : Int32))))), .second, .val (.int (1 : Int32)), .unset, .unset, .unset, .unset, .unset] [(.long ((1 : Int64) <<< ((B).toInt64 &&& 63)))]))
      refine own_step (fun _ zk => X2.ldc2J hx (v := 2) hown (mvT hZ (hw _ (List.mem_of_getElem? (i := 5) rfl))) (g := (mkF m 87 #[.val (.int p1), .val (.int p2), .val (.int p3), .val (.int B), .val (.int (1 : Int32)), .val (.int (own_kept p1 B (1 : Int32))), .val (.long ((1 : Int64) <<< ((B).toInt64 &&& 63))), .second, .val (.long ((Int32.toInt64 p1) - (Int32.toInt64 (own_kept p1 B (1 : Int32))))), .second, .val (.int (1 : Int32)), .unset, .unset, .unset, .unset, .unset] [(.long ((1 : Int64) <<< ((B).toInt64 &&& 63)))])) rfl (hb hby at_87) zk) ?_
      show own_E p e below _ (T2.setTop (mkF m 90 #[.val (.int p1), .val (.int p2), .val (.int p3), .val (.int B), .val (.int (1 : Int32)), .val (.int (own_kept p1 B (1 : Int32))), .val (.long ((1 : Int64) <<< ((B).toInt64 &&& 63))), .second, .val (.long ((Int32.toInt64 p1) - (Int32.toInt64 (own_kept p1 B (1 : Int32))))), .second, .val (.int (1 : Int32)), .unset, .unset, .unset, .unset, .unset] [(.long (2 : Int64)), (.long ((1 : Int64) <<< ((B).toInt64 &&& 63)))]))
      refine own_step (fun _ zk => Jvm.Free.XT.ldiv X2.here hx rfl (hb hby at_90) rfl (by decide) zk) ?_
      show own_E p e below _ (T2.setTop (mkF m 91 #[.val (.int p1), .val (.int p2), .val (.int p3), .val (.int B), .val (.int (1 : Int32)), .val (.int (own_kept p1 B (1 : Int32))), .val (.long ((1 : Int64) <<< ((B).toInt64 &&& 63))), .second, .val (.long ((Int32.toInt64 p1) - (Int32.toInt64 (own_kept p1 B (1 : Int32))))), .second, .val (.int (1 : Int32)), .unset, .unset, .unset, .unset, .unset] [(.long (((1 : Int64) <<< ((B).toInt64 &&& 63)) / (2 : Int64)))]))
      refine own_step (fun _ zk => Jvm.Free.XT.lneg X2.here hx rfl (hb hby at_91) rfl zk) ?_
      show own_E p e below _ (T2.setTop (mkF m 92 #[.val (.int p1), .val (.int p2), .val (.int p3), .val (.int B), .val (.int (1 : Int32)), .val (.int (own_kept p1 B (1 : Int32))), .val (.long ((1 : Int64) <<< ((B).toInt64 &&& 63))), .second, .val (.long ((Int32.toInt64 p1) - (Int32.toInt64 (own_kept p1 B (1 : Int32))))), .second, .val (.int (1 : Int32)), .unset, .unset, .unset, .unset, .unset] [(.long (-(((1 : Int64) <<< ((B).toInt64 &&& 63)) / (2 : Int64))))]))
      refine own_step (fun _ zk => Jvm.Free.XT.lstore X2.here hx rfl (hb hby at_92) rfl (l' := #[.val (.int p1), .val (.int p2), .val (.int p3), .val (.int B), .val (.int (1 : Int32)), .val (.int (own_kept p1 B (1 : Int32))), .val (.long ((1 : Int64) <<< ((B).toInt64 &&& 63))), .second, .val (.long ((Int32.toInt64 p1) - (Int32.toInt64 (own_kept p1 B (1 : Int32))))), .second, .val (.int (1 : Int32)), .val (.long (-(((1 : Int64) <<< ((B).toInt64 &&& 63)) / (2 : Int64)))), .second, .unset, .unset, .unset]) rfl zk) ?_
      show own_E p e below _ (T2.setTop (mkF m 94 #[.val (.int p1), .val (.int p2), .val (.int p3), .val (.int B), .val (.int (1 : Int32)), .val (.int (own_kept p1 B (1 : Int32))), .val (.long ((1 : Int64) <<< ((B).toInt64 &&& 63))), .second, .val (.long ((Int32.toInt64 p1) - (Int32.toInt64 (own_kept p1 B (1 : Int32))))), .second, .val (.int (1 : Int32)), .val (.long (-(((1 : Int64) <<< ((B).toInt64 &&& 63)) / (2 : Int64)))), .second, .unset, .unset, .unset] []))
      refine own_step (fun _ zk => Jvm.Free.XT.lload X2.here hx rfl (hb hby at_94) rfl zk) ?_
      show own_E p e below _ (T2.setTop (mkF m 96 #[.val (.int p1), .val (.int p2), .val (.int p3), .val (.int B), .val (.int (1 : Int32)), .val (.int (own_kept p1 B (1 : Int32))), .val (.long ((1 : Int64) <<< ((B).toInt64 &&& 63))), .second, .val (.long ((Int32.toInt64 p1) - (Int32.toInt64 (own_kept p1 B (1 : Int32))))), .second, .val (.int (1 : Int32)), .val (.long (-(((1 : Int64) <<< ((B).toInt64 &&& 63)) / (2 : Int64)))), .second, .unset, .unset, .unset] [(.long ((1 : Int64) <<< ((B).toInt64 &&& 63)))]))
      refine own_step (fun _ zk => X2.ldc2J hx (v := 2) hown (mvT hZ (hw _ (List.mem_of_getElem? (i := 5) rfl))) (g := (mkF m 96 #[.val (.int p1), .val (.int p2), .val (.int p3), .val (.int B), .val (.int (1 : Int32)), .val (.int (own_kept p1 B (1 : Int32))), .val (.long ((1 : Int64) <<< ((B).toInt64 &&& 63))), .second, .val (.long ((Int32.toInt64 p1) - (Int32.toInt64 (own_kept p1 B (1 : Int32))))), .second, .val (.int (1 : Int32)), .val (.long (-(((1 : Int64) <<< ((B).toInt64 &&& 63)) / (2 : Int64)))), .second, .unset, .unset, .unset] [(.long ((1 : Int64) <<< ((B).toInt64 &&& 63)))])) rfl (hb hby at_96) zk) ?_
      show own_E p e below _ (T2.setTop (mkF m 99 #[.val (.int p1), .val (.int p2), .val (.int p3), .val (.int B), .val (.int (1 : Int32)), .val (.int (own_kept p1 B (1 : Int32))), .val (.long ((1 : Int64) <<< ((B).toInt64 &&& 63))), .second, .val (.long ((Int32.toInt64 p1) - (Int32.toInt64 (own_kept p1 B (1 : Int32))))), .second, .val (.int (1 : Int32)), .val (.long (-(((1 : Int64) <<< ((B).toInt64 &&& 63)) / (2 : Int64)))), .second, .unset, .unset, .unset] [(.long (2 : Int64)), (.long ((1 : Int64) <<< ((B).toInt64 &&& 63)))]))
      refine own_step (fun _ zk => Jvm.Free.XT.ldiv X2.here hx rfl (hb hby at_99) rfl (by decide) zk) ?_
      show own_E p e below _ (T2.setTop (mkF m 100 #[.val (.int p1), .val (.int p2), .val (.int p3), .val (.int B), .val (.int (1 : Int32)), .val (.int (own_kept p1 B (1 : Int32))), .val (.long ((1 : Int64) <<< ((B).toInt64 &&& 63))), .second, .val (.long ((Int32.toInt64 p1) - (Int32.toInt64 (own_kept p1 B (1 : Int32))))), .second, .val (.int (1 : Int32)), .val (.long (-(((1 : Int64) <<< ((B).toInt64 &&& 63)) / (2 : Int64)))), .second, .unset, .unset, .unset] [(.long (((1 : Int64) <<< ((B).toInt64 &&& 63)) / (2 : Int64)))]))
      refine own_step (fun _ zk => Jvm.Free.XT.lstore X2.here hx rfl (hb hby at_100) rfl (l' := #[.val (.int p1), .val (.int p2), .val (.int p3), .val (.int B), .val (.int (1 : Int32)), .val (.int (own_kept p1 B (1 : Int32))), .val (.long ((1 : Int64) <<< ((B).toInt64 &&& 63))), .second, .val (.long ((Int32.toInt64 p1) - (Int32.toInt64 (own_kept p1 B (1 : Int32))))), .second, .val (.int (1 : Int32)), .val (.long (-(((1 : Int64) <<< ((B).toInt64 &&& 63)) / (2 : Int64)))), .second, .val (.long (((1 : Int64) <<< ((B).toInt64 &&& 63)) / (2 : Int64))), .second, .unset]) rfl zk) ?_
      show own_E p e below _ (T2.setTop (mkF m 102 #[.val (.int p1), .val (.int p2), .val (.int p3), .val (.int B), .val (.int (1 : Int32)), .val (.int (own_kept p1 B (1 : Int32))), .val (.long ((1 : Int64) <<< ((B).toInt64 &&& 63))), .second, .val (.long ((Int32.toInt64 p1) - (Int32.toInt64 (own_kept p1 B (1 : Int32))))), .second, .val (.int (1 : Int32)), .val (.long (-(((1 : Int64) <<< ((B).toInt64 &&& 63)) / (2 : Int64)))), .second, .val (.long (((1 : Int64) <<< ((B).toInt64 &&& 63)) / (2 : Int64))), .second, .unset] []))
      refine own_step (fun _ zk => XS.goto X2.here hx rfl (pc0 := 102) (pc' := 112) rfl (hb hby at_102) (by decide) (by decide) zk) ?_
      show own_E p e below _ (T2.setTop (mkF m 112 #[.val (.int p1), .val (.int p2), .val (.int p3), .val (.int B), .val (.int (1 : Int32)), .val (.int (own_kept p1 B (1 : Int32))), .val (.long ((1 : Int64) <<< ((B).toInt64 &&& 63))), .second, .val (.long ((Int32.toInt64 p1) - (Int32.toInt64 (own_kept p1 B (1 : Int32))))), .second, .val (.int (1 : Int32)), .val (.long (-(((1 : Int64) <<< ((B).toInt64 &&& 63)) / (2 : Int64)))), .second, .val (.long (((1 : Int64) <<< ((B).toInt64 &&& 63)) / (2 : Int64))), .second, .unset] []))
      refine own_step (fun _ zk => Jvm.Free.XT.lload X2.here hx rfl (hb hby at_112) rfl zk) ?_
      show own_E p e below _ (T2.setTop (mkF m 114 #[.val (.int p1), .val (.int p2), .val (.int p3), .val (.int B), .val (.int (1 : Int32)), .val (.int (own_kept p1 B (1 : Int32))), .val (.long ((1 : Int64) <<< ((B).toInt64 &&& 63))), .second, .val (.long ((Int32.toInt64 p1) - (Int32.toInt64 (own_kept p1 B (1 : Int32))))), .second, .val (.int (1 : Int32)), .val (.long (-(((1 : Int64) <<< ((B).toInt64 &&& 63)) / (2 : Int64)))), .second, .val (.long (((1 : Int64) <<< ((B).toInt64 &&& 63)) / (2 : Int64))), .second, .unset] [(.long (-(((1 : Int64) <<< ((B).toInt64 &&& 63)) / (2 : Int64))))]))
      refine own_step (fun _ zk => XS.iload X2.here hx rfl (hb hby at_114) rfl zk) ?_
      show own_E p e below _ (T2.setTop (mkF m 116 #[.val (.int p1), .val (.int p2), .val (.int p3), .val (.int B), .val (.int (1 : Int32)), .val (.int (own_kept p1 B (1 : Int32))), .val (.long ((1 : Int64) <<< ((B).toInt64 &&& 63))), .second, .val (.long ((Int32.toInt64 p1) - (Int32.toInt64 (own_kept p1 B (1 : Int32))))), .second, .val (.int (1 : Int32)), .val (.long (-(((1 : Int64) <<< ((B).toInt64 &&& 63)) / (2 : Int64)))), .second, .val (.long (((1 : Int64) <<< ((B).toInt64 &&& 63)) / (2 : Int64))), .second, .unset] [(.int (own_kept p1 B (1 : Int32))), (.long (-(((1 : Int64) <<< ((B).toInt64 &&& 63)) / (2 : Int64))))]))
      refine own_step (fun _ zk => Jvm.Free.XT.i2l X2.here hx rfl (hb hby at_116) rfl zk) ?_
      show own_E p e below _ (T2.setTop (mkF m 117 #[.val (.int p1), .val (.int p2), .val (.int p3), .val (.int B), .val (.int (1 : Int32)), .val (.int (own_kept p1 B (1 : Int32))), .val (.long ((1 : Int64) <<< ((B).toInt64 &&& 63))), .second, .val (.long ((Int32.toInt64 p1) - (Int32.toInt64 (own_kept p1 B (1 : Int32))))), .second, .val (.int (1 : Int32)), .val (.long (-(((1 : Int64) <<< ((B).toInt64 &&& 63)) / (2 : Int64)))), .second, .val (.long (((1 : Int64) <<< ((B).toInt64 &&& 63)) / (2 : Int64))), .second, .unset] [(.long (Int32.toInt64 (own_kept p1 B (1 : Int32)))), (.long (-(((1 : Int64) <<< ((B).toInt64 &&& 63)) / (2 : Int64))))]))
      refine own_step (fun _ zk => Jvm.Free.XT.lcmp X2.here hx rfl (hb hby at_117) rfl zk) ?_
      show own_E p e below _ (T2.setTop (mkF m 118 #[.val (.int p1), .val (.int p2), .val (.int p3), .val (.int B), .val (.int (1 : Int32)), .val (.int (own_kept p1 B (1 : Int32))), .val (.long ((1 : Int64) <<< ((B).toInt64 &&& 63))), .second, .val (.long ((Int32.toInt64 p1) - (Int32.toInt64 (own_kept p1 B (1 : Int32))))), .second, .val (.int (1 : Int32)), .val (.long (-(((1 : Int64) <<< ((B).toInt64 &&& 63)) / (2 : Int64)))), .second, .val (.long (((1 : Int64) <<< ((B).toInt64 &&& 63)) / (2 : Int64))), .second, .unset] [(.int (Jvm.Free.XT.cmpL (-(((1 : Int64) <<< ((B).toInt64 &&& 63)) / (2 : Int64))) (Int32.toInt64 (own_kept p1 B (1 : Int32)))))]))
      refine own_step (fun _ zk => XS.ifNo X2.here hx rfl (hb hby at_118) rfl (own_lc_gt_f (own_rng_s1 _ _ (by decide) k hk0 hk1 hk3)) zk) ?_
      show own_E p e below _ (T2.setTop (mkF m 121 #[.val (.int p1), .val (.int p2), .val (.int p3), .val (.int B), .val (.int (1 : Int32)), .val (.int (own_kept p1 B (1 : Int32))), .val (.long ((1 : Int64) <<< ((B).toInt64 &&& 63))), .second, .val (.long ((Int32.toInt64 p1) - (Int32.toInt64 (own_kept p1 B (1 : Int32))))), .second, .val (.int (1 : Int32)), .val (.long (-(((1 : Int64) <<< ((B).toInt64 &&& 63)) / (2 : Int64)))), .second, .val (.long (((1 : Int64) <<< ((B).toInt64 &&& 63)) / (2 : Int64))), .second, .unset] []))
      refine own_step (fun _ zk => XS.iload X2.here hx rfl (hb hby at_121) rfl zk) ?_
      show own_E p e below _ (T2.setTop (mkF m 123 #[.val (.int p1), .val (.int p2), .val (.int p3), .val (.int B), .val (.int (1 : Int32)), .val (.int (own_kept p1 B (1 : Int32))), .val (.long ((1 : Int64) <<< ((B).toInt64 &&& 63))), .second, .val (.long ((Int32.toInt64 p1) - (Int32.toInt64 (own_kept p1 B (1 : Int32))))), .second, .val (.int (1 : Int32)), .val (.long (-(((1 : Int64) <<< ((B).toInt64 &&& 63)) / (2 : Int64)))), .second, .val (.long (((1 : Int64) <<< ((B).toInt64 &&& 63)) / (2 : Int64))), .second, .unset] [(.int (own_kept p1 B (1 : Int32)))]))
      refine own_step (fun _ zk => Jvm.Free.XT.i2l X2.here hx rfl (hb hby at_123) rfl zk) ?_
      show own_E p e below _ (T2.setTop (mkF m 124 #[.val (.int p1), .val (.int p2), .val (.int p3), .val (.int B), .val (.int (1 : Int32)), .val (.int (own_kept p1 B (1 : Int32))), .val (.long ((1 : Int64) <<< ((B).toInt64 &&& 63))), .second, .val (.long ((Int32.toInt64 p1) - (Int32.toInt64 (own_kept p1 B (1 : Int32))))), .second, .val (.int (1 : Int32)), .val (.long (-(((1 : Int64) <<< ((B).toInt64 &&& 63)) / (2 : Int64)))), .second, .val (.long (((1 : Int64) <<< ((B).toInt64 &&& 63)) / (2 : Int64))), .second, .unset] [(.long (Int32.toInt64 (own_kept p1 B (1 : Int32))))]))
      refine own_step (fun _ zk => Jvm.Free.XT.lload X2.here hx rfl (hb hby at_124) rfl zk) ?_
      show own_E p e below _ (T2.setTop (mkF m 126 #[.val (.int p1), .val (.int p2), .val (.int p3), .val (.int B), .val (.int (1 : Int32)), .val (.int (own_kept p1 B (1 : Int32))), .val (.long ((1 : Int64) <<< ((B).toInt64 &&& 63))), .second, .val (.long ((Int32.toInt64 p1) - (Int32.toInt64 (own_kept p1 B (1 : Int32))))), .second, .val (.int (1 : Int32)), .val (.long (-(((1 : Int64) <<< ((B).toInt64 &&& 63)) / (2 : Int64)))), .second, .val (.long (((1 : Int64) <<< ((B).toInt64 &&& 63)) / (2 : Int64))), .second, .unset] [(.long (((1 : Int64) <<< ((B).toInt64 &&& 63)) / (2 : Int64))), (.long (Int32.toInt64 (own_kept p1 B (1 : Int32))))]))
      refine own_step (fun _ zk => Jvm.Free.XT.lcmp X2.here hx rfl (hb hby at_126) rfl zk) ?_
      show own_E p e below _ (T2.setTop (mkF m 127 #[.val (.int p1), .val (.int p2), .val (.int p3), .val (.int B), .val (.int (1 : Int32)), .val (.int (own_kept p1 B (1 : Int32))), .val (.long ((1 : Int64) <<< ((B).toInt64 &&& 63))), .second, .val (.long ((Int32.toInt64 p1) - (Int32.toInt64 (own_kept p1 B (1 : Int32))))), .second, .val (.int (1 : Int32)), .val (.long (-(((1 : Int64) <<< ((B).toInt64 &&& 63)) / (2 : Int64)))), .second, .val (.long (((1 : Int64) <<< ((B).toInt64 &&& 63)) / (2 : Int64))), .second, .unset] [(.int (Jvm.Free.XT.cmpL (Int32.toInt64 (own_kept p1 B (1 : Int32))) (((1 : Int64) <<< ((B).toInt64 &&& 63)) / (2 : Int64))))]))
      refine own_step (fun _ zk => XS.ifNo X2.here hx rfl (hb hby at_127) rfl (own_lc_ge_f (own_rng_s2 _ _ (by decide) k hk0 hk1 hk3)) zk) ?_
      show own_E p e below _ (T2.setTop (mkF m 130 #[.val (.int p1), .val (.int p2), .val (.int p3), .val (.int B), .val (.int (1 : Int32)), .val (.int (own_kept p1 B (1 : Int32))), .val (.long ((1 : Int64) <<< ((B).toInt64 &&& 63))), .second, .val (.long ((Int32.toInt64 p1) - (Int32.toInt64 (own_kept p1 B (1 : Int32))))), .second, .val (.int (1 : Int32)), .val (.long (-(((1 : Int64) <<< ((B).toInt64 &&& 63)) / (2 : Int64)))), .second, .val (.long (((1 : Int64) <<< ((B).toInt64 &&& 63)) / (2 : Int64))), .second, .unset] []))
      refine own_step (fun _ zk => XS.iconst X2.here hx rfl (hb hby at_130) zk) ?_
      show own_E p e below _ (T2.setTop (mkF m 131 #[.val (.int p1), .val (.int p2), .val (.int p3), .val (.int B), .val (.int (1 : Int32)), .val (.int (own_kept p1 B (1 : Int32))), .val (.long ((1 : Int64) <<< ((B).toInt64 &&& 63))), .second, .val (.long ((Int32.toInt64 p1) - (Int32.toInt64 (own_kept p1 B (1 : Int32))))), .second, .val (.int (1 : Int32)), .val (.long (-(((1 : Int64) <<< ((B).toInt64 &&& 63)) / (2 : Int64)))), .second, .val (.long (((1 : Int64) <<< ((B).toInt64 &&& 63)) / (2 : Int64))), .second, .unset] [(.int (1 : Int32))]))
      refine own_step (fun _ zk => XS.goto X2.here hx rfl (pc0 := 131) (pc' := 135) rfl (hb hby at_131) (by decide) (by decide) zk) ?_
      show own_E p e below _ (T2.setTop (mkF m 135 #[.val (.int p1), .val (.int p2), .val (.int p3), .val (.int B), .val (.int (1 : Int32)), .val (.int (own_kept p1 B (1 : Int32))), .val (.long ((1 : Int64) <<< ((B).toInt64 &&& 63))), .second, .val (.long ((Int32.toInt64 p1) - (Int32.toInt64 (own_kept p1 B (1 : Int32))))), .second, .val (.int (1 : Int32)), .val (.long (-(((1 : Int64) <<< ((B).toInt64 &&& 63)) / (2 : Int64)))), .second, .val (.long (((1 : Int64) <<< ((B).toInt64 &&& 63)) / (2 : Int64))), .second, .unset] [(.int (1 : Int32))]))
      refine own_step (fun _ zk => XS.istore X2.here hx rfl (hb hby at_135) rfl (l' := #[.val (.int p1), .val (.int p2), .val (.int p3), .val (.int B), .val (.int (1 : Int32)), .val (.int (own_kept p1 B (1 : Int32))), .val (.long ((1 : Int64) <<< ((B).toInt64 &&& 63))), .second, .val (.long ((Int32.toInt64 p1) - (Int32.toInt64 (own_kept p1 B (1 : Int32))))), .second, .val (.int (1 : Int32)), .val (.long (-(((1 : Int64) <<< ((B).toInt64 &&& 63)) / (2 : Int64)))), .second, .val (.long (((1 : Int64) <<< ((B).toInt64 &&& 63)) / (2 : Int64))), .second, .val (.int (1 : Int32))]) rfl zk) ?_
      show own_E p e below _ (T2.setTop (mkF m 137 #[.val (.int p1), .val (.int p2), .val (.int p3), .val (.int B), .val (.int (1 : Int32)), .val (.int (own_kept p1 B (1 : Int32))), .val (.long ((1 : Int64) <<< ((B).toInt64 &&& 63))), .second, .val (.long ((Int32.toInt64 p1) - (Int32.toInt64 (own_kept p1 B (1 : Int32))))), .second, .val (.int (1 : Int32)), .val (.long (-(((1 : Int64) <<< ((B).toInt64 &&& 63)) / (2 : Int64)))), .second, .val (.long (((1 : Int64) <<< ((B).toInt64 &&& 63)) / (2 : Int64))), .second, .val (.int (1 : Int32))] []))
      refine own_step (fun _ zk => XS.iload X2.here hx rfl (hb hby at_137) rfl zk) ?_
      show own_E p e below _ (T2.setTop (mkF m 139 #[.val (.int p1), .val (.int p2), .val (.int p3), .val (.int B), .val (.int (1 : Int32)), .val (.int (own_kept p1 B (1 : Int32))), .val (.long ((1 : Int64) <<< ((B).toInt64 &&& 63))), .second, .val (.long ((Int32.toInt64 p1) - (Int32.toInt64 (own_kept p1 B (1 : Int32))))), .second, .val (.int (1 : Int32)), .val (.long (-(((1 : Int64) <<< ((B).toInt64 &&& 63)) / (2 : Int64)))), .second, .val (.long (((1 : Int64) <<< ((B).toInt64 &&& 63)) / (2 : Int64))), .second, .val (.int (1 : Int32))] [(.int (1 : Int32))]))
      refine own_step (fun _ zk => XS.ifNo X2.here hx rfl (hb hby at_139) rfl ((if0 _ _).trans (feq (by decide)).1) zk) ?_
      show own_E p e below _ (T2.setTop (mkF m 142 #[.val (.int p1), .val (.int p2), .val (.int p3), .val (.int B), .val (.int (1 : Int32)), .val (.int (own_kept p1 B (1 : Int32))), .val (.long ((1 : Int64) <<< ((B).toInt64 &&& 63))), .second, .val (.long ((Int32.toInt64 p1) - (Int32.toInt64 (own_kept p1 B (1 : Int32))))), .second, .val (.int (1 : Int32)), .val (.long (-(((1 : Int64) <<< ((B).toInt64 &&& 63)) / (2 : Int64)))), .second, .val (.long (((1 : Int64) <<< ((B).toInt64 &&& 63)) / (2 : Int64))), .second, .val (.int (1 : Int32))] []))
      refine own_step (fun _ zk => XS.iload X2.here hx rfl (hb hby at_142) rfl zk) ?_
      show own_E p e below _ (T2.setTop (mkF m 144 #[.val (.int p1), .val (.int p2), .val (.int p3), .val (.int B), .val (.int (1 : Int32)), .val (.int (own_kept p1 B (1 : Int32))), .val (.long ((1 : Int64) <<< ((B).toInt64 &&& 63))), .second, .val (.long ((Int32.toInt64 p1) - (Int32.toInt64 (own_kept p1 B (1 : Int32))))), .second, .val (.int (1 : Int32)), .val (.long (-(((1 : Int64) <<< ((B).toInt64 &&& 63)) / (2 : Int64)))), .second, .val (.long (((1 : Int64) <<< ((B).toInt64 &&& 63)) / (2 : Int64))), .second, .val (.int (1 : Int32))] [(.int (1 : Int32))]))
      refine own_step (fun _ zk => XS.ifNo X2.here hx rfl (hb hby at_144) rfl ((if0 _ _).trans (feq (by decide)).1) zk) ?_
      show own_E p e below _ (T2.setTop (mkF m 147 #[.val (.int p1), .val (.int p2), .val (.int p3), .val (.int B), .val (.int (1 : Int32)), .val (.int (own_kept p1 B (1 : Int32))), .val (.long ((1 : Int64) <<< ((B).toInt64 &&& 63))), .second, .val (.long ((Int32.toInt64 p1) - (Int32.toInt64 (own_kept p1 B (1 : Int32))))), .second, .val (.int (1 : Int32)), .val (.long (-(((1 : Int64) <<< ((B).toInt64 &&& 63)) / (2 : Int64)))), .second, .val (.long (((1 : Int64) <<< ((B).toInt64 &&& 63)) / (2 : Int64))), .second, .val (.int (1 : Int32))] []))
      refine own_step (fun _ zk => XS.iconst X2.here hx rfl (hb hby at_147) zk) ?_
      show own_E p e below _ (T2.setTop (mkF m 148 #[.val (.int p1), .val (.int p2), .val (.int p3), .val (.int B), .val (.int (1 : Int32)), .val (.int (own_kept p1 B (1 : Int32))), .val (.long ((1 : Int64) <<< ((B).toInt64 &&& 63))), .second, .val (.long ((Int32.toInt64 p1) - (Int32.toInt64 (own_kept p1 B (1 : Int32))))), .second, .val (.int (1 : Int32)), .val (.long (-(((1 : Int64) <<< ((B).toInt64 &&& 63)) / (2 : Int64)))), .second, .val (.long (((1 : Int64) <<< ((B).toInt64 &&& 63)) / (2 : Int64))), .second, .val (.int (1 : Int32))] [(.int (1 : Int32))]))
      refine own_step (fun _ zk => XS.goto X2.here hx rfl (pc0 := 148) (pc' := 152) rfl (hb hby at_148) (by decide) (by decide) zk) ?_
      show own_E p e below _ (T2.setTop (mkF m 152 #[.val (.int p1), .val (.int p2), .val (.int p3), .val (.int B), .val (.int (1 : Int32)), .val (.int (own_kept p1 B (1 : Int32))), .val (.long ((1 : Int64) <<< ((B).toInt64 &&& 63))), .second, .val (.long ((Int32.toInt64 p1) - (Int32.toInt64 (own_kept p1 B (1 : Int32))))), .second, .val (.int (1 : Int32)), .val (.long (-(((1 : Int64) <<< ((B).toInt64 &&& 63)) / (2 : Int64)))), .second, .val (.long (((1 : Int64) <<< ((B).toInt64 &&& 63)) / (2 : Int64))), .second, .val (.int (1 : Int32))] [(.int (1 : Int32))]))
      refine own_ret X2 hlk (v := some (.int (nar .boolean (1 : Int32)))) (fun h => by rw [Bd.returns] at h; cases h) ?_ (by decide) (by decide) (fun fs hr => retN X2 hx (t := .boolean) Bd.returns (by simp) (hb hby at_152) hr)
      show Q0 Z p1 p2 p3 h0 n0 _ T2.heap _
      rw [e2]
      exact ⟨by decide, N2⟩
set_option maxRecDepth 65536 in
set_option maxHeartbeats 40000000 in
theorem comes_1 {Post : Tables → Env → Array Value → State → Outcome → State → Prop} (hpost : ∀ tb e args s v u, (limb_1_1.after args s (.returned v) u = true ∧ limb_1_2.after args s (.returned v) u = true ∧ True) → FrameEnd s (.returned v) u (Jvm.fieldLocs frame_1_writes args s ++ Jvm.arrayLocs frame_1_arrays args s ++ Jvm.staticLocs frame_1_statics s) 0 0 → Post tb e args s (.returned v) u) :
    ArmFor flags0 classFile x code maxLocals ret World_1 tables_1 room_1 Calls_1 rest_1 Pre_1 Post := by
  intro l hfl _ _ p e ha hc hk s m args below hf hA hF happ hP
  obtain ⟨hcalls, hrest, hpre⟩ := hP
  obtain ⟨-, -, -, hnamed, -, -, -, hat⟩ := (Spec.applies_iff hf).mp happ
  obtain ⟨hg, hn⟩ := and_e (Cond.before_iff.mp (show (Jvm.Cond.and given_1 narrow_1).before args s = true from hpre))
  obtain ⟨gc, gr0⟩ := and_e hg
  obtain ⟨gi0, gr1⟩ := and_e gr0
  obtain ⟨gi1, gr2⟩ := and_e gr1
  have gi2 := gr2
  obtain ⟨w0, w1, w2, rfl⟩ : ∃ w0 w1 w2 : Value, args = #[w0, w1, w2] := by
    have hs : args.size = 3 := by simpa [Cond.value, given_1] using gc
    obtain ⟨L⟩ := args
    match L, hs with
    | [w0, w1, w2], _ => exact ⟨w0, w1, w2, rfl⟩
  have hw := fun d (hd : d ∈ tables_1) => atoms_spec (ws := Jvm.Cond.code x code maxLocals ret :: tables_1) hat d (List.mem_cons_of_mem _ hd)
  obtain ⟨i0, ei0⟩ := is_v gi0
  obtain rfl : w0 = (.int i0) := Option.some.inj ei0
  obtain ⟨i1, ei1⟩ := is_v gi1
  obtain rfl : w1 = (.int i1) := Option.some.inj ei1
  obtain ⟨i2, ei2⟩ := is_v gi2
  obtain rfl : w2 = (.int i2) := Option.some.inj ei2
  obtain ⟨n, o, h1, h2, h3, _, L, rfl, ⟨rfl, N⟩, hq⟩ := rm0 l s _ hw tables_1 i0 i1 i2 s.heap s.heap.size (Nat.le_refl _) p e ha hc hk s m _ below hf ((Spec.applies_iff_loose hf).mp happ).1 ⟨rfl, State.Warmed39.refl s, rfl⟩ trivial
  refine ⟨n, _, h1, h2, h3, hpost _ _ _ _ _ _ ⟨Cond.after_iff.mpr rfl, Cond.after_iff.mpr (eq_i res_at (Term.int_eval (1)) rfl), trivial⟩ ⟨hq.1, hq.2.1, (hq.2.2.sift fun y hy => Or.inr (N y hy)).mono (by decide) (by decide)⟩⟩
theorem main_1_1 : Claimed_1_1 := comes_1 fun _ _ _ _ _ _ h hF => ⟨h.1, hF⟩
theorem main_1_2 : Claimed_1_2 := comes_1 fun _ _ _ _ _ _ h hF => ⟨h.2.1, hF⟩
end Jvm.Pilot.@@N@@
namespace Jvm.Pilot.@@N@@
open Jvm Jvm.ClassFile Sem Op Lib Jvm.Free Jvm.Stand Jvm.Pilot.@@N@@.Jvm.D
/-! MADE BY PROGRAM (witnessworld.py) out of the Statement's table words and the real class files: 9 classes; the members and pool entries that the words name. The judged class is class 1, her method 1. -/
namespace start1
open Jvm.ClassFile
def u (s : String) : CpInfo := .utf8 (stringToUtf16 s)
/-- a pool by its gaps: so many unusable entries, then the entry; so many at the end -/
def gap : Nat → List CpInfo → List CpInfo
  | 0, r => r
  | n + 1, r => .unusable :: gap n r
def poolList (es : List (Nat × CpInfo)) (last : Nat) : List CpInfo := es.foldr (fun e r => gap e.1 (e.2 :: r)) (gap last [])
def pool (es : List (Nat × CpInfo)) (last : Nat) : Array CpInfo := ⟨poolList es last⟩
def fileOf (pool : Array CpInfo) (this : Nat) (attrs : Array Attribute := #[]) (ms : Array MethodInfo := #[]) (fl : Nat := 33) (sup : Nat := 0) (ifs : Array Nat := #[]) (fds : Array FieldInfo := #[]) : ClassFile where
  minorVersion := 0
  majorVersion := 65
  constantPool := pool
  accessFlags := fl
  thisClass := this
  superClass := sup
  interfaces := ifs
  fields := fds
  methods := ms
  attributes := attrs
def plain (name : String) (sup : Option ClassId) : Class where
  name := name
  kind := .ordinary
  loader := none
  accessFlags := 33
  super := sup
  interfaces := #[]
  cf := none
  fields := #[]
  methods := #[]
  instanceTypes := #[]
  staticTypes := #[]
  resolved := #[]
  callSites := []
  init := .initialized
  statics := none
  mirror := none

def pool0 : Array CpInfo := pool [(5, u "<init>"), (0, u "()V"), (1, .class_ 10), (1, u "java/lang/Object")] 113

def k0m0 : Method := { name := "<init>", desc := "()V", sig := { parameters := [], returnType := none }, accessFlags := 1, code := none }
/-- java/lang/Object -/
def k0 : Class := { plain "java/lang/Object" none with
  accessFlags := 33
  interfaces := #[]
  cf := some (fileOf pool0 8 #[] #[{ accessFlags := 1, nameIndex := 5, descriptorIndex := 6, attributes := #[] }] 33 0 #[] #[])
  fields := #[]
  methods := #[k0m0]
  instanceTypes := #[]
  staticTypes := #[]
  resolved := Array.replicate 124 none
  statics := none }

def pool1 : Array CpInfo := pool [(2, .class_ 4), (1, u "java/lang/Object"), (0, u "<init>"), (0, u "()V"), (0, .integer 2147483647), (0, .methodref 9 10), (0, .class_ 11), (0, .nameAndType 12 13), (0, u "com/example/spurion/spurion/channel/promela/PromelaVariable"), (0, u "kept"), (0, u "(IIZ)I"), (0, .long 2), (1, .class_ 17), (0, u "com/example/spurion/spurion/channel/promela/PromelaVariableKeptPinLaw"), (2, u "law"), (0, u "(III)Z")] 3

def k1m0 : Method := { name := "<init>", desc := "()V", sig := { parameters := [], returnType := none }, accessFlags := 2, code := none }
def k1c1 : Code := { maxStack := 4, maxLocals := 16, code := code, exceptionTable := #[], attributes := #[] }
def k1m1 : Method := { name := "law", desc := "(III)Z", sig := { parameters := [.int, .int, .int], returnType := some .boolean }, accessFlags := 9, code := some k1c1 }
/-- com/example/spurion/spurion/channel/promela/PromelaVariableKeptPinLaw -/
def k1 : Class := { plain "com/example/spurion/spurion/channel/promela/PromelaVariableKeptPinLaw" (some 0) with
  accessFlags := 49
  interfaces := #[]
  cf := some (fileOf pool1 16 #[] #[{ accessFlags := 2, nameIndex := 5, descriptorIndex := 6, attributes := #[] }, { accessFlags := 9, nameIndex := 20, descriptorIndex := 21, attributes := #[] }] 49 2 #[] #[])
  fields := #[]
  methods := #[k1m0, k1m1]
  instanceTypes := #[]
  staticTypes := #[]
  resolved := Array.replicate 25 none
  statics := none }

def pool2 : Array CpInfo := pool [(2, .class_ 4), (1, u "java/lang/Object"), (3, .class_ 10), (1, u "com/example/spurion/spurion/channel/promela/PromelaVariable"), (0, u "name"), (0, u "Ljava/lang/String;"), (2, u "line"), (0, u "I"), (2, u "global"), (0, u "Z"), (2, u "slot"), (2, u "length"), (2, u "array"), (2, u "bits"), (2, u "signed"), (2, u "mtype"), (2, u "channel"), (2, u "kept"), (3, u "initial"), (2, u "byProcess"), (0, u "Lcom/example/spurion/spurion/channel/promela/PromelaExpression;"), (8, u "(IIZ)I"), (0, u "MTYPE_BITS")] 8

def k2c0 : Code := { maxStack := 3, maxLocals := 4, code := prog_139_method_4_code, exceptionTable := #[], attributes := #[] }
def k2m0 : Method := { name := "kept", desc := "(IIZ)I", sig := { parameters := [.int, .int, .boolean], returnType := some .int }, accessFlags := 8, code := some k2c0 }
/-- com/example/spurion/spurion/channel/promela/PromelaVariable -/
def k2 : Class := { plain "com/example/spurion/spurion/channel/promela/PromelaVariable" (some 0) with
  accessFlags := 48
  interfaces := #[]
  cf := some (fileOf pool2 8 #[] #[{ accessFlags := 8, nameIndex := 44, descriptorIndex := 61, attributes := #[] }] 48 2 #[] #[{ accessFlags := 24, nameIndex := 62, descriptorIndex := 16, attributes := #[] }, { accessFlags := 16, nameIndex := 11, descriptorIndex := 12, attributes := #[] }, { accessFlags := 16, nameIndex := 15, descriptorIndex := 16, attributes := #[] }, { accessFlags := 16, nameIndex := 19, descriptorIndex := 20, attributes := #[] }, { accessFlags := 16, nameIndex := 23, descriptorIndex := 16, attributes := #[] }, { accessFlags := 16, nameIndex := 26, descriptorIndex := 16, attributes := #[] }, { accessFlags := 16, nameIndex := 29, descriptorIndex := 20, attributes := #[] }, { accessFlags := 16, nameIndex := 32, descriptorIndex := 16, attributes := #[] }, { accessFlags := 16, nameIndex := 35, descriptorIndex := 20, attributes := #[] }, { accessFlags := 16, nameIndex := 38, descriptorIndex := 20, attributes := #[] }, { accessFlags := 16, nameIndex := 41, descriptorIndex := 20, attributes := #[] }, { accessFlags := 18, nameIndex := 48, descriptorIndex := 16, attributes := #[] }, { accessFlags := 18, nameIndex := 51, descriptorIndex := 52, attributes := #[] }])
  fields := #[{ name := "MTYPE_BITS", type := .int, accessFlags := 24, slot := 0, constantValue := 0 }, { name := "name", type := (.object "java/lang/String"), accessFlags := 16, slot := 0, constantValue := 0 }, { name := "line", type := .int, accessFlags := 16, slot := 1, constantValue := 0 }, { name := "global", type := .boolean, accessFlags := 16, slot := 2, constantValue := 0 }, { name := "slot", type := .int, accessFlags := 16, slot := 3, constantValue := 0 }, { name := "length", type := .int, accessFlags := 16, slot := 4, constantValue := 0 }, { name := "array", type := .boolean, accessFlags := 16, slot := 5, constantValue := 0 }, { name := "bits", type := .int, accessFlags := 16, slot := 6, constantValue := 0 }, { name := "signed", type := .boolean, accessFlags := 16, slot := 7, constantValue := 0 }, { name := "mtype", type := .boolean, accessFlags := 16, slot := 8, constantValue := 0 }, { name := "channel", type := .boolean, accessFlags := 16, slot := 9, constantValue := 0 }, { name := "initial", type := .int, accessFlags := 18, slot := 10, constantValue := 0 }, { name := "byProcess", type := (.object "com/example/spurion/spurion/channel/promela/PromelaExpression"), accessFlags := 18, slot := 11, constantValue := 0 }]
  methods := #[k2m0]
  instanceTypes := #[(.object "java/lang/String"), .int, .boolean, .int, .int, .boolean, .int, .boolean, .boolean, .boolean, .int, (.object "com/example/spurion/spurion/channel/promela/PromelaExpression")]
  staticTypes := #[.int]
  resolved := Array.replicate 71 none
  statics := none }

def pool3 : Array CpInfo := pool [(1, u "java/lang/Cloneable"), (0, .class_ 1), (0, u "java/lang/Object"), (0, .class_ 3)] 3

/-- java/lang/Cloneable -/
def k3 : Class := { plain "java/lang/Cloneable" (some 0) with
  accessFlags := 1537
  interfaces := #[]
  cf := some (fileOf pool3 2 #[] #[] 1537 4 #[] #[])
  fields := #[]
  methods := #[]
  instanceTypes := #[]
  staticTypes := #[]
  resolved := Array.replicate 8 none
  statics := none }

def pool4 : Array CpInfo := pool [(1, u "java/io/Serializable"), (0, .class_ 1), (0, u "java/lang/Object"), (0, .class_ 3)] 3

/-- java/io/Serializable -/
def k4 : Class := { plain "java/io/Serializable" (some 0) with
  accessFlags := 1537
  interfaces := #[]
  cf := some (fileOf pool4 2 #[] #[] 1537 4 #[] #[])
  fields := #[]
  methods := #[]
  instanceTypes := #[]
  staticTypes := #[]
  resolved := Array.replicate 8 none
  statics := none }

/-- the primitive byte -/
def k5 : Class := { plain "byte" none with kind := .primitive 'B', accessFlags := 0x411 }
/-- [B -/
def k6 : Class := { plain "[B" (some 0) with kind := .array 5 .byte, interfaces := #[3, 4], accessFlags := 1041 }

/-- the primitive int -/
def k7 : Class := { plain "int" none with kind := .primitive 'I', accessFlags := 0x411 }
/-- [I -/
def k8 : Class := { plain "[I" (some 0) with kind := .array 7 .int, interfaces := #[3, 4], accessFlags := 1041 }

def heap : Heap := #[]
def classes : Array Class := #[k0, k1, k2, k3, k4, k5, k6, k7, k8]
def interned : List (Array UInt16 × Addr) := []
def slotsUsed : Nat := 0
def theMethod : MethodId := ⟨1, 1⟩
def args0 : Array Value := #[.int 9, .int 7, .int 1]
def aboutOver (below : List Frame) : State where
  vm := { classes := classes, interned := interned.toArray }
  heap := heap
  slotsUsed := slotsUsed
  threads := #[{ frames := .invoking theMethod args0 :: below }]
def below0 : List Frame := [.native { method := ⟨0, 0⟩, args := #[] }]
def about1 : State := aboutOver below0
def p0 : Program := .bare "" "" ""
def e0 : Env := launch0.env 0 0 0
theorem w_frames : about1.frames = Frame.invoking theMethod args0 :: below0 := rfl
set_option maxRecDepth 65536 in
theorem w_args : argsFit about1.vm theMethod args0 = true := by decide +kernel
set_option maxRecDepth 65536 in
theorem w_heap : heapFits about1 = true := by decide +kernel
set_option maxRecDepth 65536 in
theorem w_runnable : about1.curStatus? = some .runnable := by decide +kernel
set_option maxRecDepth 65536 in
theorem w_alone : about1.alone = true := by decide +kernel
set_option maxRecDepth 65536 in
theorem w_named : about1.methodNamed? x = some theMethod := by decide +kernel
set_option maxRecDepth 65536 in
theorem w_hears : about1.hears theMethod below0 = true := by decide +kernel
set_option maxRecDepth 65536 in
theorem w_ripe : about1.ripe theMethod args0 below0 = true := by decide +kernel
theorem w_running : about1.status = .running := rfl
set_option maxRecDepth 65536 in
theorem w_room : about1.hasRoom e0.platform room_1 = true :=
  launch0.hasRoom_least _ room_1 (by decide +kernel) (by decide +kernel) (by decide +kernel) (by decide +kernel) (by decide +kernel) (by decide +kernel)
theorem allAtoms_all (ts : List Jvm.Cond) (a : Array Jvm.Value) (st : Jvm.State) : (allAtoms ts).before a st = ts.all (fun c => c.before a st) := by
  induction ts with
  | nil => rfl
  | cons c t ih =>
    show (Jvm.Cond.and c (allAtoms t)).before a st = _
    rw [Jvm.Cond.before_and, ih, List.all_cons]
def words1 : List Jvm.Cond := Jvm.Cond.code x code maxLocals ret :: tables_1
/-- a 'code' word, met by the world's own term for the bytes: nothing is compared byte by byte -/
theorem code_word {y : MethodName} {bytes : ByteArray} {mx : Nat} {rt : Option FieldType} {a : Array Value} {s : State} {m : MethodId} {meth : Method} {c : Code} (h1 : s.methodNamed? y = some m) (h2 : s.vm.method? m = some meth) (h3 : meth.code = some c) (h4 : c.code = bytes)
    (h5 : (c.maxLocals == mx && c.exceptionTable.isEmpty && decide (c.maxStack ≤ mostOperands) && decide (meth.sig.returnType = rt) && !meth.locks && decide (parseMethodDescriptor y.desc = some meth.sig)) = true) : (Jvm.Cond.code y bytes mx rt).before a s = true := by
  simp only [Bool.and_eq_true, beq_iff_eq, Bool.not_eq_true', decide_eq_true_eq] at h5
  obtain ⟨⟨⟨⟨⟨g1, g2⟩, g3⟩, g4⟩, g5⟩, g6⟩ := h5
  simp [Cond.before, Cond.holds, Cond.value, h1, h2, h3, h4, g1, g2, g3, g4, g5, g6]
def isCode : Jvm.Cond → Bool
  | .code _ _ _ _ => true
  | _ => false
theorem all_split {L : List Jvm.Cond} {P : Jvm.Cond → Bool} (h1 : L.all (fun c => isCode c || P c) = true) (h2 : ∀ c ∈ L.filter isCode, P c = true) : L.all P = true := by
  refine List.all_eq_true.mpr fun c hc => ?_
  have h := List.all_eq_true.mp h1 c hc
  rcases Bool.eq_false_or_eq_true (isCode c) with hi | hi
  · exact h2 c (List.mem_filter.mpr ⟨hc, hi⟩)
  · simpa [hi] using h
set_option maxRecDepth 65536 in
theorem w_c0 : (Jvm.Cond.code x code maxLocals ret).before args0 about1 = true := code_word (m := ⟨1, 1⟩) (meth := k1m1) (c := k1c1) (by decide +kernel) rfl rfl rfl (by decide +kernel)
set_option maxRecDepth 65536 in
theorem w_c1 : (Jvm.Cond.code ({ cls := "com/example/spurion/spurion/channel/promela/PromelaVariable", name := "kept", desc := "(IIZ)I" } : Jvm.MethodName) prog_139_method_4_code (4 : Nat) (Option.some Jvm.ClassFile.FieldType.int)).before args0 about1 = true := code_word (m := ⟨2, 0⟩) (meth := k2m0) (c := k2c0) (by decide +kernel) rfl rfl rfl (by decide +kernel)
def codes1 : List Jvm.Cond := [Jvm.Cond.code x code maxLocals ret, Jvm.Cond.code ({ cls := "com/example/spurion/spurion/channel/promela/PromelaVariable", name := "kept", desc := "(IIZ)I" } : Jvm.MethodName) prog_139_method_4_code (4 : Nat) (Option.some Jvm.ClassFile.FieldType.int)]
set_option maxRecDepth 65536 in
theorem codes_eq : words1.filter isCode = codes1 := rfl
theorem w_codes : ∀ c ∈ words1.filter isCode, c.before args0 about1 = true := by
  rw [codes_eq]
  intro c hc
  simp only [codes1, List.mem_cons, List.not_mem_nil, or_false] at hc
  rcases hc with rfl | rfl
  · exact w_c0
  · exact w_c1
set_option maxRecDepth 65536 in
theorem w_t1 : words1.all (fun c => isCode c || c.before args0 about1) = true := by decide +kernel
theorem w_tables : (allAtoms (Jvm.Cond.code x code maxLocals ret :: tables_1)).before args0 about1 = true := by
  rw [allAtoms_all]
  show words1.all (fun c => c.before args0 about1) = true
  refine all_split ?_ w_codes
  rw [w_t1]
set_option maxRecDepth 65536 in
theorem w_case : (Jvm.Cond.and given_1 narrow_1).before args0 about1 = true := by decide +kernel
theorem w_applies : (headSpec (Jvm.Cond.code x code maxLocals ret :: tables_1) room_1).applies x e0.platform about1 = true :=
  (Spec.applies_iff w_frames).mpr ⟨w_running, w_runnable, w_alone, w_named, w_hears, w_ripe, w_room, w_tables⟩
theorem atStart : AtStart classFile x code maxLocals ret World_1 tables_1 room_1 Calls_1 rest_1 Pre_1 launch0 p0 e0 about1 theMethod args0 below0 :=
  ⟨lists_1, trivial, launch0.admits_env _ _ _, launch0.least_env, fairChoices_fair.cas, fairChoices_fair.clock, w_frames, w_args, w_heap, w_applies, trivial, trivial, w_case⟩
end start1
theorem witness_1 : WitnessClaimed_1 := ⟨start1.p0, start1.e0, start1.about1, start1.theMethod, start1.args0, start1.below0, start1.atStart⟩
end Jvm.Pilot.@@N@@
