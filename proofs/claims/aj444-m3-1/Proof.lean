import JvmDerived
import JvmDerived.Pilot.@@N@@Statement
import JvmDerived.Pilot.@@N@@Code
set_option linter.unusedVariables false
set_option linter.unusedSimpArgs false
@@BLOCK:HandJ.lean.txt@@
@@BLOCK:NumsL.lean.txt@@
@@BLOCK:SymMore.lean.txt@@
namespace Jvm.RoadKit
open Sem ClassFile Op Lib Jvm.Stand Jvm.Free Jvm.LawKit
section New
variable {p : Program} {l : Launch} {e : Env} {R : Room} {s : State} {m : MethodId} {args : Array Value} {below : List Frame} {meth : Method} {c : Code} {T : State} {locs : List Loc} {cells slots : Nat}
theorem retI (X : Stand p l e R s m args below meth c T locs cells slots) (hx : p.tables.exec = Jvm.exec) {pc : Nat} {Ls : Array Slot} {z : Int32} {rest : List Value} (hret : meth.sig.returnType = some .int) (hd : decode c.code pc = .ok (.ireturn, 1)) {fs : List Frame}
    (hl : ∀ (f : JFrame) (acts : List Action), f.method = m → f.locked = none → f.entered = [] → (doReturn e (T.setTop f) acts (some (.int z))).1 = T.setFrames fs) : Steps p.tables e below (T.setTop (mkF m pc Ls (.int z :: rest))) (T.setFrames fs) := by
  have hm' : T.vm.method? m = some meth := X.method'
  have hn : narrow .int (.int z) = .int z := rfl
  show Steps p.tables e below (T.setTop { method := m, pc := pc, locals := Ls, stack := _ :: rest, locked := none }) _
  jvm_step X.here [X.here.top, hx, hd, hm', hret, hn]
  first | (intro acts; rw [hl _ acts rfl rfl rfl]) | rw [hl _ _ rfl rfl rfl]
  exact Steps.refl _
end New
end Jvm.RoadKit
namespace Jvm.Pilot.@@N@@
open Jvm Jvm.ClassFile Sem Op Lib Jvm.Free Jvm.Stand Jvm.LawKit Jvm.RoadKit Bundle Jvm.Pilot.@@N@@.Jvm.D

/-! the road's own words: where a run ends, by steps taken one after the other -/
def own_E (p : Program) (e : Env) (below : List Frame) (G : State → Outcome → Prop) (U : State) : Prop := ∃ s₂ o, Steps p.tables e below U s₂ ∧ s₂.status = .running ∧ Ended s₂ below o ∧ G s₂ o
theorem own_step {p : Program} {e : Env} {below : List Frame} {G : State → Outcome → Prop} {U U' : State} (h : ∀ t, Steps p.tables e below U' t → Steps p.tables e below U t) (k : own_E p e below G U') : own_E p e below G U :=
  let ⟨a, b, c, d⟩ := k; ⟨a, b, h _ c, d⟩
theorem own_ret {p : Program} {l : Launch} {e : Env} {R : Room} {s : State} {m : MethodId} {args : Array Value} {below : List Frame} {meth : Method} {c : Code} {T : State} {locs : List Loc} {cells slots C S : Nat} {Q : Option Value → Heap → List Loc → Prop} {U : State}
    (X : Stand p l e R s m args below meth c T locs cells slots) (hlk : meth.locks = false) {v : Option Value} (hv : meth.sig.returnType = none → v = none) (hq : Q v T.heap locs) (hc : cells ≤ C) (hs : slots ≤ S)
    (hst : ∀ fs, (∀ (f : JFrame) (acts : List Action), f.method = m → f.locked = none → f.entered = [] → (doReturn e (T.setTop f) acts v).1 = T.setFrames fs) → Steps p.tables e below U (T.setFrames fs)) :
    own_E p e below (fun U' o => ∃ v L, o = .returned v ∧ Q v U'.heap L ∧ FrameEnd s o U' L C S) U := by
  obtain ⟨fs, hr, hrun, hended, hW, hsame⟩ := X.leave (v := v) hv hlk
  exact ⟨_, _, hst fs hr, hrun, hended, v, locs, rfl, hq, ⟨_, rfl⟩, hW, hsame.mono hc hs⟩
theorem own_lc_gt_t {x y : Int64} (h : y < x) : ifCond.holds .gt (Jvm.Free.XT.cmpL x y) = true := by delta Jvm.Free.XT.cmpL; rw [if_pos h]; decide
theorem own_lc_gt_f {x y : Int64} (h : ¬ y < x) : ifCond.holds .gt (Jvm.Free.XT.cmpL x y) = false := by delta Jvm.Free.XT.cmpL; rw [if_neg h]; split <;> decide
theorem own_lc_le_f {x y : Int64} (h : y < x) : ifCond.holds .le (Jvm.Free.XT.cmpL x y) = false := by delta Jvm.Free.XT.cmpL; rw [if_pos h]; decide
theorem own_lc_le_t {x y : Int64} (h : ¬ y < x) : ifCond.holds .le (Jvm.Free.XT.cmpL x y) = true := by delta Jvm.Free.XT.cmpL; rw [if_neg h]; split <;> decide
theorem own_lt3 {x y : Int64} (h : x < y) : Jvm.Free.XT.cmpL x y = -1 := by
  delta Jvm.Free.XT.cmpL
  rw [if_neg (by rw [Int64.lt_iff_toInt_lt] at *; omega), if_neg (by intro e; subst e; rw [Int64.lt_iff_toInt_lt] at h; omega)]
theorem own_ge3 {x y : Int64} (h : ¬ x < y) : Jvm.Free.XT.cmpL x y = 1 ∨ Jvm.Free.XT.cmpL x y = 0 := by
  delta Jvm.Free.XT.cmpL
  by_cases h1 : y < x
  · rw [if_pos h1]; exact Or.inl rfl
  · rw [if_neg h1, if_pos (by rw [Int64.lt_iff_toInt_lt] at h h1; exact Int64.toInt_inj.mp (by omega))]; exact Or.inr rfl
theorem own_lc_lt_t {x y : Int64} (h : x < y) : ifCond.holds .lt (Jvm.Free.XT.cmpL x y) = true := by rw [own_lt3 h]; decide
theorem own_lc_lt_f {x y : Int64} (h : ¬ x < y) : ifCond.holds .lt (Jvm.Free.XT.cmpL x y) = false := by rcases own_ge3 h with e | e <;> rw [e] <;> decide
theorem own_lc_ge_f {x y : Int64} (h : x < y) : ifCond.holds .ge (Jvm.Free.XT.cmpL x y) = false := by rw [own_lt3 h]; decide
theorem own_lc_ge_t {x y : Int64} (h : ¬ x < y) : ifCond.holds .ge (Jvm.Free.XT.cmpL x y) = true := by rcases own_ge3 h with e | e <;> rw [e] <;> decide
theorem own_eq3 {x y : Int64} (h : x = y) : Jvm.Free.XT.cmpL x y = 0 := by
  subst h; delta Jvm.Free.XT.cmpL; rw [if_neg (by rw [Int64.lt_iff_toInt_lt]; omega), if_pos rfl]
theorem own_ne3 {x y : Int64} (h : ¬ x = y) : Jvm.Free.XT.cmpL x y = 1 ∨ Jvm.Free.XT.cmpL x y = -1 := by
  delta Jvm.Free.XT.cmpL
  by_cases h1 : y < x
  · rw [if_pos h1]; exact Or.inl rfl
  · rw [if_neg h1, if_neg h]; exact Or.inr rfl
theorem own_lc_eq_t {x y : Int64} (h : x = y) : ifCond.holds .eq (Jvm.Free.XT.cmpL x y) = true := by rw [own_eq3 h]; decide
theorem own_lc_eq_f {x y : Int64} (h : ¬ x = y) : ifCond.holds .eq (Jvm.Free.XT.cmpL x y) = false := by rcases own_ne3 h with e | e <;> rw [e] <;> decide
theorem own_lc_ne_f {x y : Int64} (h : x = y) : ifCond.holds .ne (Jvm.Free.XT.cmpL x y) = false := by rw [own_eq3 h]; decide
theorem own_lc_ne_t {x y : Int64} (h : ¬ x = y) : ifCond.holds .ne (Jvm.Free.XT.cmpL x y) = true := by rcases own_ne3 h with e | e <;> rw [e] <;> decide
theorem own_i32_rem (x y : Int32) : (x - (x / y) * y).toInt = x.toInt.tmod y.toInt := by
  have a := (x % y).toInt_lt; have b := (x % y).le_toInt
  rw [Int32.toInt_mod] at a b
  rw [Int32.toInt_sub, Int32.toInt_mul, Int32.toInt_div, Int.bmod_mul_bmod, Int.sub_bmod_bmod, Int.mul_comm, ← Int.tmod_def]
  exact Jvm.Kit.bmod32 b a
/-- (x & MAX) % n for a positive n -/
theorem own_pick (x n : Int32) (hn : 0 < n.toInt) : ((x &&& (2147483647 : Int32)) - ((x &&& (2147483647 : Int32)) / n) * n).toInt = (x.toInt % 2 ^ 31) % n.toInt := by
  rw [own_i32_rem, Jvm.Kit.i32_mask x 2147483647 (k := 31) (by decide) (by decide), Int.tmod_eq_emod_of_nonneg (Int.emod_nonneg _ (by decide))]
theorem own_ofNat (x : Int32) (h : 0 ≤ x.toInt) : ∃ k : Nat, x = Int32.ofNat k ∧ (k : Int) = x.toInt := by
  refine ⟨x.toInt.toNat, ?_, by omega⟩
  have := x.toInt_lt
  apply Int32.toInt_inj.mp
  rw [Int32.toInt_ofNat_of_lt (by omega)]; omega

/-! arrays: how many places, and what each holds -/
def own_A (Z : State) (h : Heap) (a : Addr) (ty : FieldType) (n : Nat) (f : Nat → Value) : Prop := ∃ c : Cell, Arr Z h a c ty ∧ c.slots.size = n ∧ ∀ j, j < n → c.slots[j]? = some (f j)
section OwnA
variable {p : Program} {l : Launch} {e : Env} {R : Room} {s : State} {m : MethodId} {args : Array Value} {below : List Frame} {meth : Method} {c : Code} {T : State} {locs : List Loc} {cells slots : Nat} {Z : State} {h h' : Heap} {a b : Addr} {ty : FieldType} {n : Nat} {f f' : Nat → Value} {sl : Nat} {v : Value}
theorem own_A_lt (F : own_A Z h a ty n f) : a < h.size := by obtain ⟨c, A, -⟩ := F; exact A.lt
theorem own_A_ext (E : Ext h h') (F : own_A Z h a ty n f) : own_A Z h' a ty n f := by obtain ⟨c, A, r⟩ := F; exact ⟨c, A.ext E, r⟩
theorem own_A_keep {ws : List Addr} (K : Keep h h' ws) (q : a ∉ ws) (F : own_A Z h a ty n f) : own_A Z h' a ty n f := by obtain ⟨c, A, r⟩ := F; exact ⟨c, ⟨K.2.1 a c A.1 q, A.2⟩, r⟩
theorem own_A_other (W : Wr h h' b sl v) (q : a ≠ b) (F : own_A Z h a ty n f) : own_A Z h' a ty n f := by obtain ⟨c, A, r⟩ := F; exact ⟨c, A.other W q, r⟩
theorem own_A_new {k : ClassId} {z : Int32} (A : Arr Z h a (newA k ty z) ty) (hz : z.toNatClampNeg = n) : own_A Z h a ty n (fun _ => defaultValue ty) :=
  ⟨_, A, (sz_new _ _ _).trans hz, fun j hj => by simp [newA, hz, hj]⟩
theorem own_A_set (W : Wr h h' a sl v) (F : own_A Z h a ty n f) : own_A Z h' a ty n (fun j => if j = sl then v else f j) := by
  obtain ⟨c, A, S, H⟩ := F
  refine ⟨_, A.same W, (sz_set _ _ _).trans S, fun j hj => ?_⟩
  show (c.slots.setIfInBounds sl v)[j]? = some (if j = sl then v else f j)
  by_cases u : j = sl
  · subst u; rw [if_pos rfl, Array.getElem?_setIfInBounds_self_of_lt (by rw [S]; exact hj)]
  · rw [if_neg u, Array.getElem?_setIfInBounds_ne (Ne.symm u)]; exact H j hj
theorem own_A_eq (F : own_A Z h a ty n f) (q : ∀ j, j < n → f j = f' j) : own_A Z h a ty n f' := by
  obtain ⟨c, A, S, H⟩ := F; exact ⟨c, A, S, fun j hj => by rw [H j hj, q j hj]⟩
/-- the place j is the number i -/
theorem own_clamp {j : Int32} {i : Nat} (hj : j.toInt = (i : Int)) : j.toNatClampNeg = i := by
  show j.toInt.toNat = i; omega
theorem own_in {j : Int32} {i : Nat} (hj : j.toInt = (i : Int)) (hi : i < n) {k : Nat} (hk : k = n) : ¬ (j < 0 ∨ k ≤ j.toNatClampNeg) := by
  rw [own_clamp hj]
  rintro (q | q)
  · rw [Int32.lt_iff_toInt_lt, hj] at q
    have : (0 : Int32).toInt = 0 := rfl
    omega
  · omega
theorem own_ldI (X : Stand p l e R s m args below meth c T locs cells slots) (hx : p.tables.exec = Jvm.exec) (hZ : Z.Warmed39 s.vm) (eT : T.heap = h) (F : own_A Z h a .int n f) {j : Int32} (i : Nat) (hj : j.toInt = (i : Int)) (hi : i < n) {g : JFrame} (hg : g.method = m) {rest : List Value} (hs : g.stack = .int j :: .ref a :: rest) (hd : decode c.code g.pc = .ok (.iaload, 1)) {target : State}
    (hr : Steps p.tables e below (T.setTop { g with pc := g.pc + 1, stack := f i :: rest }) target) : Steps p.tables e below (T.setTop g) target := by
  obtain ⟨cl, A, S, H⟩ := F
  exact X.iaload hx (by rw [eT]; exact A.1) (State.isArrayOf_alike hZ.alike A.2.1) A.2.2 (own_in hj hi S) (by rw [own_clamp hj]; exact H i hi) hg hs hd _ hr
theorem own_ldJ (X : Stand p l e R s m args below meth c T locs cells slots) (hx : p.tables.exec = Jvm.exec) (hZ : Z.Warmed39 s.vm) (eT : T.heap = h) (F : own_A Z h a .long n f) {j : Int32} (i : Nat) (hj : j.toInt = (i : Int)) (hi : i < n) {g : JFrame} (hg : g.method = m) {rest : List Value} (hs : g.stack = .int j :: .ref a :: rest) (hd : decode c.code g.pc = .ok (.laload, 1)) {target : State}
    (hr : Steps p.tables e below (T.setTop { g with pc := g.pc + 1, stack := f i :: rest }) target) : Steps p.tables e below (T.setTop g) target := by
  obtain ⟨cl, A, S, H⟩ := F
  exact X.laload hx (by rw [eT]; exact A.1) (State.isArrayOf_alike hZ.alike A.2.1) A.2.2 (own_in hj hi S) (by rw [own_clamp hj]; exact H i hi) hg hs hd _ hr
theorem own_ldB (X : Stand p l e R s m args below meth c T locs cells slots) (hx : p.tables.exec = Jvm.exec) (hZ : Z.Warmed39 s.vm) (eT : T.heap = h) (F : own_A Z h a .byte n f) {j : Int32} (i : Nat) (hj : j.toInt = (i : Int)) (hi : i < n) {g : JFrame} (hg : g.method = m) {rest : List Value} (hs : g.stack = .int j :: .ref a :: rest) (hd : decode c.code g.pc = .ok (.baload, 1)) {target : State}
    (hr : Steps p.tables e below (T.setTop { g with pc := g.pc + 1, stack := f i :: rest }) target) : Steps p.tables e below (T.setTop g) target := by
  obtain ⟨cl, A, S, H⟩ := F
  exact X.baloadBytes hx (by rw [eT]; exact A.1) (State.isArrayOf_alike hZ.alike A.2.1) A.2.2 (own_in hj hi S) (by rw [own_clamp hj]; exact H i hi) hg hs hd _ hr
theorem own_len (X : Stand p l e R s m args below meth c T locs cells slots) (hx : p.tables.exec = Jvm.exec) (hZ : Z.Warmed39 s.vm) (eT : T.heap = h) (F : own_A Z h a ty n f) {g : JFrame} (hg : g.method = m) {rest : List Value} (hs : g.stack = .ref a :: rest) (hd : decode c.code g.pc = .ok (.arraylength, 1)) {target : State}
    (hr : Steps p.tables e below (T.setTop { g with pc := g.pc + 1, stack := .int (Int32.ofNat n) :: rest }) target) : Steps p.tables e below (T.setTop g) target := by
  obtain ⟨cl, A, S, H⟩ := F
  refine X.arraylength hx (by rw [eT]; exact A.1) (State.isArrayOf_alike hZ.alike A.2.1) hg hs hd _ ?_
  rw [S]; exact hr
theorem own_stI (X : Stand p l e R s m args below meth c T locs cells slots) (hx : p.tables.exec = Jvm.exec) (hZ : Z.Warmed39 s.vm) (eT : T.heap = h) (F : own_A Z h a .int n f) {j x : Int32} (i : Nat) (hj : j.toInt = (i : Int)) (hi : i < n) {g : JFrame} (hg : g.method = m) {rest : List Value} (hs : g.stack = .int x :: .int j :: .ref a :: rest) (hd : decode c.code g.pc = .ok (.iastore, 1)) :
    ∃ T' h', Stand p l e R s m args below meth c T' (locs ++ [⟨a, i⟩]) cells slots ∧ T'.heap = h' ∧ Wr h h' a i (.int x) ∧ ∀ target, Steps p.tables e below (T'.setTop { g with pc := g.pc + 1, stack := rest }) target → Steps p.tables e below (T.setTop g) target := by
  obtain ⟨cl, A, S, H⟩ := F
  have r := stI X hx hZ eT A (own_in hj hi S) hg hs hd
  rwa [own_clamp hj] at r
theorem own_stJ (X : Stand p l e R s m args below meth c T locs cells slots) (hx : p.tables.exec = Jvm.exec) (hZ : Z.Warmed39 s.vm) (eT : T.heap = h) (F : own_A Z h a .long n f) {j : Int32} {x : Int64} (i : Nat) (hj : j.toInt = (i : Int)) (hi : i < n) {g : JFrame} (hg : g.method = m) {rest : List Value} (hs : g.stack = .long x :: .int j :: .ref a :: rest) (hd : decode c.code g.pc = .ok (.lastore, 1)) :
    ∃ T' h', Stand p l e R s m args below meth c T' (locs ++ [⟨a, i⟩]) cells slots ∧ T'.heap = h' ∧ Wr h h' a i (.long x) ∧ ∀ target, Steps p.tables e below (T'.setTop { g with pc := g.pc + 1, stack := rest }) target → Steps p.tables e below (T.setTop g) target := by
  obtain ⟨cl, A, S, H⟩ := F
  have r := stJ X hx hZ eT A (own_in hj hi S) hg hs hd
  rwa [own_clamp hj] at r
theorem own_stB (X : Stand p l e R s m args below meth c T locs cells slots) (hx : p.tables.exec = Jvm.exec) (hZ : Z.Warmed39 s.vm) (eT : T.heap = h) (F : own_A Z h a .byte n f) {j x : Int32} (i : Nat) (hj : j.toInt = (i : Int)) (hi : i < n) {g : JFrame} (hg : g.method = m) {rest : List Value} (hs : g.stack = .int x :: .int j :: .ref a :: rest) (hd : decode c.code g.pc = .ok (.bastore, 1)) :
    ∃ T' h', Stand p l e R s m args below meth c T' (locs ++ [⟨a, i⟩]) cells slots ∧ T'.heap = h' ∧ Wr h h' a i (.int (nar .byte x)) ∧ ∀ target, Steps p.tables e below (T'.setTop { g with pc := g.pc + 1, stack := rest }) target → Steps p.tables e below (T.setTop g) target := by
  obtain ⟨cl, A, S, H⟩ := F
  have r := stB X hx hZ eT A (own_in hj hi S) hg hs hd
  rwa [own_clamp hj] at r
end OwnA
/-! bits of a long -/
def own_lb (x : Int64) (b : Nat) : Bool := x.toBitVec.getLsbD b
theorem own_least (p : Nat → Bool) : ∀ N : Nat, (∃ n, n < N ∧ p n = true) → ∃ n, n < N ∧ p n = true ∧ ∀ j, j < n → p j = false
  | 0, h => by obtain ⟨n, h1, _⟩ := h; omega
  | N + 1, h => by
    by_cases q : ∃ n, n < N ∧ p n = true
    · obtain ⟨n, h1, h2, h3⟩ := own_least p N q
      exact ⟨n, by omega, h2, h3⟩
    · obtain ⟨n, h1, h2⟩ := h
      have e : n = N := by
        rcases Nat.lt_or_ge n N with h | h
        · exact absurd ⟨n, h, h2⟩ q
        · omega
      subst e
      refine ⟨n, by omega, h2, fun j hj => ?_⟩
      cases hp : p j
      · rfl
      · exact absurd ⟨j, hj, hp⟩ q
theorem own_some_bit {w : Nat} {x : BitVec w} (h : ¬ x = (BitVec.ofNat w 0)) : ∃ n, n < w ∧ x.getLsbD n = true := by
  refine Classical.byContradiction fun q => h (BitVec.eq_of_getLsbD_eq fun i hi => ?_)
  rw [BitVec.getLsbD_zero]
  cases hp : x.getLsbD i
  · rfl
  · exact absurd ⟨i, hi, hp⟩ q
/-- n is the lowest bit -/
def own_low {w : Nat} (x : BitVec w) (n : Nat) : Prop := n < w ∧ x.getLsbD n = true ∧ ∀ j, j < n → x.getLsbD j = false
theorem own_has_low {w : Nat} {x : BitVec w} (h : ¬ x = (BitVec.ofNat w 0)) : ∃ n, own_low x n := own_least (fun n => x.getLsbD n) w (own_some_bit h)
theorem own_ntz_core (a : BitVec 32) (n : Nat) (h : own_low a n) : (~~~a) &&& (a - (BitVec.ofNat 32 1)) = BitVec.ofNat 32 (2 ^ n - 1) := by
  obtain ⟨hn, h1, h0⟩ := h
  have hz : a.toNat % 2 ^ n = 0 := by
    apply Nat.eq_of_testBit_eq
    intro i
    rw [Nat.testBit_mod_two_pow, Nat.zero_testBit]
    by_cases hi : i < n
    · simp only [hi, decide_true, Bool.true_and]; exact h0 i hi
    · simp [hi]
  have ho : (a.toNat / 2 ^ n) % 2 = 1 := by
    have : a.toNat.testBit n = true := h1
    rw [Nat.testBit_eq_decide_div_mod_eq] at this
    exact of_decide_eq_true this
  obtain ⟨m, hm⟩ : ∃ m, a.toNat / 2 ^ n = 2 * m + 1 := ⟨a.toNat / 2 ^ n / 2, by omega⟩
  have hA : a.toNat = 2 ^ n * (2 * m + 1) := by
    have := Nat.div_add_mod a.toNat (2 ^ n)
    rw [hm, hz] at this; omega
  have hp : 0 < 2 ^ n := Nat.pow_pos (by decide)
  have hB : (a - (BitVec.ofNat 32 1)).toNat = 2 ^ n * (2 * m) + (2 ^ n - 1) := by
    have hge : 1 ≤ a.toNat := by rw [hA]; exact Nat.mul_pos hp (by omega)
    have hlt := a.isLt
    have : (a - (BitVec.ofNat 32 1)).toNat = a.toNat - 1 := by
      rw [BitVec.toNat_sub]
      have e1 : ((BitVec.ofNat 32 1)).toNat = 1 := rfl
      rw [e1]
      omega
    rw [this, hA, Nat.mul_add]
    omega
  apply BitVec.eq_of_getLsbD_eq
  intro i hi
  rw [BitVec.getLsbD_and, BitVec.getLsbD_not]
  have e1 : a.getLsbD i = (2 ^ n * (2 * m + 1) + 0).testBit i := by rw [Nat.add_zero, ← hA]; rfl
  have e2 : (a - (BitVec.ofNat 32 1)).getLsbD i = (2 ^ n * (2 * m) + (2 ^ n - 1)).testBit i := by rw [← hB]; rfl
  have e3 : (BitVec.ofNat 32 (2 ^ n - 1)).getLsbD i = decide (i < n) := by
    rw [BitVec.getLsbD_ofNat, Nat.testBit_two_pow_sub_one]; simp [hi]
  rw [e1, e2, e3, Nat.testBit_two_pow_mul_add _ hp, Nat.testBit_two_pow_mul_add _ (Nat.sub_lt hp (by decide)), Nat.testBit_two_pow_sub_one]
  simp only [hi, decide_true, Bool.true_and]
  by_cases hin : i < n
  · simp [hin]
  · simp only [hin, if_false, decide_false]
    rcases Nat.eq_or_lt_of_le (Nat.le_of_not_lt hin) with e | e
    · subst e; simp
    · obtain ⟨j, hj⟩ : ∃ j, i - n = j + 1 := ⟨i - n - 1, by omega⟩
      rw [hj, Nat.testBit_succ, Nat.testBit_succ]
      have d1 : (2 * m + 1) / 2 = m := by omega
      have d2 : (2 * m) / 2 = m := by omega
      rw [d1, d2]; cases m.testBit j <;> rfl
theorem own_ntz_arg (a : Int32) (n : Nat) (h : own_low a.toBitVec n) : ((a ^^^ (-1)) &&& (a - 1)) = Int32.ofNat (2 ^ n - 1) := by
  apply Int32.toBitVec_inj.mp
  have e := own_ntz_core a.toBitVec n h
  have x : (a ^^^ (-1)).toBitVec = ~~~a.toBitVec := by
    show a.toBitVec ^^^ (-1 : Int32).toBitVec = _
    rw [show (-1 : Int32).toBitVec = BitVec.allOnes 32 by decide, BitVec.xor_allOnes]
  show (a ^^^ (-1)).toBitVec &&& (a - 1).toBitVec = _
  rw [x]; exact e
theorem own_ntzI (a : Int32) (n : Nat) (h : own_low a.toBitVec n) : Jvm.Free.JP.Integer_numberOfTrailingZeros_I.val a = Int32.ofNat n := by
  have e := own_ntz_arg a n h
  delta Jvm.Free.JP.Integer_numberOfTrailingZeros_I.val
  generalize ((a ^^^ (-1)) &&& (a - 1)) = i at e
  subst e
  have hn := h.1
  clear h a
  revert n
  decide +kernel
theorem own_lo32 (a : Int64) (i : Nat) (hi : i < 32) : a.toInt32.toBitVec.getLsbD i = a.toBitVec.getLsbD i := by
  have : a.toInt32.toBitVec = a.toBitVec.signExtend 32 := rfl
  rw [this, BitVec.getLsbD_signExtend]
  simp [hi, show i < 64 by omega]
theorem own_hi32 (a : Int64) (i : Nat) (hi : i < 32) : (Jvm.Free.XT.ushrL a 32).toInt32.toBitVec.getLsbD i = a.toBitVec.getLsbD (32 + i) := by
  rw [own_lo32 _ i hi]
  delta Jvm.Free.XT.ushrL
  show (a.toBitVec >>> (((32 : Int32).toInt64.toUInt64 &&& Int64.toUInt64 63).toBitVec % (BitVec.ofNat 64 64))).getLsbD i = _
  rw [show (((32 : Int32).toInt64.toUInt64 &&& Int64.toUInt64 63).toBitVec % (BitVec.ofNat 64 64)) = (BitVec.ofNat 64 32) by decide, BitVec.ushiftRight_eq', BitVec.getLsbD_ushiftRight]
  rfl
theorem own_ntzJ (a : Int64) (n : Nat) (h : own_low a.toBitVec n) : Jvm.Free.JP.Long_numberOfTrailingZeros_J.val a = Int32.ofNat n := by
  obtain ⟨hn, h1, h0⟩ := h
  delta Jvm.Free.JP.Long_numberOfTrailingZeros_J.val
  by_cases q : n < 32
  · have hl : own_low a.toInt32.toBitVec n := ⟨q, by rw [own_lo32 a n q]; exact h1, fun j hj => by rw [own_lo32 a j (by omega)]; exact h0 j hj⟩
    rw [if_neg, own_ntzI _ n hl]
    intro z
    have := hl.2.1
    rw [z] at this
    simp at this
  · have z : a.toInt32 = 0 := by
      apply Int32.toBitVec_inj.mp
      apply BitVec.eq_of_getLsbD_eq
      intro i hi
      rw [own_lo32 a i hi, h0 i (by omega)]; simp
    have hl : own_low (Jvm.Free.XT.ushrL a 32).toInt32.toBitVec (n - 32) := ⟨by omega, by rw [own_hi32 a _ (by omega), show 32 + (n - 32) = n by omega]; exact h1, fun j hj => by rw [own_hi32 a j (by omega)]; exact h0 _ (by omega)⟩
    rw [if_pos z, own_ntzI _ _ hl]
    show (32 : Int32) + Int32.ofNat (n - 32) = _
    rw [show (32 : Int32) = Int32.ofNat 32 from rfl, ← Int32.ofNat_add, show 32 + (n - 32) = n by omega]
/-! shifts by a place -/
theorem own_toInt (k : Nat) (h : k < 2147483648) : (Int32.ofNat k).toInt = (k : Int) := Int32.toInt_ofNat_of_lt (by omega)
theorem own_smod_lit : ∀ n : Nat, n < 64 → (BitVec.ofNat 64 n).smod (BitVec.ofNat 64 64) = BitVec.ofNat 64 n := by decide
theorem own_sh (a : Nat) (ha : a < 2147483648) : (((Int32.ofNat a).toInt64 &&& 63).toBitVec.smod (BitVec.ofNat 64 64)).toNat = a % 64 := by
  have e1 : (Int32.ofNat a).toInt64.toBitVec = BitVec.ofNat 64 a := by
    apply BitVec.eq_of_toInt_eq
    have : (Int32.ofNat a).toInt64.toBitVec.toInt = (Int32.ofNat a).toInt64.toInt := rfl
    rw [this, Int32.toInt_toInt64, own_toInt a ha, BitVec.toInt_eq_toNat_bmod, BitVec.toNat_ofNat, Nat.mod_eq_of_lt (by omega)]
    symm; apply Int.bmod_eq_of_le <;> omega
  have e2 : ((Int32.ofNat a).toInt64 &&& 63).toBitVec = BitVec.ofNat 64 (a % 64) := by
    show (Int32.ofNat a).toInt64.toBitVec &&& (BitVec.ofNat 64 63) = _
    rw [e1]
    apply BitVec.eq_of_toNat_eq
    rw [BitVec.toNat_and]
    show (BitVec.ofNat 64 a).toNat &&& (2 ^ 6 - 1) = _
    rw [Nat.and_two_pow_sub_one_eq_mod, BitVec.toNat_ofNat, BitVec.toNat_ofNat]
    omega
  rw [e2, own_smod_lit _ (by omega), BitVec.toNat_ofNat]; omega
theorem own_one_bit (a : Nat) (ha : a < 2147483648) (b : Nat) (hb : b < 64) : own_lb ((1 : Int64) <<< ((Int32.ofNat a).toInt64 &&& 63)) b = decide (b = a % 64) := by
  show ((BitVec.ofNat 64 1) <<< (((Int32.ofNat a).toInt64 &&& 63).toBitVec.smod (BitVec.ofNat 64 64))).getLsbD b = _
  rw [BitVec.shiftLeft_eq', own_sh a ha, ← BitVec.twoPow_eq, BitVec.getLsbD_twoPow]
  have : a % 64 < 64 := by omega
  simp only [this, decide_true, Bool.true_and]
  by_cases h : b = a % 64
  · simp [h]
  · simp [h, Ne.symm h]
theorem own_ones_bit (a : Nat) (ha : a < 2147483648) (b : Nat) (hb : b < 64) : own_lb ((-1 : Int64) <<< ((Int32.ofNat a).toInt64 &&& 63)) b = decide (a % 64 ≤ b) := by
  show ((-1 : Int64).toBitVec <<< (((Int32.ofNat a).toInt64 &&& 63).toBitVec.smod (BitVec.ofNat 64 64))).getLsbD b = _
  rw [BitVec.shiftLeft_eq', own_sh a ha, BitVec.getLsbD_shiftLeft, show (-1 : Int64).toBitVec = BitVec.allOnes 64 by decide, BitVec.getLsbD_allOnes]
  by_cases h : a % 64 ≤ b
  · simp [hb, h, show b - a % 64 < 64 by omega, Nat.not_lt.mpr h]
  · simp [hb, h, Nat.lt_of_not_le h]
theorem own_lb_and (x y : Int64) (b : Nat) : own_lb (x &&& y) b = (own_lb x b && own_lb y b) := BitVec.getLsbD_and
theorem own_lb_or (x y : Int64) (b : Nat) : own_lb (x ||| y) b = (own_lb x b || own_lb y b) := BitVec.getLsbD_or
theorem own_z_bits (x : Int64) : x = 0 ↔ ∀ b, b < 64 → own_lb x b = false := by
  constructor
  · intro h b _; subst h; exact BitVec.getLsbD_zero
  · intro h
    apply Int64.toBitVec_inj.mp
    apply BitVec.eq_of_getLsbD_eq
    intro i hi
    have := h i hi
    unfold own_lb at this
    rw [this]; exact BitVec.getLsbD_zero.symm
theorem own_ntz_at (x : Int64) (h : ¬ x = 0) : ∃ n, n < 64 ∧ Jvm.Free.JP.Long_numberOfTrailingZeros_J.val x = Int32.ofNat n ∧ own_lb x n = true ∧ ∀ j, j < n → own_lb x j = false := by
  obtain ⟨n, hl⟩ := own_has_low (x := x.toBitVec) (fun q => h (Int64.toBitVec_inj.mp q))
  exact ⟨n, hl.1, own_ntzJ x n hl, hl.2.1, hl.2.2⟩
theorem own_ushr6 (a : Nat) (ha : a < 2147483648) : Jvm.Free.XT.ushr (Int32.ofNat a) (6 : Int32) = Int32.ofNat (a / 64) := by
  apply Int32.toInt_inj.mp
  have := Jvm.Kit.i32_iushr (x := Int32.ofNat a) (Jvm.Kit.i32_nonneg.mpr (by rw [own_toInt a ha]; omega)) (n := ((6 : Int32) &&& 31).toUInt32) (k := 6) (by decide) (by decide)
  rw [own_toInt a ha] at this
  rw [own_toInt (a / 64) (by omega)]
  exact this.trans (by omega)
theorem own_ushr12 (a : Nat) (ha : a < 2147483648) : Jvm.Free.XT.ushr (Int32.ofNat a) (12 : Int32) = Int32.ofNat (a / 4096) := by
  apply Int32.toInt_inj.mp
  have := Jvm.Kit.i32_iushr (x := Int32.ofNat a) (Jvm.Kit.i32_nonneg.mpr (by rw [own_toInt a ha]; omega)) (n := ((12 : Int32) &&& 31).toUInt32) (k := 12) (by decide) (by decide)
  rw [own_toInt a ha] at this
  rw [own_toInt (a / 4096) (by omega)]
  exact this.trans (by omega)
theorem own_shl6 (a : Nat) (ha : a < 1048576) : (Int32.ofNat a) <<< ((6 : Int32) &&& 31) = Int32.ofNat (64 * a) := by
  apply Int32.toInt_inj.mp
  rw [Jvm.Kit.i32_shl (Int32.ofNat a) ((6 : Int32) &&& 31) (k := 6) (by decide) (by rw [own_toInt a (by omega)]; omega) (by rw [own_toInt a (by omega)]; omega), own_toInt a (by omega), own_toInt _ (by omega)]
  omega
theorem own_add (a b : Nat) : (Int32.ofNat a) + (Int32.ofNat b) = Int32.ofNat (a + b) := (Int32.ofNat_add a b).symm
theorem own_succ (i : Nat) : (Int32.ofNat i) + (1 : Int32) = Int32.ofNat (i + 1) := (Int32.ofNat_add i 1).symm
theorem own_lt (a b : Nat) (ha : a < 2147483648) (hb : b < 2147483648) : Int32.ofNat a < Int32.ofNat b ↔ a < b := by
  rw [Int32.lt_iff_toInt_lt, own_toInt a ha, own_toInt b hb]; omega
/-! the buckets -/
def own_NE (S : Nat → Bool) (w : Nat) : Prop := ∃ b, b < 64 ∧ S (64 * w + b) = true
def own_inv (S : Nat → Bool) (NW NS : Nat) (W U : Nat → Int64) : Prop :=
  (∀ w, w < NW → ∀ b, b < 64 → own_lb (W w) b = S (64 * w + b)) ∧ (∀ g, g < NS → ∀ v, v < 64 → (own_lb (U g) v = true ↔ own_NE S (64 * g + v))) ∧ ∀ j, S j = true → j < 64 * NW
theorem own_inv0 (NW NS : Nat) : own_inv (fun _ => false) NW NS (fun _ => 0) (fun _ => 0) :=
  ⟨fun _ _ b _ => (own_z_bits 0).mp rfl b (by omega), fun g _ v hv => ⟨fun h => (by rw [(own_z_bits 0).mp rfl v hv] at h; cases h), fun h => (by obtain ⟨_, _, h⟩ := h; cases h)⟩, fun _ h => (by cases h)⟩
def own_add1 (S : Nat → Bool) (a : Nat) (j : Nat) : Bool := S j || decide (j = a)
def own_updL (W : Nat → Int64) (i : Nat) (x : Int64) (j : Nat) : Int64 := if j = i then x else W j
theorem own_inv_fill {S : Nat → Bool} {NW NS : Nat} {W U : Nat → Int64} (I : own_inv S NW NS W U) (a : Nat) (ha : a < 64 * NW) (hs : NW ≤ 64 * NS) (hb : a < 2147483648) :
    own_inv (own_add1 S a) NW NS (own_updL W (a / 64) (W (a / 64) ||| ((1 : Int64) <<< ((Int32.ofNat a).toInt64 &&& 63)))) (own_updL U (a / 4096) (U (a / 4096) ||| ((1 : Int64) <<< ((Int32.ofNat (a / 64)).toInt64 &&& 63)))) := by
  obtain ⟨I1, I2, I3⟩ := I
  refine ⟨fun w hw b hb' => ?_, fun g hg v hv => ?_, fun j hj => ?_⟩
  · unfold own_updL own_add1
    by_cases h : w = a / 64
    · rw [if_pos h, own_lb_or, own_one_bit a hb b hb', ← h, I1 w hw b hb']
      have : (64 * w + b = a) ↔ b = a % 64 := by omega
      simp only [this]
    · rw [if_neg h, I1 w hw b hb']
      have : ¬ (64 * w + b = a) := by omega
      simp [this]
  · have key : own_NE (own_add1 S a) (64 * g + v) ↔ own_NE S (64 * g + v) ∨ 64 * g + v = a / 64 := by
      unfold own_NE own_add1
      constructor
      · rintro ⟨b, h1, h2⟩
        simp only [Bool.or_eq_true, decide_eq_true_eq] at h2
        rcases h2 with h2 | h2
        · exact Or.inl ⟨b, h1, h2⟩
        · exact Or.inr (by omega)
      · rintro (⟨b, h1, h2⟩ | h)
        · exact ⟨b, h1, by simp [h2]⟩
        · exact ⟨a % 64, by omega, by simp; right; omega⟩
    rw [key]
    unfold own_updL
    by_cases h : g = a / 4096
    · rw [if_pos h, own_lb_or, own_one_bit (a / 64) (by omega) v hv, ← h, Bool.or_eq_true, I2 g hg v hv, decide_eq_true_eq]
      have : (64 * g + v = a / 64) ↔ v = a / 64 % 64 := by omega
      rw [this]
    · rw [if_neg h, I2 g hg v hv]
      have : ¬ (64 * g + v = a / 64) := by omega
      simp [this]
  · unfold own_add1 at hj
    simp only [Bool.or_eq_true, decide_eq_true_eq] at hj
    rcases hj with h | h
    · exact I3 j h
    · omega
/-- r is the first filled word behind w; or there is none -/
def own_wfirst (S : Nat → Bool) (w : Nat) (r : Int32) : Prop := (∃ n, r = Int32.ofNat n ∧ n < 2147483 ∧ w < n ∧ own_NE S n ∧ ∀ j, w < j → j < n → ¬ own_NE S j) ∨ (r = -1 ∧ ∀ j, w < j → ¬ own_NE S j)
/-- what the search knows at group g with the bits d: those behind w, of this group; nothing filled before the group -/
def own_wst (S : Nat → Bool) (NS w g : Nat) (d : Int64) : Prop := (∀ j, w < j → j < 64 * g → ¬ own_NE S j) ∧ ((g < NS ∧ ∀ v, v < 64 → (own_lb d v = true ↔ w < 64 * g + v ∧ own_NE S (64 * g + v))) ∨ (NS ≤ g ∧ d = 0))
theorem own_wst_in {S : Nat → Bool} {NW NS : Nat} {W U : Nat → Int64} (I : own_inv S NW NS W U) (w : Nat) (hw : w < 2147483) (hg : (w + 1) / 64 < NS) : own_wst S NS w ((w + 1) / 64) (U ((w + 1) / 64) &&& ((-1 : Int64) <<< ((Int32.ofNat (w + 1)).toInt64 &&& 63))) := by
  refine ⟨fun j h1 h2 => by omega, Or.inl ⟨hg, fun v hv => ?_⟩⟩
  rw [own_lb_and, own_ones_bit (w + 1) (by omega) v hv, Bool.and_eq_true, I.2.1 _ hg v hv, decide_eq_true_eq]
  constructor
  · rintro ⟨h1, h2⟩; exact ⟨by omega, h1⟩
  · rintro ⟨h1, h2⟩; exact ⟨h2, by omega⟩
theorem own_wst_out (S : Nat → Bool) (NS w : Nat) (hg : ¬ (w + 1) / 64 < NS) : own_wst S NS w ((w + 1) / 64) 0 := ⟨fun j h1 h2 => by omega, Or.inr ⟨by omega, rfl⟩⟩
theorem own_wst_next {S : Nat → Bool} {NW NS : Nat} {W U : Nat → Int64} (I : own_inv S NW NS W U) {w g : Nat} {d : Int64} (H : own_wst S NS w g d) (hw : w < 64 * (g + 1)) (hd : d = 0) (hg : g + 1 < NS) : own_wst S NS w (g + 1) (U (g + 1)) := by
  obtain ⟨H1, H2⟩ := H
  have H2' : ∀ v, v < 64 → (own_lb d v = true ↔ w < 64 * g + v ∧ own_NE S (64 * g + v)) := by
    rcases H2 with h | h
    · exact h.2
    · omega
  refine ⟨fun j h1 h2 => ?_, Or.inl ⟨hg, fun v hv => ?_⟩⟩
  · rcases Nat.lt_or_ge j (64 * g) with q | q
    · exact H1 j h1 q
    · intro hne
      have := (H2' (j - 64 * g) (by omega)).mpr ⟨by omega, by rw [show 64 * g + (j - 64 * g) = j by omega]; exact hne⟩
      rw [hd, (own_z_bits 0).mp rfl _ (by omega)] at this; cases this
  · rw [I.2.1 _ hg v hv]
    exact ⟨fun h => ⟨by omega, h⟩, fun h => h.2⟩
theorem own_wst_none {S : Nat → Bool} {NW NS : Nat} {W U : Nat → Int64} (I : own_inv S NW NS W U) (hs : NW ≤ 64 * NS) {w g : Nat} {d : Int64} (H : own_wst S NS w g d) (hd : d = 0) (hg : ¬ g + 1 < NS) : own_wfirst S w (-1) := by
  obtain ⟨H1, H2⟩ := H
  refine Or.inr ⟨rfl, fun j h1 hne => ?_⟩
  obtain ⟨b, hb1, hb2⟩ := hne
  have hj := I.2.2 _ hb2
  rcases Nat.lt_or_ge j (64 * g) with q | q
  · exact H1 j h1 q ⟨b, hb1, hb2⟩
  · rcases H2 with h | h
    · have := (h.2 (j - 64 * g) (by omega)).mpr ⟨by omega, by rw [show 64 * g + (j - 64 * g) = j by omega]; exact ⟨b, hb1, hb2⟩⟩
      rw [hd, (own_z_bits 0).mp rfl _ (by omega)] at this; cases this
    · omega
theorem own_wst_found {S : Nat → Bool} {NS w g : Nat} {d : Int64} (hNS : NS ≤ 1000) (H : own_wst S NS w g d) (hd : ¬ d = 0) : own_wfirst S w (((Int32.ofNat g) <<< ((6 : Int32) &&& 31)) + Jvm.Free.JP.Long_numberOfTrailingZeros_J.val d) := by
  obtain ⟨H1, H2⟩ := H
  rcases H2 with ⟨hg, H2⟩ | h
  · obtain ⟨n, hn, e, b1, b0⟩ := own_ntz_at d hd
    obtain ⟨q1, q2⟩ := (H2 n hn).mp b1
    refine Or.inl ⟨64 * g + n, by rw [own_shl6 g (by omega), e, own_add], by omega, q1, q2, fun j h1 h2 h3 => ?_⟩
    rcases Nat.lt_or_ge j (64 * g) with q | q
    · exact H1 j h1 q h3
    · have := (H2 (j - 64 * g) (by omega)).mpr ⟨by omega, by rw [show 64 * g + (j - 64 * g) = j by omega]; exact h3⟩
      rw [b0 _ (by omega)] at this; cases this
  · exact absurd h.2 hd
/-- r is the first filled bucket from a on; or there is none -/
def own_ffirst (S : Nat → Bool) (a : Nat) (r : Int32) : Prop := (∃ n, r = Int32.ofNat n ∧ n < 214748364 ∧ a ≤ n ∧ S n = true ∧ ∀ j, a ≤ j → j < n → S j = false) ∨ (r = -1 ∧ ∀ j, a ≤ j → S j = false)
theorem own_bits_at {S : Nat → Bool} {NW NS : Nat} {W U : Nat → Int64} (I : own_inv S NW NS W U) (a : Nat) (ha : a / 64 < NW) (hb : a < 2147483648) (v : Nat) (hv : v < 64) :
    own_lb (W (a / 64) &&& ((-1 : Int64) <<< ((Int32.ofNat a).toInt64 &&& 63))) v = (S (64 * (a / 64) + v) && decide (a ≤ 64 * (a / 64) + v)) := by
  rw [own_lb_and, own_ones_bit a hb v hv, I.1 _ ha v hv]
  have : (a % 64 ≤ v) ↔ a ≤ 64 * (a / 64) + v := by omega
  simp only [this]
theorem own_ff_here {S : Nat → Bool} {NW NS : Nat} {W U : Nat → Int64} (I : own_inv S NW NS W U) (hN : NW ≤ 1000) (a : Nat) (ha : a / 64 < NW) (hd : ¬ (W (a / 64) &&& ((-1 : Int64) <<< ((Int32.ofNat a).toInt64 &&& 63))) = 0) :
    own_ffirst S a (((Int32.ofNat (a / 64)) <<< ((6 : Int32) &&& 31)) + Jvm.Free.JP.Long_numberOfTrailingZeros_J.val (W (a / 64) &&& ((-1 : Int64) <<< ((Int32.ofNat a).toInt64 &&& 63)))) := by
  obtain ⟨n, hn, e, b1, b0⟩ := own_ntz_at _ hd
  rw [own_bits_at I a ha (by omega) n hn, Bool.and_eq_true, decide_eq_true_eq] at b1
  refine Or.inl ⟨64 * (a / 64) + n, by rw [own_shl6 _ (by omega), e, own_add], by omega, b1.2, b1.1, fun j h1 h2 => ?_⟩
  have := b0 (j - 64 * (a / 64)) (by omega)
  rw [own_bits_at I a ha (by omega) _ (by omega), show 64 * (a / 64) + (j - 64 * (a / 64)) = j by omega] at this
  simpa [h1] using this
theorem own_ff_nohere {S : Nat → Bool} {NW NS : Nat} {W U : Nat → Int64} (I : own_inv S NW NS W U) (a : Nat) (ha : a / 64 < NW) (hb : a < 2147483648) (hd : (W (a / 64) &&& ((-1 : Int64) <<< ((Int32.ofNat a).toInt64 &&& 63))) = 0) : ∀ j, a ≤ j → j < 64 * (a / 64) + 64 → S j = false := fun j h1 h2 => by
  have := (own_z_bits _).mp hd (j - 64 * (a / 64)) (by omega)
  rw [own_bits_at I a ha hb _ (by omega), show 64 * (a / 64) + (j - 64 * (a / 64)) = j by omega] at this
  simpa [h1] using this
theorem own_notNE {S : Nat → Bool} {w : Nat} (h : ¬ own_NE S w) : ∀ j, 64 * w ≤ j → j < 64 * w + 64 → S j = false := fun j h1 h2 => by
  cases hs : S j
  · rfl
  · exact absurd ⟨j - 64 * w, by omega, by rw [show 64 * w + (j - 64 * w) = j by omega]; exact hs⟩ h
/-- the word found behind holds a bit -/
theorem own_ff_word {S : Nat → Bool} {NW NS : Nat} {W U : Nat → Int64} (I : own_inv S NW NS W U) {n : Nat} (h : own_NE S n) : n < NW ∧ ¬ W n = 0 := by
  obtain ⟨b, h1, h2⟩ := h
  have := I.2.2 _ h2
  have hn : n < NW := by omega
  refine ⟨hn, fun z => ?_⟩
  have := (own_z_bits _).mp z b h1
  rw [I.1 n hn b h1, h2] at this; cases this
theorem own_ff_later {S : Nat → Bool} {NW NS : Nat} {W U : Nat → Int64} (I : own_inv S NW NS W U) (hN : NW ≤ 1000) (a n : Nat) (hh : ∀ j, a ≤ j → j < 64 * (a / 64) + 64 → S j = false) (h1 : a / 64 < n) (h2 : own_NE S n) (h3 : ∀ j, a / 64 < j → j < n → ¬ own_NE S j) :
    own_ffirst S a (((Int32.ofNat n) <<< ((6 : Int32) &&& 31)) + Jvm.Free.JP.Long_numberOfTrailingZeros_J.val (W n)) := by
  obtain ⟨hn, hz⟩ := own_ff_word I h2
  obtain ⟨v, hv, e, b1, b0⟩ := own_ntz_at _ hz
  rw [I.1 n hn v hv] at b1
  refine Or.inl ⟨64 * n + v, by rw [own_shl6 _ (by omega), e, own_add], by omega, by omega, b1, fun j q1 q2 => ?_⟩
  rcases Nat.lt_or_ge j (64 * (a / 64) + 64) with p1 | p1
  · exact hh j q1 p1
  · rcases Nat.lt_or_ge j (64 * n) with p2 | p2
    · exact own_notNE (h3 (j / 64) (by omega) (by omega)) j (by omega) (by omega)
    · have := b0 (j - 64 * n) (by omega)
      rw [I.1 n hn _ (by omega), show 64 * n + (j - 64 * n) = j by omega] at this; exact this
theorem own_ff_none {S : Nat → Bool} (a : Nat) (hh : ∀ j, a ≤ j → j < 64 * (a / 64) + 64 → S j = false) (h3 : ∀ j, a / 64 < j → ¬ own_NE S j) : own_ffirst S a (-1) :=
  Or.inr ⟨rfl, fun j q1 => by
    rcases Nat.lt_or_ge j (64 * (a / 64) + 64) with p1 | p1
    · exact hh j q1 p1
    · exact own_notNE (h3 (j / 64) (by omega)) j (by omega) (by omega)⟩
/-- the bucket that the search round the ring finds -/
def own_found (S : Nat → Bool) (a r : Nat) : Prop := r < 214748364 ∧ S r = true ∧ ((a ≤ r ∧ ∀ j, a ≤ j → j < r → S j = false) ∨ ((∀ j, a ≤ j → S j = false) ∧ ∀ j, j < r → S j = false))
/-! the sizes -/
def own_NW (k : Nat) : Nat := if 1 < 2 ^ k / 64 then 2 ^ k / 64 else 1
def own_NS (k : Nat) : Nat := if 1 < own_NW k / 64 then own_NW k / 64 else 1
theorem own_sz : ∀ k : Nat, k < 16 → own_NW k ≤ 512 ∧ own_NS k ≤ 8 ∧ own_NW k ≤ 64 * own_NS k ∧ 2 ^ k ≤ 64 * own_NW k ∧ 2 ^ k ≤ 32768 ∧ 1 ≤ 2 ^ k := by decide
theorem own_buckets : ∀ k : Nat, k < 16 → ((1 : Int32) <<< ((Int32.ofNat k) &&& 31)) = Int32.ofNat (2 ^ k) := by decide
theorem own_mask_lit : ∀ k : Nat, k < 16 → (Int32.ofNat (2 ^ k)) - (1 : Int32) = Int32.ofNat (2 ^ k - 1) ∧ (Int32.ofNat (2 ^ k - 1)).toBitVec.toNat = 2 ^ k - 1 := by decide
theorem own_max1 : ∀ k : Nat, k < 16 → Jvm.Free.JP.Math_max_II.val (1 : Int32) (Jvm.Free.XT.ushr (Int32.ofNat (2 ^ k)) (6 : Int32)) = Int32.ofNat (own_NW k) := by decide +kernel
theorem own_max2 : ∀ k : Nat, k < 16 → Jvm.Free.JP.Math_max_II.val (1 : Int32) (Jvm.Free.XT.ushr (Int32.ofNat (own_NW k)) (6 : Int32)) = Int32.ofNat (own_NS k) := by decide +kernel
theorem own_k15 (p B : Int32) (h : (p &&& (15 : Int32)) = B) : ∃ k : Nat, B = Int32.ofNat k ∧ k < 16 := by
  have e : (p &&& (15 : Int32)).toInt = p.toInt % 2 ^ 4 := Jvm.Kit.i32_mask p 15 (k := 4) (by decide) (by decide)
  rw [h] at e
  obtain ⟨k, h1, h2⟩ := own_ofNat B (by omega)
  exact ⟨k, h1, by omega⟩
theorem own_masked (p B : Int32) (k : Nat) (hk : k < 16) (h : (p &&& (Int32.ofNat (2 ^ k - 1))) = B) : ∃ n : Nat, B = Int32.ofNat n ∧ n < 2 ^ k := by
  have e := Jvm.Kit.i32_mask p (Int32.ofNat (2 ^ k - 1)) (k := k) (by omega) (own_mask_lit k hk).2
  rw [h] at e
  have hp : (0 : Int) < 2 ^ k := Int.pow_pos (by decide)
  have a := Int.emod_nonneg p.toInt (Int.ne_of_gt hp)
  have b := Int.emod_lt_of_pos p.toInt hp
  obtain ⟨n, h1, h2⟩ := own_ofNat B (by omega)
  refine ⟨n, h1, ?_⟩
  have : (n : Int) < ((2 ^ k : Nat) : Int) := by rw [h2, e]; simpa using b
  exact Int.ofNat_lt.mp this
theorem own_d (x a k : Nat) (hk : k < 16) (hx : x < 2 ^ k) (ha : a < 2 ^ k) : (((Int32.ofNat x) - (Int32.ofNat a)) &&& (Int32.ofNat (2 ^ k - 1))).toInt = if a ≤ x then (x : Int) - a else (x : Int) + (2 ^ k : Nat) - a := by
  obtain ⟨-, -, -, -, h1, h2⟩ := own_sz k hk
  rw [Jvm.Kit.i32_mask _ (Int32.ofNat (2 ^ k - 1)) (k := k) (by omega) (own_mask_lit k hk).2, Jvm.Kit.i32_sub (by rw [own_toInt x (by omega), own_toInt a (by omega)]; omega) (by rw [own_toInt x (by omega), own_toInt a (by omega)]; omega), own_toInt x (by omega), own_toInt a (by omega)]
  have e : ((2 : Int) ^ k) = ((2 ^ k : Nat) : Int) := by simp
  rw [e]
  generalize 2 ^ k = B at *
  by_cases h : a ≤ x
  · rw [if_pos h]; exact Int.emod_eq_of_lt (by omega) (by omega)
  · rw [if_neg h]
    have : ((x : Int) - a) % B = ((x : Int) - a + B) % B := by rw [Int.add_emod_right]
    rw [this, Int.emod_eq_of_lt (by omega) (by omega)]; omega
theorem own_S1 (x j : Nat) : own_add1 (fun _ => false) x j = true ↔ j = x := by unfold own_add1; simp
theorem own_S2 (x y j : Nat) : own_add1 (own_add1 (fun _ => false) x) y j = true ↔ j = x ∨ j = y := by unfold own_add1; simp
theorem own_false {b : Bool} {P : Prop} (h : b = true ↔ P) : b = false ↔ ¬ P := by cases b <;> simp_all
theorem own_found1 {x a r : Nat} (h : own_found (own_add1 (fun _ => false) x) a r) : r = x := (own_S1 x r).mp h.2.1
theorem own_foundSelf {S : Nat → Bool} {x r : Nat} (hx : S x = true) (h : own_found S x r) : r = x := by
  obtain ⟨-, h1, h2 | h2⟩ := h
  · rcases Nat.lt_or_ge x r with q | q
    · rw [h2.2 x (Nat.le_refl _) q] at hx; cases hx
    · omega
  · rw [h2.1 x (Nat.le_refl _)] at hx; cases hx
theorem own_self0 (x : Nat) (m : Int32) : (((Int32.ofNat x) - (Int32.ofNat x)) &&& m) = 0 := by simp
theorem own_two {x y a r k : Nat} (hk : k < 16) (hx : x < 2 ^ k) (hy : y < 2 ^ k) (ha : a < 2 ^ k) (h : own_found (own_add1 (own_add1 (fun _ => false) x) y) a r) :
    (((Int32.ofNat r) - (Int32.ofNat a)) &&& (Int32.ofNat (2 ^ k - 1))) = Jvm.Free.JP.Math_min_II.val (((Int32.ofNat x) - (Int32.ofNat a)) &&& (Int32.ofNat (2 ^ k - 1))) (((Int32.ofNat y) - (Int32.ofNat a)) &&& (Int32.ofNat (2 ^ k - 1))) := by
  obtain ⟨-, h1, h2⟩ := h
  have hr := (own_S2 x y r).mp h1
  have key : (a ≤ r ∧ ∀ j, a ≤ j → j < r → ¬ (j = x ∨ j = y)) ∨ ((∀ j, a ≤ j → ¬ (j = x ∨ j = y)) ∧ ∀ j, j < r → ¬ (j = x ∨ j = y)) := by
    rcases h2 with h2 | h2
    · exact Or.inl ⟨h2.1, fun j q1 q2 => (own_false (own_S2 x y j)).mp (h2.2 j q1 q2)⟩
    · exact Or.inr ⟨fun j q1 => (own_false (own_S2 x y j)).mp (h2.1 j q1), fun j q2 => (own_false (own_S2 x y j)).mp (h2.2 j q2)⟩
  have dx := own_d x a k hk hx ha
  have dy := own_d y a k hk hy ha
  have dr := own_d r a k hk (by rcases hr with e | e <;> omega) ha
  delta Jvm.Free.JP.Math_min_II.val
  apply Int32.toInt_inj.mp
  have facts : (a ≤ r ∧ (a ≤ x → r ≤ x) ∧ (a ≤ y → r ≤ y)) ∨ (x < a ∧ y < a ∧ r ≤ x ∧ r ≤ y) := by
    rcases key with ⟨q1, q2⟩ | ⟨q1, q2⟩
    · refine Or.inl ⟨q1, fun q => ?_, fun q => ?_⟩
      · rcases Nat.lt_or_ge x r with z | z
        · exact absurd (Or.inl rfl) (q2 x q z)
        · exact z
      · rcases Nat.lt_or_ge y r with z | z
        · exact absurd (Or.inr rfl) (q2 y q z)
        · exact z
    · refine Or.inr ⟨?_, ?_, ?_, ?_⟩
      · rcases Nat.lt_or_ge x a with z | z
        · exact z
        · exact absurd (Or.inl rfl) (q1 x z)
      · rcases Nat.lt_or_ge y a with z | z
        · exact z
        · exact absurd (Or.inr rfl) (q1 y z)
      · rcases Nat.lt_or_ge x r with z | z
        · exact absurd (Or.inl rfl) (q2 x z)
        · exact z
      · rcases Nat.lt_or_ge y r with z | z
        · exact absurd (Or.inr rfl) (q2 y z)
        · exact z
  by_cases q : (((Int32.ofNat y) - (Int32.ofNat a)) &&& (Int32.ofNat (2 ^ k - 1))) < (((Int32.ofNat x) - (Int32.ofNat a)) &&& (Int32.ofNat (2 ^ k - 1)))
  · rw [if_pos q, dr, dy]
    rw [Int32.lt_iff_toInt_lt, dx, dy] at q
    generalize 2 ^ k = B at *
    clear dx dy dr key h1 h2
    by_cases c1 : a ≤ x <;> by_cases c2 : a ≤ y <;> by_cases c3 : a ≤ r <;> simp only [c1, c2, c3, if_true, if_false] at q ⊢ <;> omega
  · rw [if_neg q, dr, dx]
    rw [Int32.lt_iff_toInt_lt, dx, dy] at q
    generalize 2 ^ k = B at *
    clear dx dy dr key h1 h2
    by_cases c1 : a ≤ x <;> by_cases c2 : a ≤ y <;> by_cases c3 : a ≤ r <;> simp only [c1, c2, c3, if_true, if_false] at q ⊢ <;> omega
def own_FB (Z : State) (h : Heap) (f wa sa : Addr) (k : Nat) (W U : Nat → Int64) : Prop :=
  Exa Z h f "com/example/wayfold/wayfold/engine/FilledBuckets" ∧ Fld Z h f "com/example/wayfold/wayfold/engine/FilledBuckets" "mask" "I" (.int (Int32.ofNat (2 ^ k - 1))) ∧ Fld Z h f "com/example/wayfold/wayfold/engine/FilledBuckets" "words" "[J" (.ref wa) ∧
  Fld Z h f "com/example/wayfold/wayfold/engine/FilledBuckets" "summary" "[J" (.ref sa) ∧ own_A Z h wa .long (own_NW k) (fun j => .long (W j)) ∧ own_A Z h sa .long (own_NS k) (fun j => .long (U j)) ∧ f ≠ wa ∧ f ≠ sa ∧ wa ≠ sa
theorem own_updL_v (W : Nat → Int64) (i : Nat) (x : Int64) (n : Nat) : ∀ j, j < n → (if j = i then Value.long x else Value.long (W j)) = Value.long (own_updL W i x j) := fun j _ => by
  unfold own_updL; split <;> rfl
theorem own_clampN (n : Nat) (h : n < 2147483648) : (Int32.ofNat n).toNatClampNeg = n := own_clamp (own_toInt n h)
theorem own_nneg (n : Nat) (h : n < 2147483648) : ¬ (Int32.ofNat n) < 0 := by
  rw [Int32.lt_iff_toInt_lt, own_toInt n h]; show ¬ (n : Int) < 0; omega
theorem own_nn0 (n : Nat) (h : n < 2147483648) : ¬ (Int32.ofNat n) < (0 : Int32) := own_nneg n h

theorem own_mem1 {P : Jvm.Cond → Prop} {c : Jvm.Cond} (h : P c) : ∀ w ∈ [c], P w := fun w q => by rcases List.mem_cons.mp q with rfl | q; exact h; cases q
theorem own_memC {P : Jvm.Cond → Prop} {c : Jvm.Cond} {L : List Jvm.Cond} (h : P c) (r : ∀ w ∈ L, P w) : ∀ w ∈ c :: L, P w := fun w q => by rcases List.mem_cons.mp q with rfl | q; exact h; exact r w q
theorem own_tab_max {Z s : State} {a0 args : Array Value} (hZ : Z.Warmed39 s.vm) (hw : ∀ d ∈ tables_1, d.before a0 Z = true) : Jvm.Free.JP.Math_max_II.tab.before args s = true :=
  Jvm.Free.XT.unparts (mvT hZ (hw _ (List.mem_of_getElem? (i := 14) rfl))) (own_mem1 (mvT hZ (hw _ (List.mem_of_getElem? (i := 13) rfl))))
theorem own_tab_min {Z s : State} {a0 args : Array Value} (hZ : Z.Warmed39 s.vm) (hw : ∀ d ∈ tables_1, d.before a0 Z = true) : Jvm.Free.JP.Math_min_II.tab.before args s = true :=
  Jvm.Free.XT.unparts (mvT hZ (hw _ (List.mem_of_getElem? (i := 45) rfl))) (own_mem1 (mvT hZ (hw _ (List.mem_of_getElem? (i := 13) rfl))))
theorem own_tab_ntzI {Z s : State} {a0 args : Array Value} (hZ : Z.Warmed39 s.vm) (hw : ∀ d ∈ tables_1, d.before a0 Z = true) : Jvm.Free.JP.Integer_numberOfTrailingZeros_I.tab.before args s = true :=
  Jvm.Free.XT.unparts (mvT hZ (hw _ (List.mem_of_getElem? (i := 42) rfl))) (own_memC (mvT hZ (hw _ (List.mem_of_getElem? (i := 41) rfl))) (own_mem1 (mvT hZ (hw _ (List.mem_of_getElem? (i := 50) rfl)))))
theorem own_tab_ntz {Z s : State} {a0 args : Array Value} (hZ : Z.Warmed39 s.vm) (hw : ∀ d ∈ tables_1, d.before a0 Z = true) : Jvm.Free.JP.Long_numberOfTrailingZeros_J.tab.before args s = true :=
  Jvm.Free.XT.unparts (mvT hZ (hw _ (List.mem_of_getElem? (i := 38) rfl))) (own_memC (mvT hZ (hw _ (List.mem_of_getElem? (i := 37) rfl))) (own_memC (own_tab_ntzI hZ hw) (own_memC (mvT hZ (hw _ (List.mem_of_getElem? (i := 39) rfl))) (own_mem1 (mvT hZ (hw _ (List.mem_of_getElem? (i := 40) rfl)))))))
theorem d1_0 : decode prog_18_method_1_code 0 = .ok (.aload_n 0, 1) := by decide +kernel
theorem d1_1 : decode prog_18_method_1_code 1 = .ok (.invokespecial 1, 3) := by decide +kernel
theorem d1_4 : decode prog_18_method_1_code 4 = .ok (.aload_n 0, 1) := by decide +kernel
theorem d1_5 : decode prog_18_method_1_code 5 = .ok (.iload_n 1, 1) := by decide +kernel
theorem d1_6 : decode prog_18_method_1_code 6 = .ok (.iconst 1, 1) := by decide +kernel
theorem d1_7 : decode prog_18_method_1_code 7 = .ok (.isub, 1) := by decide +kernel
theorem d1_8 : decode prog_18_method_1_code 8 = .ok (.putfield 7, 3) := by decide +kernel
theorem d1_11 : decode prog_18_method_1_code 11 = .ok (.aload_n 0, 1) := by decide +kernel
theorem d1_12 : decode prog_18_method_1_code 12 = .ok (.iconst 1, 1) := by decide +kernel
theorem d1_13 : decode prog_18_method_1_code 13 = .ok (.iload_n 1, 1) := by decide +kernel
theorem d1_14 : decode prog_18_method_1_code 14 = .ok (.bipush 6, 2) := by decide +kernel
theorem d1_16 : decode prog_18_method_1_code 16 = .ok (.iushr, 1) := by decide +kernel
theorem d1_17 : decode prog_18_method_1_code 17 = .ok (.invokestatic 13, 3) := by decide +kernel
theorem d1_20 : decode prog_18_method_1_code 20 = .ok (.newarray .long, 2) := by decide +kernel
theorem d1_22 : decode prog_18_method_1_code 22 = .ok (.putfield 19, 3) := by decide +kernel
theorem d1_25 : decode prog_18_method_1_code 25 = .ok (.aload_n 0, 1) := by decide +kernel
theorem d1_26 : decode prog_18_method_1_code 26 = .ok (.iconst 1, 1) := by decide +kernel
theorem d1_27 : decode prog_18_method_1_code 27 = .ok (.aload_n 0, 1) := by decide +kernel
theorem d1_28 : decode prog_18_method_1_code 28 = .ok (.getfield 19, 3) := by decide +kernel
theorem d1_31 : decode prog_18_method_1_code 31 = .ok (.arraylength, 1) := by decide +kernel
theorem d1_32 : decode prog_18_method_1_code 32 = .ok (.bipush 6, 2) := by decide +kernel
theorem d1_34 : decode prog_18_method_1_code 34 = .ok (.iushr, 1) := by decide +kernel
theorem d1_35 : decode prog_18_method_1_code 35 = .ok (.invokestatic 13, 3) := by decide +kernel
theorem d1_38 : decode prog_18_method_1_code 38 = .ok (.newarray .long, 2) := by decide +kernel
theorem d1_40 : decode prog_18_method_1_code 40 = .ok (.putfield 23, 3) := by decide +kernel
theorem d1_43 : decode prog_18_method_1_code 43 = .ok (.return_, 1) := by decide +kernel
theorem pd_1_0 : parseMethodDescriptor "(II)I" = some ⟨[.int, .int], some .int⟩ := by decide +kernel
theorem pn_1 : plainName "com/example/wayfold/wayfold/engine/FilledBuckets" = true := by first | (simp [plainName, overriddenIn]; done) | decide +kernel
theorem ef_1 (m : MethodId) (a1 : Addr) (k : Nat) : entryFrame m #[(.ref a1), (.int (Int32.ofNat (2 ^ k)))] 2 = mkF m 0 #[.val (.ref a1), .val (.int (Int32.ofNat (2 ^ k)))] [] := by first | (simp [entryFrame, mkF, argsToLocals, Value.category]; done) | rfl
def Q1 (Z : State) (a1 : Addr) (k : Nat) (h0 : Heap) (n0 : Nat) (v : Option Value) (h : Heap) (L : List Loc) : Prop := v = none ∧ Fr n0 L ∧ Keep h0 h [a1] ∧ ∃ wa sa, own_FB Z h a1 wa sa k (fun _ => 0) (fun _ => 0) ∧ n0 ≤ wa ∧ n0 ≤ sa ∧ h0.size ≤ wa ∧ h0.size ≤ sa
set_option maxRecDepth 65536 in
set_option maxHeartbeats 40000000 in
theorem rm1 (l : Launch) (Z : State) (a0 : Array Value) (hw : ∀ d ∈ tables_1, d.before a0 Z = true) (ws : List Jvm.Cond) (a1 : Addr) (k : Nat) (h0 : Heap) (n0 : Nat) (Z0 : n0 ≤ h0.size) (hk : k < 16) (g1 : n0 ≤ a1) (E : Exa Z h0 a1 "com/example/wayfold/wayfold/engine/FilledBuckets") (Fm : Fld Z h0 a1 "com/example/wayfold/wayfold/engine/FilledBuckets" "mask" "I" (.int 0)) (Fw : Fld Z h0 a1 "com/example/wayfold/wayfold/engine/FilledBuckets" "words" "[J" .null) (Fs : Fld Z h0 a1 "com/example/wayfold/wayfold/engine/FilledBuckets" "summary" "[J" .null) :
    MetFree l (⟨"com/example/wayfold/wayfold/engine/FilledBuckets", "<init>", "(I)V"⟩ : MethodName) (head1 (Jvm.Cond.code (⟨"com/example/wayfold/wayfold/engine/FilledBuckets", "<init>", "(I)V"⟩ : MethodName) prog_18_method_1_code 2 none :: ws) ({ frames := 1, cells := 2, slots := 520, locals := 14 } : Room)) (fun zA zU => zA = #[(.ref a1), (.int (Int32.ofNat (2 ^ k)))] ∧ Z.Warmed39 zU.vm ∧ zU.heap = h0) (fun _ _ _ _ _ => True) (fun _ zU zo zT => ∃ zv zL, zo = .returned zv ∧ Q1 Z a1 k h0 n0 zv zT.heap zL ∧ FrameEnd zU zo zT zL ({ frames := 1, cells := 2, slots := 520, locals := 14 } : Room).cells ({ frames := 1, cells := 2, slots := 520, locals := 14 } : Room).slots) := by
  refine MetFree.of_bodySF (plainFor_of_name pn_1) hisR ?_
  intro p e s m args below meth c s₁ Bd hml0 hP hK
  obtain ⟨rfl, hZ, hh⟩ := hP
  have hx := Bd.exec
  have hby := Bd.bytes
  have hml : c.maxLocals = 2 := hml0
  have hown : s.vm.findClass "com/example/wayfold/wayfold/engine/FilledBuckets" = some m.cls := findClass_of_methodNamed Bd.named
  have hnm := (name_of_methodNamed Bd.named Bd.method).1
  have hlk : meth.locks = false := Bd.notSynchronized
  have X0 : Stand p l e ({ frames := 1, cells := 2, slots := 520, locals := 14 } : Room) s m #[(.ref a1), (.int (Int32.ofNat (2 ^ k)))] below meth c s₁ [] 0 0 := Stand.of_body Bd
  have e0 : s₁.heap = h0 := by rw [← hh, Bd.state]; rfl
  have N0 := Fr.nil n0
  refine own_step (p := p) (e := e) (below := below) (U' := s₁.setTop (mkF m 0 #[.val (.ref a1), .val (.int (Int32.ofNat (2 ^ k)))] [])) (fun _ zk => castTop (ef_1 m a1 k) zk) ?_
  obtain ⟨z1, z2, z3, z4, z5, z6⟩ := own_sz k hk
  have K_0 : Keep h0 h0 [a1] := Keep.refl _ _
  refine own_step (fun _ zk => XS.aloadN X0.here hx rfl (hb hby d1_0) rfl rfl zk) ?_
  show own_E p e below _ (s₁.setTop (mkF m 1 #[.val (.ref a1), .val (.int (Int32.ofNat (2 ^ k)))] [(.ref a1)]))
  obtain ⟨T1, X1, e1, st1⟩ := initO X0 hx hZ hown (hw _ (List.mem_of_getElem? (i := 6) rfl)) (hw _ (List.mem_of_getElem? (i := 7) rfl)) (hw _ (List.mem_of_getElem? (i := 8) rfl)) e0 (g := (mkF m 1 #[.val (.ref a1), .val (.int (Int32.ofNat (2 ^ k)))] [(.ref a1)])) rfl (by rw [hml]; rfl) rfl (hb hby d1_1) (by decide) (W := 0) (by show 2 * 0 + _ ≤ _; exact Nat.le_of_eq rfl) (by decide)
  refine own_step st1 ?_
  show own_E p e below _ (T1.setTop (mkF m 4 #[.val (.ref a1), .val (.int (Int32.ofNat (2 ^ k)))] []))
  refine own_step (fun _ zk => XS.aloadN X1.here hx rfl (hb hby d1_4) rfl rfl zk) ?_
  show own_E p e below _ (T1.setTop (mkF m 5 #[.val (.ref a1), .val (.int (Int32.ofNat (2 ^ k)))] [(.ref a1)]))
  refine own_step (fun _ zk => XS.iloadN X1.here hx rfl (hb hby d1_5) rfl zk) ?_
  show own_E p e below _ (T1.setTop (mkF m 6 #[.val (.ref a1), .val (.int (Int32.ofNat (2 ^ k)))] [(.int (Int32.ofNat (2 ^ k))), (.ref a1)]))
  refine own_step (fun _ zk => XS.iconst X1.here hx rfl (hb hby d1_6) zk) ?_
  show own_E p e below _ (T1.setTop (mkF m 7 #[.val (.ref a1), .val (.int (Int32.ofNat (2 ^ k)))] [(.int (1 : Int32)), (.int (Int32.ofNat (2 ^ k))), (.ref a1)]))
  refine own_step (fun _ zk => XS.isub X1.here hx rfl (hb hby d1_7) rfl zk) ?_
  show own_E p e below _ (T1.setTop (mkF m 8 #[.val (.ref a1), .val (.int (Int32.ofNat (2 ^ k)))] [(.int ((Int32.ofNat (2 ^ k)) - (1 : Int32))), (.ref a1)]))
  rw [show ((Int32.ofNat (2 ^ k)) - (1 : Int32)) = (Int32.ofNat (2 ^ k - 1)) from (own_mask_lit k hk).1]
  show own_E p e below _ (T1.setTop (mkF m 8 #[.val (.ref a1), .val (.int (Int32.ofNat (2 ^ k)))] [(.int (Int32.ofNat (2 ^ k - 1))), (.ref a1)]))
  obtain ⟨T2, h2, X2, e2, W2, st2⟩ := putF X1 hx hZ hown (host := "") (Or.inl (hw _ (List.mem_of_getElem? (i := 9) rfl))) Via.refl e1 Fm E (Or.inr ⟨(hw _ (List.mem_of_getElem? (i := 10) rfl)), rfl, hnm⟩) (hw _ (List.mem_of_getElem? (i := 1) rfl)) (ty := .int) (by decide) rfl rfl (g := (mkF m 8 #[.val (.ref a1), .val (.int (Int32.ofNat (2 ^ k)))] [(.int (Int32.ofNat (2 ^ k - 1))), (.ref a1)])) rfl rfl (hb hby d1_8)
  have N2 := Fr.snoc X2 N0 g1
  have E_2 := Exa.wr W2 E
  have Fm_2 := Fld.same W2 Fm
  have Fw_2 := Fld.other W2 Fw (Or.inr (slot_ne (Or.inr (hw _ (List.mem_of_getElem? (i := 17) rfl))) (Or.inr (hw _ (List.mem_of_getElem? (i := 10) rfl))) (by decide) (t := (.array .long)) (t' := .int) (by decide) (by decide)))
  have Fs_2 := Fld.other W2 Fs (Or.inr (slot_ne (Or.inr (hw _ (List.mem_of_getElem? (i := 19) rfl))) (Or.inr (hw _ (List.mem_of_getElem? (i := 10) rfl))) (by decide) (t := (.array .long)) (t' := .int) (by decide) (by decide)))
  have K_2 := Keep.wr K_0 W2 (Or.inl (List.mem_of_getElem? (i := 0) rfl))
  refine own_step st2 ?_
  show own_E p e below _ (T2.setTop (mkF m 11 #[.val (.ref a1), .val (.int (Int32.ofNat (2 ^ k)))] []))
  refine own_step (fun _ zk => XS.aloadN X2.here hx rfl (hb hby d1_11) rfl rfl zk) ?_
  show own_E p e below _ (T2.setTop (mkF m 12 #[.val (.ref a1), .val (.int (Int32.ofNat (2 ^ k)))] [(.ref a1)]))
  refine own_step (fun _ zk => XS.iconst X2.here hx rfl (hb hby d1_12) zk) ?_
  show own_E p e below _ (T2.setTop (mkF m 13 #[.val (.ref a1), .val (.int (Int32.ofNat (2 ^ k)))] [(.int (1 : Int32)), (.ref a1)]))
  refine own_step (fun _ zk => XS.iloadN X2.here hx rfl (hb hby d1_13) rfl zk) ?_
  show own_E p e below _ (T2.setTop (mkF m 14 #[.val (.ref a1), .val (.int (Int32.ofNat (2 ^ k)))] [(.int (Int32.ofNat (2 ^ k))), (.int (1 : Int32)), (.ref a1)]))
  refine own_step (fun _ zk => XS.bipush X2.here hx rfl (hb hby d1_14) zk) ?_
  show own_E p e below _ (T2.setTop (mkF m 16 #[.val (.ref a1), .val (.int (Int32.ofNat (2 ^ k)))] [(.int (6 : Int32)), (.int (Int32.ofNat (2 ^ k))), (.int (1 : Int32)), (.ref a1)]))
  refine own_step (fun _ zk => Jvm.Free.XT.iushr X2.here hx rfl (hb hby d1_16) rfl zk) ?_
  show own_E p e below _ (T2.setTop (mkF m 17 #[.val (.ref a1), .val (.int (Int32.ofNat (2 ^ k)))] [(.int (Jvm.Free.XT.ushr (Int32.ofNat (2 ^ k)) (6 : Int32))), (.int (1 : Int32)), (.ref a1)]))
  obtain ⟨_, _, ⟨T3, zL3, zK3, zN3⟩, -, X3, ⟨⟨rfl, e3'⟩, zl3, zy3, zz3⟩, st3⟩ := Jvm.LawKit.callS X2 hx (y := (⟨"java/lang/Math", "max", "(II)I"⟩ : MethodName)) hown (mvT hZ (hw _ (List.mem_of_getElem? (i := 11) rfl))) (mvT hZ (hw _ (List.mem_of_getElem? (i := 12) rfl))) (mvT hZ (hw _ (List.mem_of_getElem? (i := 13) rfl))) (mvT hZ (hw _ (List.mem_of_getElem? (i := 14) rfl))) (by decide) (W := 1) (Jvm.Free.JP.Math_max_II.pays (1 : Int32) (Jvm.Free.XT.ushr (Int32.ofNat (2 ^ k)) (6 : Int32)) (own_tab_max hZ hw) (by decide) (by decide)) (g := (mkF m 17 #[.val (.ref a1), .val (.int (Int32.ofNat (2 ^ k)))] [(.int (Jvm.Free.XT.ushr (Int32.ofNat (2 ^ k)) (6 : Int32))), (.int (1 : Int32)), (.ref a1)])) rfl (by rw [hml]; rfl) (argsL := [(.int (1 : Int32)), (.int (Jvm.Free.XT.ushr (Int32.ofNat (2 ^ k)) (6 : Int32)))]) (rest := [(.ref a1)]) (lenOf pd_1_0 rfl) rfl (by show 2 * 0 + _ ≤ _; exact Nat.le_of_eq rfl) (hb hby d1_17) (fun _ _ => ⟨(by decide : 0 + 0 ≤ _), (by decide : 0 + 0 ≤ _), rfl, trivial⟩)
  dsimp only [Pt.U, Pt.locs, Pt.cells, Pt.slots] at X3 zl3 zy3 zz3 st3 e3'
  rw [show zK3 = 0 from zy3, show zN3 = 0 from zz3] at X3
  have e3 : T3.heap = h2 := e3'.trans e2
  have N3 : Fr n0 zL3 := by rw [zl3]; exact Fr.app N2 (Fr.nil n0)
  refine own_step (st3) ?_
  show own_E p e below _ (T3.setTop (mkF m 20 #[.val (.ref a1), .val (.int (Int32.ofNat (2 ^ k)))] [(.int (Jvm.Free.JP.Math_max_II.val (1 : Int32) (Jvm.Free.XT.ushr (Int32.ofNat (2 ^ k)) (6 : Int32)))), (.ref a1)]))
  rw [show (Jvm.Free.JP.Math_max_II.val (1 : Int32) (Jvm.Free.XT.ushr (Int32.ofNat (2 ^ k)) (6 : Int32))) = (Int32.ofNat (own_NW k)) from own_max1 k hk]
  show own_E p e below _ (T3.setTop (mkF m 20 #[.val (.ref a1), .val (.int (Int32.ofNat (2 ^ k)))] [(.int (Int32.ofNat (own_NW k))), (.ref a1)]))
  obtain ⟨T4, h4, c4, X4, e4, E4, A4, st4⟩ := newP X3 hx hZ (hw _ (List.mem_of_getElem? (i := 15) rfl)) e3 (g := (mkF m 20 #[.val (.ref a1), .val (.int (Int32.ofNat (2 ^ k)))] [(.int (Int32.ofNat (own_NW k))), (.ref a1)])) rfl (hb hby d1_20) rfl (own_nneg _ (by omega)) (cap := 512) (by rw [own_clampN _ (by omega)]; omega) (by decide) (by decide) (by decide) 
  obtain ⟨wa, g_wa⟩ : ∃ z, z = h2.size := ⟨_, rfl⟩
  rw [← g_wa] at A4 st4
  have gh_wa : h0.size ≤ wa := Nat.le_trans K_2.1 (Nat.le_of_eq g_wa.symm)
  have ge_wa : n0 ≤ wa := Nat.le_trans Z0 gh_wa
  have ne_a1_wa : a1 ≠ wa := Nat.ne_of_lt (Nat.lt_of_lt_of_le E_2.lt (Nat.le_of_eq g_wa.symm))
  have E_4 := Exa.ext E4 E_2
  have Fm_4 := Fld.ext E4 Fm_2
  have Fw_4 := Fld.ext E4 Fw_2
  have Fs_4 := Fld.ext E4 Fs_2
  have K_4 := Keep.ext K_2 E4
  have AW_4 : own_A Z h4 wa .long (own_NW k) (fun j => .long ((fun _ => 0) j)) := own_A_new A4 (own_clampN _ (by omega))
  refine own_step st4 ?_
  show own_E p e below _ (T4.setTop (mkF m 22 #[.val (.ref a1), .val (.int (Int32.ofNat (2 ^ k)))] [(.ref wa), (.ref a1)]))
  obtain ⟨T5, h5, X5, e5, W5, st5⟩ := putF X4 hx hZ hown (host := "") (Or.inl (hw _ (List.mem_of_getElem? (i := 16) rfl))) Via.refl e4 Fw_4 E_4 (Or.inr ⟨(hw _ (List.mem_of_getElem? (i := 17) rfl)), rfl, hnm⟩) (hw _ (List.mem_of_getElem? (i := 1) rfl)) (ty := (.array .long)) (by decide) rfl rfl (g := (mkF m 22 #[.val (.ref a1), .val (.int (Int32.ofNat (2 ^ k)))] [(.ref wa), (.ref a1)])) rfl rfl (hb hby d1_22)
  have N5 := Fr.snoc X5 N3 g1
  have E_5 := Exa.wr W5 E_4
  have Fm_5 := Fld.other W5 Fm_4 (Or.inr (slot_ne (Or.inr (hw _ (List.mem_of_getElem? (i := 10) rfl))) (Or.inr (hw _ (List.mem_of_getElem? (i := 17) rfl))) (by decide) (t := .int) (t' := (.array .long)) (by decide) (by decide)))
  have Fw_5 := Fld.same W5 Fw_4
  have Fs_5 := Fld.other W5 Fs_4 (Or.inr (slot_ne (Or.inr (hw _ (List.mem_of_getElem? (i := 19) rfl))) (Or.inr (hw _ (List.mem_of_getElem? (i := 17) rfl))) (by decide) (t := (.array .long)) (t' := (.array .long)) (by decide) (by decide)))
  have AW_5 := own_A_other W5 (Ne.symm ne_a1_wa) AW_4
  have K_5 := Keep.wr K_4 W5 (Or.inl (List.mem_of_getElem? (i := 0) rfl))
  refine own_step st5 ?_
  show own_E p e below _ (T5.setTop (mkF m 25 #[.val (.ref a1), .val (.int (Int32.ofNat (2 ^ k)))] []))
  refine own_step (fun _ zk => XS.aloadN X5.here hx rfl (hb hby d1_25) rfl rfl zk) ?_
  show own_E p e below _ (T5.setTop (mkF m 26 #[.val (.ref a1), .val (.int (Int32.ofNat (2 ^ k)))] [(.ref a1)]))
  refine own_step (fun _ zk => XS.iconst X5.here hx rfl (hb hby d1_26) zk) ?_
  show own_E p e below _ (T5.setTop (mkF m 27 #[.val (.ref a1), .val (.int (Int32.ofNat (2 ^ k)))] [(.int (1 : Int32)), (.ref a1)]))
  refine own_step (fun _ zk => XS.aloadN X5.here hx rfl (hb hby d1_27) rfl rfl zk) ?_
  show own_E p e below _ (T5.setTop (mkF m 28 #[.val (.ref a1), .val (.int (Int32.ofNat (2 ^ k)))] [(.ref a1), (.int (1 : Int32)), (.ref a1)]))
  obtain ⟨T6, X6, e6, st6⟩ := getF X5 hx hZ hown (host := "") (Or.inl (hw _ (List.mem_of_getElem? (i := 16) rfl))) Via.refl e5 Fw_5 (g := (mkF m 28 #[.val (.ref a1), .val (.int (Int32.ofNat (2 ^ k)))] [(.ref a1), (.int (1 : Int32)), (.ref a1)])) rfl rfl (hb hby d1_28)
  refine own_step st6 ?_
  show own_E p e below _ (T6.setTop (mkF m 31 #[.val (.ref a1), .val (.int (Int32.ofNat (2 ^ k)))] [(.ref wa), (.int (1 : Int32)), (.ref a1)]))
  refine own_step (fun _ zk => own_len X6 hx hZ e6 AW_5 (g := (mkF m 31 #[.val (.ref a1), .val (.int (Int32.ofNat (2 ^ k)))] [(.ref wa), (.int (1 : Int32)), (.ref a1)])) rfl rfl (hb hby d1_31) zk) ?_
  show own_E p e below _ (T6.setTop (mkF m 32 #[.val (.ref a1), .val (.int (Int32.ofNat (2 ^ k)))] [(.int (Int32.ofNat (own_NW k))), (.int (1 : Int32)), (.ref a1)]))
  refine own_step (fun _ zk => XS.bipush X6.here hx rfl (hb hby d1_32) zk) ?_
  show own_E p e below _ (T6.setTop (mkF m 34 #[.val (.ref a1), .val (.int (Int32.ofNat (2 ^ k)))] [(.int (6 : Int32)), (.int (Int32.ofNat (own_NW k))), (.int (1 : Int32)), (.ref a1)]))
  refine own_step (fun _ zk => Jvm.Free.XT.iushr X6.here hx rfl (hb hby d1_34) rfl zk) ?_
  show own_E p e below _ (T6.setTop (mkF m 35 #[.val (.ref a1), .val (.int (Int32.ofNat (2 ^ k)))] [(.int (Jvm.Free.XT.ushr (Int32.ofNat (own_NW k)) (6 : Int32))), (.int (1 : Int32)), (.ref a1)]))
  obtain ⟨_, _, ⟨T7, zL7, zK7, zN7⟩, -, X7, ⟨⟨rfl, e7'⟩, zl7, zy7, zz7⟩, st7⟩ := Jvm.LawKit.callS X6 hx (y := (⟨"java/lang/Math", "max", "(II)I"⟩ : MethodName)) hown (mvT hZ (hw _ (List.mem_of_getElem? (i := 11) rfl))) (mvT hZ (hw _ (List.mem_of_getElem? (i := 12) rfl))) (mvT hZ (hw _ (List.mem_of_getElem? (i := 13) rfl))) (mvT hZ (hw _ (List.mem_of_getElem? (i := 14) rfl))) (by decide) (W := 1) (Jvm.Free.JP.Math_max_II.pays (1 : Int32) (Jvm.Free.XT.ushr (Int32.ofNat (own_NW k)) (6 : Int32)) (own_tab_max hZ hw) (by decide) (by decide)) (g := (mkF m 35 #[.val (.ref a1), .val (.int (Int32.ofNat (2 ^ k)))] [(.int (Jvm.Free.XT.ushr (Int32.ofNat (own_NW k)) (6 : Int32))), (.int (1 : Int32)), (.ref a1)])) rfl (by rw [hml]; rfl) (argsL := [(.int (1 : Int32)), (.int (Jvm.Free.XT.ushr (Int32.ofNat (own_NW k)) (6 : Int32)))]) (rest := [(.ref a1)]) (lenOf pd_1_0 rfl) rfl (by show 2 * 0 + _ ≤ _; exact Nat.le_of_eq rfl) (hb hby d1_35) (fun _ _ => ⟨(by decide : 1 + 0 ≤ _), (by decide : 512 + 0 ≤ _), rfl, trivial⟩)
  dsimp only [Pt.U, Pt.locs, Pt.cells, Pt.slots] at X7 zl7 zy7 zz7 st7 e7'
  rw [show zK7 = 1 from zy7, show zN7 = 512 from zz7] at X7
  have e7 : T7.heap = h5 := e7'.trans e6
  have N7 : Fr n0 zL7 := by rw [zl7]; exact Fr.app N5 (Fr.nil n0)
  refine own_step (st7) ?_
  show own_E p e below _ (T7.setTop (mkF m 38 #[.val (.ref a1), .val (.int (Int32.ofNat (2 ^ k)))] [(.int (Jvm.Free.JP.Math_max_II.val (1 : Int32) (Jvm.Free.XT.ushr (Int32.ofNat (own_NW k)) (6 : Int32)))), (.ref a1)]))
  rw [show (Jvm.Free.JP.Math_max_II.val (1 : Int32) (Jvm.Free.XT.ushr (Int32.ofNat (own_NW k)) (6 : Int32))) = (Int32.ofNat (own_NS k)) from own_max2 k hk]
  show own_E p e below _ (T7.setTop (mkF m 38 #[.val (.ref a1), .val (.int (Int32.ofNat (2 ^ k)))] [(.int (Int32.ofNat (own_NS k))), (.ref a1)]))
  obtain ⟨T8, h8, c8, X8, e8, E8, A8, st8⟩ := newP X7 hx hZ (hw _ (List.mem_of_getElem? (i := 15) rfl)) e7 (g := (mkF m 38 #[.val (.ref a1), .val (.int (Int32.ofNat (2 ^ k)))] [(.int (Int32.ofNat (own_NS k))), (.ref a1)])) rfl (hb hby d1_38) rfl (own_nneg _ (by omega)) (cap := 8) (by rw [own_clampN _ (by omega)]; omega) (by decide) (by decide) (by decide) 
  obtain ⟨sa, g_sa⟩ : ∃ z, z = h5.size := ⟨_, rfl⟩
  rw [← g_sa] at A8 st8
  have gh_sa : h0.size ≤ sa := Nat.le_trans K_5.1 (Nat.le_of_eq g_sa.symm)
  have ge_sa : n0 ≤ sa := Nat.le_trans Z0 gh_sa
  have ne_a1_sa : a1 ≠ sa := Nat.ne_of_lt (Nat.lt_of_lt_of_le E_5.lt (Nat.le_of_eq g_sa.symm))
  have ne_wa_sa : wa ≠ sa := Nat.ne_of_lt (Nat.lt_of_lt_of_le (own_A_lt AW_5) (Nat.le_of_eq g_sa.symm))
  have E_8 := Exa.ext E8 E_5
  have Fm_8 := Fld.ext E8 Fm_5
  have Fw_8 := Fld.ext E8 Fw_5
  have Fs_8 := Fld.ext E8 Fs_5
  have AW_8 := own_A_ext E8 AW_5
  have K_8 := Keep.ext K_5 E8
  have AU_8 : own_A Z h8 sa .long (own_NS k) (fun j => .long ((fun _ => 0) j)) := own_A_new A8 (own_clampN _ (by omega))
  refine own_step st8 ?_
  show own_E p e below _ (T8.setTop (mkF m 40 #[.val (.ref a1), .val (.int (Int32.ofNat (2 ^ k)))] [(.ref sa), (.ref a1)]))
  obtain ⟨T9, h9, X9, e9, W9, st9⟩ := putF X8 hx hZ hown (host := "") (Or.inl (hw _ (List.mem_of_getElem? (i := 18) rfl))) Via.refl e8 Fs_8 E_8 (Or.inr ⟨(hw _ (List.mem_of_getElem? (i := 19) rfl)), rfl, hnm⟩) (hw _ (List.mem_of_getElem? (i := 1) rfl)) (ty := (.array .long)) (by decide) rfl rfl (g := (mkF m 40 #[.val (.ref a1), .val (.int (Int32.ofNat (2 ^ k)))] [(.ref sa), (.ref a1)])) rfl rfl (hb hby d1_40)
  have N9 := Fr.snoc X9 N7 g1
  have E_9 := Exa.wr W9 E_8
  have Fm_9 := Fld.other W9 Fm_8 (Or.inr (slot_ne (Or.inr (hw _ (List.mem_of_getElem? (i := 10) rfl))) (Or.inr (hw _ (List.mem_of_getElem? (i := 19) rfl))) (by decide) (t := .int) (t' := (.array .long)) (by decide) (by decide)))
  have Fw_9 := Fld.other W9 Fw_8 (Or.inr (slot_ne (Or.inr (hw _ (List.mem_of_getElem? (i := 17) rfl))) (Or.inr (hw _ (List.mem_of_getElem? (i := 19) rfl))) (by decide) (t := (.array .long)) (t' := (.array .long)) (by decide) (by decide)))
  have Fs_9 := Fld.same W9 Fs_8
  have AW_9 := own_A_other W9 (Ne.symm ne_a1_wa) AW_8
  have AU_9 := own_A_other W9 (Ne.symm ne_a1_sa) AU_8
  have K_9 := Keep.wr K_8 W9 (Or.inl (List.mem_of_getElem? (i := 0) rfl))
  refine own_step st9 ?_
  show own_E p e below _ (T9.setTop (mkF m 43 #[.val (.ref a1), .val (.int (Int32.ofNat (2 ^ k)))] []))
  refine own_ret X9 hlk (v := none) (fun _ => rfl) ?_ (by decide) (by decide) (fun fs hr => X9.returnOut hx Bd.returns (hb hby d1_43) hr)
  show Q1 Z a1 k h0 n0 _ T9.heap _
  rw [e9]
  exact ⟨rfl, N9, K_9, wa, sa, ⟨E_9, Fm_9, Fw_9, Fs_9, AW_9, AU_9, ne_a1_wa, ne_a1_sa, ne_wa_sa⟩, ge_wa, ge_sa, gh_wa, gh_sa⟩
theorem d2_0 : decode prog_18_method_2_code 0 = .ok (.aload_n 0, 1) := by decide +kernel
theorem d2_1 : decode prog_18_method_2_code 1 = .ok (.getfield 19, 3) := by decide +kernel
theorem d2_4 : decode prog_18_method_2_code 4 = .ok (.iload_n 1, 1) := by decide +kernel
theorem d2_5 : decode prog_18_method_2_code 5 = .ok (.bipush 6, 2) := by decide +kernel
theorem d2_7 : decode prog_18_method_2_code 7 = .ok (.iushr, 1) := by decide +kernel
theorem d2_8 : decode prog_18_method_2_code 8 = .ok (.dup2, 1) := by decide +kernel
theorem d2_9 : decode prog_18_method_2_code 9 = .ok (.laload, 1) := by decide +kernel
theorem d2_10 : decode prog_18_method_2_code 10 = .ok (.lconst 1, 1) := by decide +kernel
theorem d2_11 : decode prog_18_method_2_code 11 = .ok (.iload_n 1, 1) := by decide +kernel
theorem d2_12 : decode prog_18_method_2_code 12 = .ok (.lshl, 1) := by decide +kernel
theorem d2_13 : decode prog_18_method_2_code 13 = .ok (.lor, 1) := by decide +kernel
theorem d2_14 : decode prog_18_method_2_code 14 = .ok (.lastore, 1) := by decide +kernel
theorem d2_15 : decode prog_18_method_2_code 15 = .ok (.aload_n 0, 1) := by decide +kernel
theorem d2_16 : decode prog_18_method_2_code 16 = .ok (.getfield 23, 3) := by decide +kernel
theorem d2_19 : decode prog_18_method_2_code 19 = .ok (.iload_n 1, 1) := by decide +kernel
theorem d2_20 : decode prog_18_method_2_code 20 = .ok (.bipush 12, 2) := by decide +kernel
theorem d2_22 : decode prog_18_method_2_code 22 = .ok (.iushr, 1) := by decide +kernel
theorem d2_23 : decode prog_18_method_2_code 23 = .ok (.dup2, 1) := by decide +kernel
theorem d2_24 : decode prog_18_method_2_code 24 = .ok (.laload, 1) := by decide +kernel
theorem d2_25 : decode prog_18_method_2_code 25 = .ok (.lconst 1, 1) := by decide +kernel
theorem d2_26 : decode prog_18_method_2_code 26 = .ok (.iload_n 1, 1) := by decide +kernel
theorem d2_27 : decode prog_18_method_2_code 27 = .ok (.bipush 6, 2) := by decide +kernel
theorem d2_29 : decode prog_18_method_2_code 29 = .ok (.iushr, 1) := by decide +kernel
theorem d2_30 : decode prog_18_method_2_code 30 = .ok (.lshl, 1) := by decide +kernel
theorem d2_31 : decode prog_18_method_2_code 31 = .ok (.lor, 1) := by decide +kernel
theorem d2_32 : decode prog_18_method_2_code 32 = .ok (.lastore, 1) := by decide +kernel
theorem d2_33 : decode prog_18_method_2_code 33 = .ok (.return_, 1) := by decide +kernel
theorem pn_2 : plainName "com/example/wayfold/wayfold/engine/FilledBuckets" = true := by first | (simp [plainName, overriddenIn]; done) | decide +kernel
theorem ef_2 (m : MethodId) (a1 : Addr) (wa sa : Addr) (k a : Nat) (W U : Nat → Int64) : entryFrame m #[(.ref a1), (.int (Int32.ofNat a))] 2 = mkF m 0 #[.val (.ref a1), .val (.int (Int32.ofNat a))] [] := by first | (simp [entryFrame, mkF, argsToLocals, Value.category]; done) | rfl
def Q2 (Z : State) (a1 : Addr) (wa sa : Addr) (k a : Nat) (W U : Nat → Int64) (h0 : Heap) (n0 : Nat) (v : Option Value) (h : Heap) (L : List Loc) : Prop := v = none ∧ Fr n0 L ∧ Keep h0 h [wa, sa] ∧ own_FB Z h a1 wa sa k (own_updL W (a / 64) (W (a / 64) ||| ((1 : Int64) <<< ((Int32.ofNat a).toInt64 &&& 63)))) (own_updL U (a / 4096) (U (a / 4096) ||| ((1 : Int64) <<< ((Int32.ofNat (a / 64)).toInt64 &&& 63))))
set_option maxRecDepth 65536 in
set_option maxHeartbeats 40000000 in
theorem rm2 (l : Launch) (Z : State) (a0 : Array Value) (hw : ∀ d ∈ tables_1, d.before a0 Z = true) (ws : List Jvm.Cond) (a1 : Addr) (wa sa : Addr) (k a : Nat) (W U : Nat → Int64) (h0 : Heap) (n0 : Nat) (Z0 : n0 ≤ h0.size) (hk : k < 16) (ha : a < 2 ^ k) (gw : n0 ≤ wa) (gs : n0 ≤ sa) (HF : own_FB Z h0 a1 wa sa k W U) :
    MetFree l (⟨"com/example/wayfold/wayfold/engine/FilledBuckets", "fill", "(I)V"⟩ : MethodName) (head1 (Jvm.Cond.code (⟨"com/example/wayfold/wayfold/engine/FilledBuckets", "fill", "(I)V"⟩ : MethodName) prog_18_method_2_code 2 none :: ws) ({ frames := 0, cells := 0, slots := 0, locals := 0 } : Room)) (fun zA zU => zA = #[(.ref a1), (.int (Int32.ofNat a))] ∧ Z.Warmed39 zU.vm ∧ zU.heap = h0) (fun _ _ _ _ _ => True) (fun _ zU zo zT => ∃ zv zL, zo = .returned zv ∧ Q2 Z a1 wa sa k a W U h0 n0 zv zT.heap zL ∧ FrameEnd zU zo zT zL ({ frames := 0, cells := 0, slots := 0, locals := 0 } : Room).cells ({ frames := 0, cells := 0, slots := 0, locals := 0 } : Room).slots) := by
  refine MetFree.of_bodySF (plainFor_of_name pn_2) hisR ?_
  intro p e s m args below meth c s₁ Bd hml0 hP hK
  obtain ⟨rfl, hZ, hh⟩ := hP
  have hx := Bd.exec
  have hby := Bd.bytes
  have hml : c.maxLocals = 2 := hml0
  have hown : s.vm.findClass "com/example/wayfold/wayfold/engine/FilledBuckets" = some m.cls := findClass_of_methodNamed Bd.named
  have hnm := (name_of_methodNamed Bd.named Bd.method).1
  have hlk : meth.locks = false := Bd.notSynchronized
  have X0 : Stand p l e ({ frames := 0, cells := 0, slots := 0, locals := 0 } : Room) s m #[(.ref a1), (.int (Int32.ofNat a))] below meth c s₁ [] 0 0 := Stand.of_body Bd
  have e0 : s₁.heap = h0 := by rw [← hh, Bd.state]; rfl
  have N0 := Fr.nil n0
  refine own_step (p := p) (e := e) (below := below) (U' := s₁.setTop (mkF m 0 #[.val (.ref a1), .val (.int (Int32.ofNat a))] [])) (fun _ zk => castTop (ef_2 m a1 wa sa k a W U) zk) ?_
  obtain ⟨E, Fm, Fw, Fs, AW, AU, n1, n2, n3⟩ := HF
  obtain ⟨z1, z2, z3, z4, z5, z6⟩ := own_sz k hk
  have K_0 : Keep h0 h0 [wa, sa] := Keep.refl _ _
  refine own_step (fun _ zk => XS.aloadN X0.here hx rfl (hb hby d2_0) rfl rfl zk) ?_
  show own_E p e below _ (s₁.setTop (mkF m 1 #[.val (.ref a1), .val (.int (Int32.ofNat a))] [(.ref a1)]))
  obtain ⟨T1, X1, e1, st1⟩ := getF X0 hx hZ hown (host := "") (Or.inl (hw _ (List.mem_of_getElem? (i := 16) rfl))) Via.refl e0 Fw (g := (mkF m 1 #[.val (.ref a1), .val (.int (Int32.ofNat a))] [(.ref a1)])) rfl rfl (hb hby d2_1)
  refine own_step st1 ?_
  show own_E p e below _ (T1.setTop (mkF m 4 #[.val (.ref a1), .val (.int (Int32.ofNat a))] [(.ref wa)]))
  refine own_step (fun _ zk => XS.iloadN X1.here hx rfl (hb hby d2_4) rfl zk) ?_
  show own_E p e below _ (T1.setTop (mkF m 5 #[.val (.ref a1), .val (.int (Int32.ofNat a))] [(.int (Int32.ofNat a)), (.ref wa)]))
  refine own_step (fun _ zk => XS.bipush X1.here hx rfl (hb hby d2_5) zk) ?_
  show own_E p e below _ (T1.setTop (mkF m 7 #[.val (.ref a1), .val (.int (Int32.ofNat a))] [(.int (6 : Int32)), (.int (Int32.ofNat a)), (.ref wa)]))
  refine own_step (fun _ zk => Jvm.Free.XT.iushr X1.here hx rfl (hb hby d2_7) rfl zk) ?_
  show own_E p e below _ (T1.setTop (mkF m 8 #[.val (.ref a1), .val (.int (Int32.ofNat a))] [(.int (Jvm.Free.XT.ushr (Int32.ofNat a) (6 : Int32))), (.ref wa)]))
  rw [show (Jvm.Free.XT.ushr (Int32.ofNat a) (6 : Int32)) = (Int32.ofNat (a / 64)) from own_ushr6 a (by omega)]
  show own_E p e below _ (T1.setTop (mkF m 8 #[.val (.ref a1), .val (.int (Int32.ofNat a))] [(.int (Int32.ofNat (a / 64))), (.ref wa)]))
  refine own_step (fun _ zk => Jvm.Free.XT.dup2 X1.here hx rfl (hb hby d2_8) rfl rfl rfl zk) ?_
  show own_E p e below _ (T1.setTop (mkF m 9 #[.val (.ref a1), .val (.int (Int32.ofNat a))] [(.int (Int32.ofNat (a / 64))), (.ref wa), (.int (Int32.ofNat (a / 64))), (.ref wa)]))
  refine own_step (fun _ zk => own_ldJ X1 hx hZ e1 AW (a / 64) (own_toInt _ (by omega)) (by omega) (g := (mkF m 9 #[.val (.ref a1), .val (.int (Int32.ofNat a))] [(.int (Int32.ofNat (a / 64))), (.ref wa), (.int (Int32.ofNat (a / 64))), (.ref wa)])) rfl rfl (hb hby d2_9) zk) ?_
  show own_E p e below _ (T1.setTop (mkF m 10 #[.val (.ref a1), .val (.int (Int32.ofNat a))] [(.long (W (a / 64))), (.int (Int32.ofNat (a / 64))), (.ref wa)]))
  refine own_step (fun _ zk => Jvm.Free.XT.lconst X1.here hx rfl (hb hby d2_10) zk) ?_
  show own_E p e below _ (T1.setTop (mkF m 11 #[.val (.ref a1), .val (.int (Int32.ofNat a))] [(.long (1 : Int64)), (.long (W (a / 64))), (.int (Int32.ofNat (a / 64))), (.ref wa)]))
  refine own_step (fun _ zk => XS.iloadN X1.here hx rfl (hb hby d2_11) rfl zk) ?_
  show own_E p e below _ (T1.setTop (mkF m 12 #[.val (.ref a1), .val (.int (Int32.ofNat a))] [(.int (Int32.ofNat a)), (.long (1 : Int64)), (.long (W (a / 64))), (.int (Int32.ofNat (a / 64))), (.ref wa)]))
  refine own_step (fun _ zk => Jvm.Free.XT.lshl X1.here hx rfl (hb hby d2_12) rfl zk) ?_
  show own_E p e below _ (T1.setTop (mkF m 13 #[.val (.ref a1), .val (.int (Int32.ofNat a))] [(.long ((1 : Int64) <<< (((Int32.ofNat a)).toInt64 &&& 63))), (.long (W (a / 64))), (.int (Int32.ofNat (a / 64))), (.ref wa)]))
  refine own_step (fun _ zk => Jvm.Free.XT.lor X1.here hx rfl (hb hby d2_13) rfl zk) ?_
  show own_E p e below _ (T1.setTop (mkF m 14 #[.val (.ref a1), .val (.int (Int32.ofNat a))] [(.long ((W (a / 64)) ||| ((1 : Int64) <<< (((Int32.ofNat a)).toInt64 &&& 63)))), (.int (Int32.ofNat (a / 64))), (.ref wa)]))
  obtain ⟨T2, h2, X2, e2, W2, st2⟩ := own_stJ X1 hx hZ e1 AW (a / 64) (own_toInt _ (by omega)) (by omega) (g := (mkF m 14 #[.val (.ref a1), .val (.int (Int32.ofNat a))] [(.long ((W (a / 64)) ||| ((1 : Int64) <<< (((Int32.ofNat a)).toInt64 &&& 63)))), (.int (Int32.ofNat (a / 64))), (.ref wa)])) rfl rfl (hb hby d2_14)
  have N2 := Fr.snoc X2 N0 gw
  have E_2 := Exa.wr W2 E
  have Fm_2 := Fld.other W2 Fm (Or.inl n1)
  have Fw_2 := Fld.other W2 Fw (Or.inl n1)
  have Fs_2 := Fld.other W2 Fs (Or.inl n1)
  have AW_2 := own_A_set W2 AW
  have AU_2 := own_A_other W2 (Ne.symm n3) AU
  have K_2 := Keep.wr K_0 W2 (Or.inl (List.mem_of_getElem? (i := 0) rfl))
  replace AW_2 := own_A_eq (f' := (fun j => .long ((own_updL W (a / 64) (W (a / 64) ||| ((1 : Int64) <<< ((Int32.ofNat a).toInt64 &&& 63)))) j))) AW_2 (own_updL_v _ _ _ _)
  refine own_step st2 ?_
  show own_E p e below _ (T2.setTop (mkF m 15 #[.val (.ref a1), .val (.int (Int32.ofNat a))] []))
  refine own_step (fun _ zk => XS.aloadN X2.here hx rfl (hb hby d2_15) rfl rfl zk) ?_
  show own_E p e below _ (T2.setTop (mkF m 16 #[.val (.ref a1), .val (.int (Int32.ofNat a))] [(.ref a1)]))
  obtain ⟨T3, X3, e3, st3⟩ := getF X2 hx hZ hown (host := "") (Or.inl (hw _ (List.mem_of_getElem? (i := 18) rfl))) Via.refl e2 Fs_2 (g := (mkF m 16 #[.val (.ref a1), .val (.int (Int32.ofNat a))] [(.ref a1)])) rfl rfl (hb hby d2_16)
  refine own_step st3 ?_
  show own_E p e below _ (T3.setTop (mkF m 19 #[.val (.ref a1), .val (.int (Int32.ofNat a))] [(.ref sa)]))
  refine own_step (fun _ zk => XS.iloadN X3.here hx rfl (hb hby d2_19) rfl zk) ?_
  show own_E p e below _ (T3.setTop (mkF m 20 #[.val (.ref a1), .val (.int (Int32.ofNat a))] [(.int (Int32.ofNat a)), (.ref sa)]))
  refine own_step (fun _ zk => XS.bipush X3.here hx rfl (hb hby d2_20) zk) ?_
  show own_E p e below _ (T3.setTop (mkF m 22 #[.val (.ref a1), .val (.int (Int32.ofNat a))] [(.int (12 : Int32)), (.int (Int32.ofNat a)), (.ref sa)]))
  refine own_step (fun _ zk => Jvm.Free.XT.iushr X3.here hx rfl (hb hby d2_22) rfl zk) ?_
  show own_E p e below _ (T3.setTop (mkF m 23 #[.val (.ref a1), .val (.int (Int32.ofNat a))] [(.int (Jvm.Free.XT.ushr (Int32.ofNat a) (12 : Int32))), (.ref sa)]))
  rw [show (Jvm.Free.XT.ushr (Int32.ofNat a) (12 : Int32)) = (Int32.ofNat (a / 4096)) from own_ushr12 a (by omega)]
  show own_E p e below _ (T3.setTop (mkF m 23 #[.val (.ref a1), .val (.int (Int32.ofNat a))] [(.int (Int32.ofNat (a / 4096))), (.ref sa)]))
  refine own_step (fun _ zk => Jvm.Free.XT.dup2 X3.here hx rfl (hb hby d2_23) rfl rfl rfl zk) ?_
  show own_E p e below _ (T3.setTop (mkF m 24 #[.val (.ref a1), .val (.int (Int32.ofNat a))] [(.int (Int32.ofNat (a / 4096))), (.ref sa), (.int (Int32.ofNat (a / 4096))), (.ref sa)]))
  refine own_step (fun _ zk => own_ldJ X3 hx hZ e3 AU_2 (a / 4096) (own_toInt _ (by omega)) (by omega) (g := (mkF m 24 #[.val (.ref a1), .val (.int (Int32.ofNat a))] [(.int (Int32.ofNat (a / 4096))), (.ref sa), (.int (Int32.ofNat (a / 4096))), (.ref sa)])) rfl rfl (hb hby d2_24) zk) ?_
  show own_E p e below _ (T3.setTop (mkF m 25 #[.val (.ref a1), .val (.int (Int32.ofNat a))] [(.long (U (a / 4096))), (.int (Int32.ofNat (a / 4096))), (.ref sa)]))
  refine own_step (fun _ zk => Jvm.Free.XT.lconst X3.here hx rfl (hb hby d2_25) zk) ?_
  show own_E p e below _ (T3.setTop (mkF m 26 #[.val (.ref a1), .val (.int (Int32.ofNat a))] [(.long (1 : Int64)), (.long (U (a / 4096))), (.int (Int32.ofNat (a / 4096))), (.ref sa)]))
  refine own_step (fun _ zk => XS.iloadN X3.here hx rfl (hb hby d2_26) rfl zk) ?_
  show own_E p e below _ (T3.setTop (mkF m 27 #[.val (.ref a1), .val (.int (Int32.ofNat a))] [(.int (Int32.ofNat a)), (.long (1 : Int64)), (.long (U (a / 4096))), (.int (Int32.ofNat (a / 4096))), (.ref sa)]))
  refine own_step (fun _ zk => XS.bipush X3.here hx rfl (hb hby d2_27) zk) ?_
  show own_E p e below _ (T3.setTop (mkF m 29 #[.val (.ref a1), .val (.int (Int32.ofNat a))] [(.int (6 : Int32)), (.int (Int32.ofNat a)), (.long (1 : Int64)), (.long (U (a / 4096))), (.int (Int32.ofNat (a / 4096))), (.ref sa)]))
  refine own_step (fun _ zk => Jvm.Free.XT.iushr X3.here hx rfl (hb hby d2_29) rfl zk) ?_
  show own_E p e below _ (T3.setTop (mkF m 30 #[.val (.ref a1), .val (.int (Int32.ofNat a))] [(.int (Jvm.Free.XT.ushr (Int32.ofNat a) (6 : Int32))), (.long (1 : Int64)), (.long (U (a / 4096))), (.int (Int32.ofNat (a / 4096))), (.ref sa)]))
  rw [show (Jvm.Free.XT.ushr (Int32.ofNat a) (6 : Int32)) = (Int32.ofNat (a / 64)) from own_ushr6 a (by omega)]
  show own_E p e below _ (T3.setTop (mkF m 30 #[.val (.ref a1), .val (.int (Int32.ofNat a))] [(.int (Int32.ofNat (a / 64))), (.long (1 : Int64)), (.long (U (a / 4096))), (.int (Int32.ofNat (a / 4096))), (.ref sa)]))
  refine own_step (fun _ zk => Jvm.Free.XT.lshl X3.here hx rfl (hb hby d2_30) rfl zk) ?_
  show own_E p e below _ (T3.setTop (mkF m 31 #[.val (.ref a1), .val (.int (Int32.ofNat a))] [(.long ((1 : Int64) <<< (((Int32.ofNat (a / 64))).toInt64 &&& 63))), (.long (U (a / 4096))), (.int (Int32.ofNat (a / 4096))), (.ref sa)]))
  refine own_step (fun _ zk => Jvm.Free.XT.lor X3.here hx rfl (hb hby d2_31) rfl zk) ?_
  show own_E p e below _ (T3.setTop (mkF m 32 #[.val (.ref a1), .val (.int (Int32.ofNat a))] [(.long ((U (a / 4096)) ||| ((1 : Int64) <<< (((Int32.ofNat (a / 64))).toInt64 &&& 63)))), (.int (Int32.ofNat (a / 4096))), (.ref sa)]))
  obtain ⟨T4, h4, X4, e4, W4, st4⟩ := own_stJ X3 hx hZ e3 AU_2 (a / 4096) (own_toInt _ (by omega)) (by omega) (g := (mkF m 32 #[.val (.ref a1), .val (.int (Int32.ofNat a))] [(.long ((U (a / 4096)) ||| ((1 : Int64) <<< (((Int32.ofNat (a / 64))).toInt64 &&& 63)))), (.int (Int32.ofNat (a / 4096))), (.ref sa)])) rfl rfl (hb hby d2_32)
  have N4 := Fr.snoc X4 N2 gs
  have E_4 := Exa.wr W4 E_2
  have Fm_4 := Fld.other W4 Fm_2 (Or.inl n2)
  have Fw_4 := Fld.other W4 Fw_2 (Or.inl n2)
  have Fs_4 := Fld.other W4 Fs_2 (Or.inl n2)
  have AW_4 := own_A_other W4 n3 AW_2
  have AU_4 := own_A_set W4 AU_2
  have K_4 := Keep.wr K_2 W4 (Or.inl (List.mem_of_getElem? (i := 1) rfl))
  replace AU_4 := own_A_eq (f' := (fun j => .long ((own_updL U (a / 4096) (U (a / 4096) ||| ((1 : Int64) <<< ((Int32.ofNat (a / 64)).toInt64 &&& 63)))) j))) AU_4 (own_updL_v _ _ _ _)
  refine own_step st4 ?_
  show own_E p e below _ (T4.setTop (mkF m 33 #[.val (.ref a1), .val (.int (Int32.ofNat a))] []))
  refine own_ret X4 hlk (v := none) (fun _ => rfl) ?_ (by decide) (by decide) (fun fs hr => X4.returnOut hx Bd.returns (hb hby d2_33) hr)
  show Q2 Z a1 wa sa k a W U h0 n0 _ T4.heap _
  rw [e4]
  exact ⟨rfl, N4, K_4, ⟨E_4, Fm_4, Fw_4, Fs_4, AW_4, AU_4, n1, n2, n3⟩⟩
theorem d3_0 : decode prog_18_method_7_code 0 = .ok (.iload_n 1, 1) := by decide +kernel
theorem d3_1 : decode prog_18_method_7_code 1 = .ok (.iconst 1, 1) := by decide +kernel
theorem d3_2 : decode prog_18_method_7_code 2 = .ok (.iadd, 1) := by decide +kernel
theorem d3_3 : decode prog_18_method_7_code 3 = .ok (.istore_n 2, 1) := by decide +kernel
theorem d3_4 : decode prog_18_method_7_code 4 = .ok (.iload_n 2, 1) := by decide +kernel
theorem d3_5 : decode prog_18_method_7_code 5 = .ok (.bipush 6, 2) := by decide +kernel
theorem d3_7 : decode prog_18_method_7_code 7 = .ok (.iushr, 1) := by decide +kernel
theorem d3_8 : decode prog_18_method_7_code 8 = .ok (.istore_n 3, 1) := by decide +kernel
theorem d3_9 : decode prog_18_method_7_code 9 = .ok (.lconst 0, 1) := by decide +kernel
theorem d3_10 : decode prog_18_method_7_code 10 = .ok (.lstore 4, 2) := by decide +kernel
theorem d3_12 : decode prog_18_method_7_code 12 = .ok (.iload_n 3, 1) := by decide +kernel
theorem d3_13 : decode prog_18_method_7_code 13 = .ok (.aload_n 0, 1) := by decide +kernel
theorem d3_14 : decode prog_18_method_7_code 14 = .ok (.getfield 23, 3) := by decide +kernel
theorem d3_17 : decode prog_18_method_7_code 17 = .ok (.arraylength, 1) := by decide +kernel
theorem d3_18 : decode prog_18_method_7_code 18 = .ok (.if_icmp .ge 17, 3) := by decide +kernel
theorem d3_21 : decode prog_18_method_7_code 21 = .ok (.aload_n 0, 1) := by decide +kernel
theorem d3_22 : decode prog_18_method_7_code 22 = .ok (.getfield 23, 3) := by decide +kernel
theorem d3_25 : decode prog_18_method_7_code 25 = .ok (.iload_n 3, 1) := by decide +kernel
theorem d3_26 : decode prog_18_method_7_code 26 = .ok (.laload, 1) := by decide +kernel
theorem d3_27 : decode prog_18_method_7_code 27 = .ok (.ldc2_w 26, 3) := by decide +kernel
theorem d3_30 : decode prog_18_method_7_code 30 = .ok (.iload_n 2, 1) := by decide +kernel
theorem d3_31 : decode prog_18_method_7_code 31 = .ok (.lshl, 1) := by decide +kernel
theorem d3_32 : decode prog_18_method_7_code 32 = .ok (.land, 1) := by decide +kernel
theorem d3_33 : decode prog_18_method_7_code 33 = .ok (.lstore 4, 2) := by decide +kernel
theorem d3_35 : decode prog_18_method_7_code 35 = .ok (.lload 4, 2) := by decide +kernel
theorem d3_37 : decode prog_18_method_7_code 37 = .ok (.lconst 0, 1) := by decide +kernel
theorem d3_38 : decode prog_18_method_7_code 38 = .ok (.lcmp, 1) := by decide +kernel
theorem d3_39 : decode prog_18_method_7_code 39 = .ok (.ifCond .ne 28, 3) := by decide +kernel
theorem d3_42 : decode prog_18_method_7_code 42 = .ok (.iload_n 3, 1) := by decide +kernel
theorem d3_43 : decode prog_18_method_7_code 43 = .ok (.iconst 1, 1) := by decide +kernel
theorem d3_44 : decode prog_18_method_7_code 44 = .ok (.iadd, 1) := by decide +kernel
theorem d3_45 : decode prog_18_method_7_code 45 = .ok (.aload_n 0, 1) := by decide +kernel
theorem d3_46 : decode prog_18_method_7_code 46 = .ok (.getfield 23, 3) := by decide +kernel
theorem d3_49 : decode prog_18_method_7_code 49 = .ok (.arraylength, 1) := by decide +kernel
theorem d3_50 : decode prog_18_method_7_code 50 = .ok (.if_icmp .ge 17, 3) := by decide +kernel
theorem d3_53 : decode prog_18_method_7_code 53 = .ok (.iinc 3 1, 3) := by decide +kernel
theorem d3_56 : decode prog_18_method_7_code 56 = .ok (.aload_n 0, 1) := by decide +kernel
theorem d3_57 : decode prog_18_method_7_code 57 = .ok (.getfield 23, 3) := by decide +kernel
theorem d3_60 : decode prog_18_method_7_code 60 = .ok (.iload_n 3, 1) := by decide +kernel
theorem d3_61 : decode prog_18_method_7_code 61 = .ok (.laload, 1) := by decide +kernel
theorem d3_62 : decode prog_18_method_7_code 62 = .ok (.lstore 4, 2) := by decide +kernel
theorem d3_64 : decode prog_18_method_7_code 64 = .ok (.goto (-29), 3) := by decide +kernel
theorem d3_67 : decode prog_18_method_7_code 67 = .ok (.lload 4, 2) := by decide +kernel
theorem d3_69 : decode prog_18_method_7_code 69 = .ok (.lconst 0, 1) := by decide +kernel
theorem d3_70 : decode prog_18_method_7_code 70 = .ok (.lcmp, 1) := by decide +kernel
theorem d3_71 : decode prog_18_method_7_code 71 = .ok (.ifCond .ne 7, 3) := by decide +kernel
theorem d3_74 : decode prog_18_method_7_code 74 = .ok (.iconst (-1), 1) := by decide +kernel
theorem d3_75 : decode prog_18_method_7_code 75 = .ok (.goto 13, 3) := by decide +kernel
theorem d3_78 : decode prog_18_method_7_code 78 = .ok (.iload_n 3, 1) := by decide +kernel
theorem d3_79 : decode prog_18_method_7_code 79 = .ok (.bipush 6, 2) := by decide +kernel
theorem d3_81 : decode prog_18_method_7_code 81 = .ok (.ishl, 1) := by decide +kernel
theorem d3_82 : decode prog_18_method_7_code 82 = .ok (.lload 4, 2) := by decide +kernel
theorem d3_84 : decode prog_18_method_7_code 84 = .ok (.invokestatic 48, 3) := by decide +kernel
theorem d3_87 : decode prog_18_method_7_code 87 = .ok (.iadd, 1) := by decide +kernel
theorem d3_88 : decode prog_18_method_7_code 88 = .ok (.ireturn, 1) := by decide +kernel
theorem pd_3_0 : parseMethodDescriptor "(J)I" = some ⟨[.long], some .int⟩ := by decide +kernel
theorem pn_3 : plainName "com/example/wayfold/wayfold/engine/FilledBuckets" = true := by first | (simp [plainName, overriddenIn]; done) | decide +kernel
theorem ef_3 (m : MethodId) (a1 : Addr) (wa sa : Addr) (k w : Nat) (W U : Nat → Int64) (S : Nat → Bool) : entryFrame m #[(.ref a1), (.int (Int32.ofNat w))] 6 = mkF m 0 #[.val (.ref a1), .val (.int (Int32.ofNat w)), .unset, .unset, .unset, .unset] [] := by first | (simp [entryFrame, mkF, argsToLocals, Value.category]; done) | rfl
def Q3 (Z : State) (a1 : Addr) (wa sa : Addr) (k w : Nat) (W U : Nat → Int64) (S : Nat → Bool) (h0 : Heap) (n0 : Nat) (v : Option Value) (h : Heap) (L : List Loc) : Prop := (∃ r : Int32, v = some (.int r) ∧ own_wfirst S w r) ∧ Fr n0 L ∧ h = h0
set_option maxRecDepth 65536 in
set_option maxHeartbeats 40000000 in
theorem rm3 (l : Launch) (Z : State) (a0 : Array Value) (hw : ∀ d ∈ tables_1, d.before a0 Z = true) (ws : List Jvm.Cond) (a1 : Addr) (wa sa : Addr) (k w : Nat) (W U : Nat → Int64) (S : Nat → Bool) (h0 : Heap) (n0 : Nat) (Z0 : n0 ≤ h0.size) (hwb : w < 1000) (hk : k < 16) (HF : own_FB Z h0 a1 wa sa k W U) (I : own_inv S (own_NW k) (own_NS k) W U) :
    MetFree l (⟨"com/example/wayfold/wayfold/engine/FilledBuckets", "firstFilledWordAfter", "(I)I"⟩ : MethodName) (head1 (Jvm.Cond.code (⟨"com/example/wayfold/wayfold/engine/FilledBuckets", "firstFilledWordAfter", "(I)I"⟩ : MethodName) prog_18_method_7_code 6 (some .int) :: ws) ({ frames := 2, cells := 0, slots := 0, locals := 29 } : Room)) (fun zA zU => zA = #[(.ref a1), (.int (Int32.ofNat w))] ∧ Z.Warmed39 zU.vm ∧ zU.heap = h0) (fun _ _ _ _ _ => True) (fun _ zU zo zT => ∃ zv zL, zo = .returned zv ∧ Q3 Z a1 wa sa k w W U S h0 n0 zv zT.heap zL ∧ FrameEnd zU zo zT zL ({ frames := 2, cells := 0, slots := 0, locals := 29 } : Room).cells ({ frames := 2, cells := 0, slots := 0, locals := 29 } : Room).slots) := by
  refine MetFree.of_bodySF (plainFor_of_name pn_3) hisR ?_
  intro p e s m args below meth c s₁ Bd hml0 hP hK
  obtain ⟨rfl, hZ, hh⟩ := hP
  have hx := Bd.exec
  have hby := Bd.bytes
  have hml : c.maxLocals = 6 := hml0
  have hown : s.vm.findClass "com/example/wayfold/wayfold/engine/FilledBuckets" = some m.cls := findClass_of_methodNamed Bd.named
  have hnm := (name_of_methodNamed Bd.named Bd.method).1
  have hlk : meth.locks = false := Bd.notSynchronized
  have X0 : Stand p l e ({ frames := 2, cells := 0, slots := 0, locals := 29 } : Room) s m #[(.ref a1), (.int (Int32.ofNat w))] below meth c s₁ [] 0 0 := Stand.of_body Bd
  have e0 : s₁.heap = h0 := by rw [← hh, Bd.state]; rfl
  have N0 := Fr.nil n0
  refine own_step (p := p) (e := e) (below := below) (U' := s₁.setTop (mkF m 0 #[.val (.ref a1), .val (.int (Int32.ofNat w)), .unset, .unset, .unset, .unset] [])) (fun _ zk => castTop (ef_3 m a1 wa sa k w W U S) zk) ?_
  obtain ⟨E, Fm, Fw, Fs, AW, AU, n1, n2, n3⟩ := HF
  obtain ⟨z1, z2, z3, z4, z5, z6⟩ := own_sz k hk
  have loop : ∀ (r g : Nat) (d : Int64) (T : State) (locs : List Loc), own_NS k ≤ g + 1 + r → own_wst S (own_NS k) w g d → w < 64 * (g + 1) → g < 1000 → Stand p l e ({ frames := 2, cells := 0, slots := 0, locals := 29 } : Room) s m #[(.ref a1), (.int (Int32.ofNat w))] below meth c T locs 0 0 → T.heap = h0 → Fr n0 locs → own_E p e below (fun (zT : State) (zo : Outcome) => ∃ zv zL, zo = .returned zv ∧ Q3 Z a1 wa sa k w W U S h0 n0 zv zT.heap zL ∧ FrameEnd s zo zT zL ({ frames := 2, cells := 0, slots := 0, locals := 29 } : Room).cells ({ frames := 2, cells := 0, slots := 0, locals := 29 } : Room).slots) (T.setTop (mkF m 35 #[.val (.ref a1), .val (.int (Int32.ofNat w)), .val (.int (Int32.ofNat (w + 1))), .val (.int (Int32.ofNat g)), .val (.long d), .second] [])) := by
    intro r
    induction r with
    | zero =>
      intro g d T locs hr H hwg hg X eT N
      refine own_step (fun _ zk => Jvm.Free.XT.lload X.here hx rfl (hb hby d3_35) rfl zk) ?_
      show own_E p e below _ (T.setTop (mkF m 37 #[.val (.ref a1), .val (.int (Int32.ofNat w)), .val (.int (Int32.ofNat (w + 1))), .val (.int (Int32.ofNat g)), .val (.long d), .second] [(.long d)]))
      refine own_step (fun _ zk => Jvm.Free.XT.lconst X.here hx rfl (hb hby d3_37) zk) ?_
      show own_E p e below _ (T.setTop (mkF m 38 #[.val (.ref a1), .val (.int (Int32.ofNat w)), .val (.int (Int32.ofNat (w + 1))), .val (.int (Int32.ofNat g)), .val (.long d), .second] [(.long (0 : Int64)), (.long d)]))
      refine own_step (fun _ zk => Jvm.Free.XT.lcmp X.here hx rfl (hb hby d3_38) rfl zk) ?_
      show own_E p e below _ (T.setTop (mkF m 39 #[.val (.ref a1), .val (.int (Int32.ofNat w)), .val (.int (Int32.ofNat (w + 1))), .val (.int (Int32.ofNat g)), .val (.long d), .second] [(.int (Jvm.Free.XT.cmpL d (0 : Int64)))]))
      by_cases hc39 : d = (0 : Int64)
      · skip
        refine own_step (fun _ zk => XS.ifNo X.here hx rfl (hb hby d3_39) rfl (own_lc_ne_f hc39) zk) ?_
        show own_E p e below _ (T.setTop (mkF m 42 #[.val (.ref a1), .val (.int (Int32.ofNat w)), .val (.int (Int32.ofNat (w + 1))), .val (.int (Int32.ofNat g)), .val (.long d), .second] []))
        refine own_step (fun _ zk => XS.iloadN X.here hx rfl (hb hby d3_42) rfl zk) ?_
        show own_E p e below _ (T.setTop (mkF m 43 #[.val (.ref a1), .val (.int (Int32.ofNat w)), .val (.int (Int32.ofNat (w + 1))), .val (.int (Int32.ofNat g)), .val (.long d), .second] [(.int (Int32.ofNat g))]))
        refine own_step (fun _ zk => XS.iconst X.here hx rfl (hb hby d3_43) zk) ?_
        show own_E p e below _ (T.setTop (mkF m 44 #[.val (.ref a1), .val (.int (Int32.ofNat w)), .val (.int (Int32.ofNat (w + 1))), .val (.int (Int32.ofNat g)), .val (.long d), .second] [(.int (1 : Int32)), (.int (Int32.ofNat g))]))
        refine own_step (fun _ zk => XS.iadd X.here hx rfl (hb hby d3_44) rfl zk) ?_
        show own_E p e below _ (T.setTop (mkF m 45 #[.val (.ref a1), .val (.int (Int32.ofNat w)), .val (.int (Int32.ofNat (w + 1))), .val (.int (Int32.ofNat g)), .val (.long d), .second] [(.int ((Int32.ofNat g) + (1 : Int32)))]))
        rw [show ((Int32.ofNat g) + (1 : Int32)) = (Int32.ofNat (g + 1)) from own_succ g]
        show own_E p e below _ (T.setTop (mkF m 45 #[.val (.ref a1), .val (.int (Int32.ofNat w)), .val (.int (Int32.ofNat (w + 1))), .val (.int (Int32.ofNat g)), .val (.long d), .second] [(.int (Int32.ofNat (g + 1)))]))
        refine own_step (fun _ zk => XS.aloadN X.here hx rfl (hb hby d3_45) rfl rfl zk) ?_
        show own_E p e below _ (T.setTop (mkF m 46 #[.val (.ref a1), .val (.int (Int32.ofNat w)), .val (.int (Int32.ofNat (w + 1))), .val (.int (Int32.ofNat g)), .val (.long d), .second] [(.ref a1), (.int (Int32.ofNat (g + 1)))]))
        obtain ⟨T1, X1, e1, st1⟩ := getF X hx hZ hown (host := "") (Or.inl (hw _ (List.mem_of_getElem? (i := 18) rfl))) Via.refl eT Fs (g := (mkF m 46 #[.val (.ref a1), .val (.int (Int32.ofNat w)), .val (.int (Int32.ofNat (w + 1))), .val (.int (Int32.ofNat g)), .val (.long d), .second] [(.ref a1), (.int (Int32.ofNat (g + 1)))])) rfl rfl (hb hby d3_46)
        refine own_step st1 ?_
        show own_E p e below _ (T1.setTop (mkF m 49 #[.val (.ref a1), .val (.int (Int32.ofNat w)), .val (.int (Int32.ofNat (w + 1))), .val (.int (Int32.ofNat g)), .val (.long d), .second] [(.ref sa), (.int (Int32.ofNat (g + 1)))]))
        refine own_step (fun _ zk => own_len X1 hx hZ e1 AU (g := (mkF m 49 #[.val (.ref a1), .val (.int (Int32.ofNat w)), .val (.int (Int32.ofNat (w + 1))), .val (.int (Int32.ofNat g)), .val (.long d), .second] [(.ref sa), (.int (Int32.ofNat (g + 1)))])) rfl rfl (hb hby d3_49) zk) ?_
        show own_E p e below _ (T1.setTop (mkF m 50 #[.val (.ref a1), .val (.int (Int32.ofNat w)), .val (.int (Int32.ofNat (w + 1))), .val (.int (Int32.ofNat g)), .val (.long d), .second] [(.int (Int32.ofNat (own_NS k))), (.int (Int32.ofNat (g + 1)))]))
        have hc50 : ¬ (Int32.ofNat (g + 1)) < (Int32.ofNat (own_NS k)) := by rw [own_lt _ _ (by omega) (by omega)]; omega
        refine own_step (fun _ zk => XS.icmpYes X1.here hx rfl (pc0 := 50) (pc' := 67) rfl (hb hby d3_50) rfl (flt hc50).2.1 (by decide) (by decide) zk) ?_
        show own_E p e below _ (T1.setTop (mkF m 67 #[.val (.ref a1), .val (.int (Int32.ofNat w)), .val (.int (Int32.ofNat (w + 1))), .val (.int (Int32.ofNat g)), .val (.long d), .second] []))
        refine own_step (fun _ zk => Jvm.Free.XT.lload X1.here hx rfl (hb hby d3_67) rfl zk) ?_
        show own_E p e below _ (T1.setTop (mkF m 69 #[.val (.ref a1), .val (.int (Int32.ofNat w)), .val (.int (Int32.ofNat (w + 1))), .val (.int (Int32.ofNat g)), .val (.long d), .second] [(.long d)]))
        refine own_step (fun _ zk => Jvm.Free.XT.lconst X1.here hx rfl (hb hby d3_69) zk) ?_
        show own_E p e below _ (T1.setTop (mkF m 70 #[.val (.ref a1), .val (.int (Int32.ofNat w)), .val (.int (Int32.ofNat (w + 1))), .val (.int (Int32.ofNat g)), .val (.long d), .second] [(.long (0 : Int64)), (.long d)]))
        refine own_step (fun _ zk => Jvm.Free.XT.lcmp X1.here hx rfl (hb hby d3_70) rfl zk) ?_
        show own_E p e below _ (T1.setTop (mkF m 71 #[.val (.ref a1), .val (.int (Int32.ofNat w)), .val (.int (Int32.ofNat (w + 1))), .val (.int (Int32.ofNat g)), .val (.long d), .second] [(.int (Jvm.Free.XT.cmpL d (0 : Int64)))]))
        refine own_step (fun _ zk => XS.ifNo X1.here hx rfl (hb hby d3_71) rfl (own_lc_ne_f hc39) zk) ?_
        show own_E p e below _ (T1.setTop (mkF m 74 #[.val (.ref a1), .val (.int (Int32.ofNat w)), .val (.int (Int32.ofNat (w + 1))), .val (.int (Int32.ofNat g)), .val (.long d), .second] []))
        refine own_step (fun _ zk => XS.iconst X1.here hx rfl (hb hby d3_74) zk) ?_
        show own_E p e below _ (T1.setTop (mkF m 75 #[.val (.ref a1), .val (.int (Int32.ofNat w)), .val (.int (Int32.ofNat (w + 1))), .val (.int (Int32.ofNat g)), .val (.long d), .second] [(.int (-1 : Int32))]))
        refine own_step (fun _ zk => XS.goto X1.here hx rfl (pc0 := 75) (pc' := 88) rfl (hb hby d3_75) (by decide) (by decide) zk) ?_
        show own_E p e below _ (T1.setTop (mkF m 88 #[.val (.ref a1), .val (.int (Int32.ofNat w)), .val (.int (Int32.ofNat (w + 1))), .val (.int (Int32.ofNat g)), .val (.long d), .second] [(.int (-1 : Int32))]))
        refine own_ret X1 hlk (v := some (.int (-1 : Int32))) (fun h => by rw [Bd.returns] at h; cases h) ?_ (by decide) (by decide) (fun fs hr => retI X1 hx Bd.returns (hb hby d3_88) hr)
        show Q3 Z a1 wa sa k w W U S h0 n0 _ T1.heap _
        rw [e1]
        exact ⟨⟨_, rfl, (own_wst_none I z3 H hc39 (by rw [own_lt _ _ (by omega) (by omega)] at hc50; exact hc50))⟩, N, rfl⟩
      · skip
        refine own_step (fun _ zk => XS.ifYes X.here hx rfl (pc0 := 39) (pc' := 67) rfl (hb hby d3_39) rfl (own_lc_ne_t hc39) (by decide) (by decide) zk) ?_
        show own_E p e below _ (T.setTop (mkF m 67 #[.val (.ref a1), .val (.int (Int32.ofNat w)), .val (.int (Int32.ofNat (w + 1))), .val (.int (Int32.ofNat g)), .val (.long d), .second] []))
        refine own_step (fun _ zk => Jvm.Free.XT.lload X.here hx rfl (hb hby d3_67) rfl zk) ?_
        show own_E p e below _ (T.setTop (mkF m 69 #[.val (.ref a1), .val (.int (Int32.ofNat w)), .val (.int (Int32.ofNat (w + 1))), .val (.int (Int32.ofNat g)), .val (.long d), .second] [(.long d)]))
        refine own_step (fun _ zk => Jvm.Free.XT.lconst X.here hx rfl (hb hby d3_69) zk) ?_
        show own_E p e below _ (T.setTop (mkF m 70 #[.val (.ref a1), .val (.int (Int32.ofNat w)), .val (.int (Int32.ofNat (w + 1))), .val (.int (Int32.ofNat g)), .val (.long d), .second] [(.long (0 : Int64)), (.long d)]))
        refine own_step (fun _ zk => Jvm.Free.XT.lcmp X.here hx rfl (hb hby d3_70) rfl zk) ?_
        show own_E p e below _ (T.setTop (mkF m 71 #[.val (.ref a1), .val (.int (Int32.ofNat w)), .val (.int (Int32.ofNat (w + 1))), .val (.int (Int32.ofNat g)), .val (.long d), .second] [(.int (Jvm.Free.XT.cmpL d (0 : Int64)))]))
        refine own_step (fun _ zk => XS.ifYes X.here hx rfl (pc0 := 71) (pc' := 78) rfl (hb hby d3_71) rfl (own_lc_ne_t hc39) (by decide) (by decide) zk) ?_
        show own_E p e below _ (T.setTop (mkF m 78 #[.val (.ref a1), .val (.int (Int32.ofNat w)), .val (.int (Int32.ofNat (w + 1))), .val (.int (Int32.ofNat g)), .val (.long d), .second] []))
        refine own_step (fun _ zk => XS.iloadN X.here hx rfl (hb hby d3_78) rfl zk) ?_
        show own_E p e below _ (T.setTop (mkF m 79 #[.val (.ref a1), .val (.int (Int32.ofNat w)), .val (.int (Int32.ofNat (w + 1))), .val (.int (Int32.ofNat g)), .val (.long d), .second] [(.int (Int32.ofNat g))]))
        refine own_step (fun _ zk => XS.bipush X.here hx rfl (hb hby d3_79) zk) ?_
        show own_E p e below _ (T.setTop (mkF m 81 #[.val (.ref a1), .val (.int (Int32.ofNat w)), .val (.int (Int32.ofNat (w + 1))), .val (.int (Int32.ofNat g)), .val (.long d), .second] [(.int (6 : Int32)), (.int (Int32.ofNat g))]))
        refine own_step (fun _ zk => Jvm.Free.XT.ishl X.here hx rfl (hb hby d3_81) rfl zk) ?_
        show own_E p e below _ (T.setTop (mkF m 82 #[.val (.ref a1), .val (.int (Int32.ofNat w)), .val (.int (Int32.ofNat (w + 1))), .val (.int (Int32.ofNat g)), .val (.long d), .second] [(.int ((Int32.ofNat g) <<< ((6 : Int32) &&& 31)))]))
        refine own_step (fun _ zk => Jvm.Free.XT.lload X.here hx rfl (hb hby d3_82) rfl zk) ?_
        show own_E p e below _ (T.setTop (mkF m 84 #[.val (.ref a1), .val (.int (Int32.ofNat w)), .val (.int (Int32.ofNat (w + 1))), .val (.int (Int32.ofNat g)), .val (.long d), .second] [(.long d), (.int ((Int32.ofNat g) <<< ((6 : Int32) &&& 31)))]))
        obtain ⟨_, _, ⟨T2, zL2, zK2, zN2⟩, -, X2, ⟨⟨rfl, e2'⟩, zl2, zy2, zz2⟩, st2⟩ := Jvm.LawKit.callS X hx (y := (⟨"java/lang/Long", "numberOfTrailingZeros", "(J)I"⟩ : MethodName)) hown (mvT hZ (hw _ (List.mem_of_getElem? (i := 35) rfl))) (mvT hZ (hw _ (List.mem_of_getElem? (i := 36) rfl))) (mvT hZ (hw _ (List.mem_of_getElem? (i := 37) rfl))) (mvT hZ (hw _ (List.mem_of_getElem? (i := 38) rfl))) (by decide) (W := 1) (Jvm.Free.JP.Long_numberOfTrailingZeros_J.pays d (own_tab_ntz hZ hw) (by decide) (by decide)) (g := (mkF m 84 #[.val (.ref a1), .val (.int (Int32.ofNat w)), .val (.int (Int32.ofNat (w + 1))), .val (.int (Int32.ofNat g)), .val (.long d), .second] [(.long d), (.int ((Int32.ofNat g) <<< ((6 : Int32) &&& 31)))])) rfl (by rw [hml]; rfl) (argsL := [(.long d)]) (rest := [(.int ((Int32.ofNat g) <<< ((6 : Int32) &&& 31)))]) (lenOf pd_3_0 rfl) rfl (by show 2 * 0 + _ ≤ _; exact Nat.le_of_eq rfl) (hb hby d3_84) (fun _ _ => ⟨(by decide : 0 + 0 ≤ _), (by decide : 0 + 0 ≤ _), rfl, trivial⟩)
        dsimp only [Pt.U, Pt.locs, Pt.cells, Pt.slots] at X2 zl2 zy2 zz2 st2 e2'
        rw [show zK2 = 0 from zy2, show zN2 = 0 from zz2] at X2
        have e2 : T2.heap = h0 := e2'.trans eT
        have N2 : Fr n0 zL2 := by rw [zl2]; exact Fr.app N (Fr.nil n0)
        refine own_step (st2) ?_
        show own_E p e below _ (T2.setTop (mkF m 87 #[.val (.ref a1), .val (.int (Int32.ofNat w)), .val (.int (Int32.ofNat (w + 1))), .val (.int (Int32.ofNat g)), .val (.long d), .second] [(.int (Jvm.Free.JP.Long_numberOfTrailingZeros_J.val d)), (.int ((Int32.ofNat g) <<< ((6 : Int32) &&& 31)))]))
        refine own_step (fun _ zk => XS.iadd X2.here hx rfl (hb hby d3_87) rfl zk) ?_
        show own_E p e below _ (T2.setTop (mkF m 88 #[.val (.ref a1), .val (.int (Int32.ofNat w)), .val (.int (Int32.ofNat (w + 1))), .val (.int (Int32.ofNat g)), .val (.long d), .second] [(.int (((Int32.ofNat g) <<< ((6 : Int32) &&& 31)) + (Jvm.Free.JP.Long_numberOfTrailingZeros_J.val d)))]))
        refine own_ret X2 hlk (v := some (.int (((Int32.ofNat g) <<< ((6 : Int32) &&& 31)) + (Jvm.Free.JP.Long_numberOfTrailingZeros_J.val d)))) (fun h => by rw [Bd.returns] at h; cases h) ?_ (by decide) (by decide) (fun fs hr => retI X2 hx Bd.returns (hb hby d3_88) hr)
        show Q3 Z a1 wa sa k w W U S h0 n0 _ T2.heap _
        rw [e2]
        exact ⟨⟨_, rfl, (own_wst_found (by omega) H hc39)⟩, N2, rfl⟩
    | succ r ih =>
      intro g d T locs hr H hwg hg X eT N
      refine own_step (fun _ zk => Jvm.Free.XT.lload X.here hx rfl (hb hby d3_35) rfl zk) ?_
      show own_E p e below _ (T.setTop (mkF m 37 #[.val (.ref a1), .val (.int (Int32.ofNat w)), .val (.int (Int32.ofNat (w + 1))), .val (.int (Int32.ofNat g)), .val (.long d), .second] [(.long d)]))
      refine own_step (fun _ zk => Jvm.Free.XT.lconst X.here hx rfl (hb hby d3_37) zk) ?_
      show own_E p e below _ (T.setTop (mkF m 38 #[.val (.ref a1), .val (.int (Int32.ofNat w)), .val (.int (Int32.ofNat (w + 1))), .val (.int (Int32.ofNat g)), .val (.long d), .second] [(.long (0 : Int64)), (.long d)]))
      refine own_step (fun _ zk => Jvm.Free.XT.lcmp X.here hx rfl (hb hby d3_38) rfl zk) ?_
      show own_E p e below _ (T.setTop (mkF m 39 #[.val (.ref a1), .val (.int (Int32.ofNat w)), .val (.int (Int32.ofNat (w + 1))), .val (.int (Int32.ofNat g)), .val (.long d), .second] [(.int (Jvm.Free.XT.cmpL d (0 : Int64)))]))
      by_cases hc39 : d = (0 : Int64)
      · skip
        refine own_step (fun _ zk => XS.ifNo X.here hx rfl (hb hby d3_39) rfl (own_lc_ne_f hc39) zk) ?_
        show own_E p e below _ (T.setTop (mkF m 42 #[.val (.ref a1), .val (.int (Int32.ofNat w)), .val (.int (Int32.ofNat (w + 1))), .val (.int (Int32.ofNat g)), .val (.long d), .second] []))
        refine own_step (fun _ zk => XS.iloadN X.here hx rfl (hb hby d3_42) rfl zk) ?_
        show own_E p e below _ (T.setTop (mkF m 43 #[.val (.ref a1), .val (.int (Int32.ofNat w)), .val (.int (Int32.ofNat (w + 1))), .val (.int (Int32.ofNat g)), .val (.long d), .second] [(.int (Int32.ofNat g))]))
        refine own_step (fun _ zk => XS.iconst X.here hx rfl (hb hby d3_43) zk) ?_
        show own_E p e below _ (T.setTop (mkF m 44 #[.val (.ref a1), .val (.int (Int32.ofNat w)), .val (.int (Int32.ofNat (w + 1))), .val (.int (Int32.ofNat g)), .val (.long d), .second] [(.int (1 : Int32)), (.int (Int32.ofNat g))]))
        refine own_step (fun _ zk => XS.iadd X.here hx rfl (hb hby d3_44) rfl zk) ?_
        show own_E p e below _ (T.setTop (mkF m 45 #[.val (.ref a1), .val (.int (Int32.ofNat w)), .val (.int (Int32.ofNat (w + 1))), .val (.int (Int32.ofNat g)), .val (.long d), .second] [(.int ((Int32.ofNat g) + (1 : Int32)))]))
        rw [show ((Int32.ofNat g) + (1 : Int32)) = (Int32.ofNat (g + 1)) from own_succ g]
        show own_E p e below _ (T.setTop (mkF m 45 #[.val (.ref a1), .val (.int (Int32.ofNat w)), .val (.int (Int32.ofNat (w + 1))), .val (.int (Int32.ofNat g)), .val (.long d), .second] [(.int (Int32.ofNat (g + 1)))]))
        refine own_step (fun _ zk => XS.aloadN X.here hx rfl (hb hby d3_45) rfl rfl zk) ?_
        show own_E p e below _ (T.setTop (mkF m 46 #[.val (.ref a1), .val (.int (Int32.ofNat w)), .val (.int (Int32.ofNat (w + 1))), .val (.int (Int32.ofNat g)), .val (.long d), .second] [(.ref a1), (.int (Int32.ofNat (g + 1)))]))
        obtain ⟨T3, X3, e3, st3⟩ := getF X hx hZ hown (host := "") (Or.inl (hw _ (List.mem_of_getElem? (i := 18) rfl))) Via.refl eT Fs (g := (mkF m 46 #[.val (.ref a1), .val (.int (Int32.ofNat w)), .val (.int (Int32.ofNat (w + 1))), .val (.int (Int32.ofNat g)), .val (.long d), .second] [(.ref a1), (.int (Int32.ofNat (g + 1)))])) rfl rfl (hb hby d3_46)
        refine own_step st3 ?_
        show own_E p e below _ (T3.setTop (mkF m 49 #[.val (.ref a1), .val (.int (Int32.ofNat w)), .val (.int (Int32.ofNat (w + 1))), .val (.int (Int32.ofNat g)), .val (.long d), .second] [(.ref sa), (.int (Int32.ofNat (g + 1)))]))
        refine own_step (fun _ zk => own_len X3 hx hZ e3 AU (g := (mkF m 49 #[.val (.ref a1), .val (.int (Int32.ofNat w)), .val (.int (Int32.ofNat (w + 1))), .val (.int (Int32.ofNat g)), .val (.long d), .second] [(.ref sa), (.int (Int32.ofNat (g + 1)))])) rfl rfl (hb hby d3_49) zk) ?_
        show own_E p e below _ (T3.setTop (mkF m 50 #[.val (.ref a1), .val (.int (Int32.ofNat w)), .val (.int (Int32.ofNat (w + 1))), .val (.int (Int32.ofNat g)), .val (.long d), .second] [(.int (Int32.ofNat (own_NS k))), (.int (Int32.ofNat (g + 1)))]))
        by_cases hc50 : (Int32.ofNat (g + 1)) < (Int32.ofNat (own_NS k))
        · skip
          refine own_step (fun _ zk => XS.icmpNo X3.here hx rfl (hb hby d3_50) rfl (tlt hc50).2.1 zk) ?_
          show own_E p e below _ (T3.setTop (mkF m 53 #[.val (.ref a1), .val (.int (Int32.ofNat w)), .val (.int (Int32.ofNat (w + 1))), .val (.int (Int32.ofNat g)), .val (.long d), .second] []))
          refine own_step (fun _ zk => XS.iinc X3.here hx rfl (hb hby d3_53) rfl (l' := #[.val (.ref a1), .val (.int (Int32.ofNat w)), .val (.int (Int32.ofNat (w + 1))), .val (.int ((Int32.ofNat g) + (1 : Int32))), .val (.long d), .second]) rfl zk) ?_
          show own_E p e below _ (T3.setTop (mkF m 56 #[.val (.ref a1), .val (.int (Int32.ofNat w)), .val (.int (Int32.ofNat (w + 1))), .val (.int ((Int32.ofNat g) + (1 : Int32))), .val (.long d), .second] []))
          rw [show ((Int32.ofNat g) + (1 : Int32)) = (Int32.ofNat (g + 1)) from own_succ g]
          show own_E p e below _ (T3.setTop (mkF m 56 #[.val (.ref a1), .val (.int (Int32.ofNat w)), .val (.int (Int32.ofNat (w + 1))), .val (.int (Int32.ofNat (g + 1))), .val (.long d), .second] []))
          refine own_step (fun _ zk => XS.aloadN X3.here hx rfl (hb hby d3_56) rfl rfl zk) ?_
          show own_E p e below _ (T3.setTop (mkF m 57 #[.val (.ref a1), .val (.int (Int32.ofNat w)), .val (.int (Int32.ofNat (w + 1))), .val (.int (Int32.ofNat (g + 1))), .val (.long d), .second] [(.ref a1)]))
          obtain ⟨T4, X4, e4, st4⟩ := getF X3 hx hZ hown (host := "") (Or.inl (hw _ (List.mem_of_getElem? (i := 18) rfl))) Via.refl e3 Fs (g := (mkF m 57 #[.val (.ref a1), .val (.int (Int32.ofNat w)), .val (.int (Int32.ofNat (w + 1))), .val (.int (Int32.ofNat (g + 1))), .val (.long d), .second] [(.ref a1)])) rfl rfl (hb hby d3_57)
          refine own_step st4 ?_
          show own_E p e below _ (T4.setTop (mkF m 60 #[.val (.ref a1), .val (.int (Int32.ofNat w)), .val (.int (Int32.ofNat (w + 1))), .val (.int (Int32.ofNat (g + 1))), .val (.long d), .second] [(.ref sa)]))
          refine own_step (fun _ zk => XS.iloadN X4.here hx rfl (hb hby d3_60) rfl zk) ?_
          show own_E p e below _ (T4.setTop (mkF m 61 #[.val (.ref a1), .val (.int (Int32.ofNat w)), .val (.int (Int32.ofNat (w + 1))), .val (.int (Int32.ofNat (g + 1))), .val (.long d), .second] [(.int (Int32.ofNat (g + 1))), (.ref sa)]))
          refine own_step (fun _ zk => own_ldJ X4 hx hZ e4 AU (g + 1) (own_toInt _ (by omega)) (by rw [own_lt _ _ (by omega) (by omega)] at hc50; exact hc50) (g := (mkF m 61 #[.val (.ref a1), .val (.int (Int32.ofNat w)), .val (.int (Int32.ofNat (w + 1))), .val (.int (Int32.ofNat (g + 1))), .val (.long d), .second] [(.int (Int32.ofNat (g + 1))), (.ref sa)])) rfl rfl (hb hby d3_61) zk) ?_
          show own_E p e below _ (T4.setTop (mkF m 62 #[.val (.ref a1), .val (.int (Int32.ofNat w)), .val (.int (Int32.ofNat (w + 1))), .val (.int (Int32.ofNat (g + 1))), .val (.long d), .second] [(.long (U (g + 1)))]))
          refine own_step (fun _ zk => Jvm.Free.XT.lstore X4.here hx rfl (hb hby d3_62) rfl (l' := #[.val (.ref a1), .val (.int (Int32.ofNat w)), .val (.int (Int32.ofNat (w + 1))), .val (.int (Int32.ofNat (g + 1))), .val (.long (U (g + 1))), .second]) rfl zk) ?_
          show own_E p e below _ (T4.setTop (mkF m 64 #[.val (.ref a1), .val (.int (Int32.ofNat w)), .val (.int (Int32.ofNat (w + 1))), .val (.int (Int32.ofNat (g + 1))), .val (.long (U (g + 1))), .second] []))
          refine own_step (fun _ zk => XS.goto X4.here hx rfl (pc0 := 64) (pc' := 35) rfl (hb hby d3_64) (by decide) (by decide) zk) ?_
          show own_E p e below _ (T4.setTop (mkF m 35 #[.val (.ref a1), .val (.int (Int32.ofNat w)), .val (.int (Int32.ofNat (w + 1))), .val (.int (Int32.ofNat (g + 1))), .val (.long (U (g + 1))), .second] []))
          exact ih (g + 1) _ _ _ (by omega) (own_wst_next I H hwg hc39 (by rw [own_lt _ _ (by omega) (by omega)] at hc50; exact hc50)) (by omega) (by rw [own_lt _ _ (by omega) (by omega)] at hc50; omega) X4 e4 N
        · skip
          refine own_step (fun _ zk => XS.icmpYes X3.here hx rfl (pc0 := 50) (pc' := 67) rfl (hb hby d3_50) rfl (flt hc50).2.1 (by decide) (by decide) zk) ?_
          show own_E p e below _ (T3.setTop (mkF m 67 #[.val (.ref a1), .val (.int (Int32.ofNat w)), .val (.int (Int32.ofNat (w + 1))), .val (.int (Int32.ofNat g)), .val (.long d), .second] []))
          refine own_step (fun _ zk => Jvm.Free.XT.lload X3.here hx rfl (hb hby d3_67) rfl zk) ?_
          show own_E p e below _ (T3.setTop (mkF m 69 #[.val (.ref a1), .val (.int (Int32.ofNat w)), .val (.int (Int32.ofNat (w + 1))), .val (.int (Int32.ofNat g)), .val (.long d), .second] [(.long d)]))
          refine own_step (fun _ zk => Jvm.Free.XT.lconst X3.here hx rfl (hb hby d3_69) zk) ?_
          show own_E p e below _ (T3.setTop (mkF m 70 #[.val (.ref a1), .val (.int (Int32.ofNat w)), .val (.int (Int32.ofNat (w + 1))), .val (.int (Int32.ofNat g)), .val (.long d), .second] [(.long (0 : Int64)), (.long d)]))
          refine own_step (fun _ zk => Jvm.Free.XT.lcmp X3.here hx rfl (hb hby d3_70) rfl zk) ?_
          show own_E p e below _ (T3.setTop (mkF m 71 #[.val (.ref a1), .val (.int (Int32.ofNat w)), .val (.int (Int32.ofNat (w + 1))), .val (.int (Int32.ofNat g)), .val (.long d), .second] [(.int (Jvm.Free.XT.cmpL d (0 : Int64)))]))
          refine own_step (fun _ zk => XS.ifNo X3.here hx rfl (hb hby d3_71) rfl (own_lc_ne_f hc39) zk) ?_
          show own_E p e below _ (T3.setTop (mkF m 74 #[.val (.ref a1), .val (.int (Int32.ofNat w)), .val (.int (Int32.ofNat (w + 1))), .val (.int (Int32.ofNat g)), .val (.long d), .second] []))
          refine own_step (fun _ zk => XS.iconst X3.here hx rfl (hb hby d3_74) zk) ?_
          show own_E p e below _ (T3.setTop (mkF m 75 #[.val (.ref a1), .val (.int (Int32.ofNat w)), .val (.int (Int32.ofNat (w + 1))), .val (.int (Int32.ofNat g)), .val (.long d), .second] [(.int (-1 : Int32))]))
          refine own_step (fun _ zk => XS.goto X3.here hx rfl (pc0 := 75) (pc' := 88) rfl (hb hby d3_75) (by decide) (by decide) zk) ?_
          show own_E p e below _ (T3.setTop (mkF m 88 #[.val (.ref a1), .val (.int (Int32.ofNat w)), .val (.int (Int32.ofNat (w + 1))), .val (.int (Int32.ofNat g)), .val (.long d), .second] [(.int (-1 : Int32))]))
          refine own_ret X3 hlk (v := some (.int (-1 : Int32))) (fun h => by rw [Bd.returns] at h; cases h) ?_ (by decide) (by decide) (fun fs hr => retI X3 hx Bd.returns (hb hby d3_88) hr)
          show Q3 Z a1 wa sa k w W U S h0 n0 _ T3.heap _
          rw [e3]
          exact ⟨⟨_, rfl, (own_wst_none I z3 H hc39 (by rw [own_lt _ _ (by omega) (by omega)] at hc50; exact hc50))⟩, N, rfl⟩
      · skip
        refine own_step (fun _ zk => XS.ifYes X.here hx rfl (pc0 := 39) (pc' := 67) rfl (hb hby d3_39) rfl (own_lc_ne_t hc39) (by decide) (by decide) zk) ?_
        show own_E p e below _ (T.setTop (mkF m 67 #[.val (.ref a1), .val (.int (Int32.ofNat w)), .val (.int (Int32.ofNat (w + 1))), .val (.int (Int32.ofNat g)), .val (.long d), .second] []))
        refine own_step (fun _ zk => Jvm.Free.XT.lload X.here hx rfl (hb hby d3_67) rfl zk) ?_
        show own_E p e below _ (T.setTop (mkF m 69 #[.val (.ref a1), .val (.int (Int32.ofNat w)), .val (.int (Int32.ofNat (w + 1))), .val (.int (Int32.ofNat g)), .val (.long d), .second] [(.long d)]))
        refine own_step (fun _ zk => Jvm.Free.XT.lconst X.here hx rfl (hb hby d3_69) zk) ?_
        show own_E p e below _ (T.setTop (mkF m 70 #[.val (.ref a1), .val (.int (Int32.ofNat w)), .val (.int (Int32.ofNat (w + 1))), .val (.int (Int32.ofNat g)), .val (.long d), .second] [(.long (0 : Int64)), (.long d)]))
        refine own_step (fun _ zk => Jvm.Free.XT.lcmp X.here hx rfl (hb hby d3_70) rfl zk) ?_
        show own_E p e below _ (T.setTop (mkF m 71 #[.val (.ref a1), .val (.int (Int32.ofNat w)), .val (.int (Int32.ofNat (w + 1))), .val (.int (Int32.ofNat g)), .val (.long d), .second] [(.int (Jvm.Free.XT.cmpL d (0 : Int64)))]))
        refine own_step (fun _ zk => XS.ifYes X.here hx rfl (pc0 := 71) (pc' := 78) rfl (hb hby d3_71) rfl (own_lc_ne_t hc39) (by decide) (by decide) zk) ?_
        show own_E p e below _ (T.setTop (mkF m 78 #[.val (.ref a1), .val (.int (Int32.ofNat w)), .val (.int (Int32.ofNat (w + 1))), .val (.int (Int32.ofNat g)), .val (.long d), .second] []))
        refine own_step (fun _ zk => XS.iloadN X.here hx rfl (hb hby d3_78) rfl zk) ?_
        show own_E p e below _ (T.setTop (mkF m 79 #[.val (.ref a1), .val (.int (Int32.ofNat w)), .val (.int (Int32.ofNat (w + 1))), .val (.int (Int32.ofNat g)), .val (.long d), .second] [(.int (Int32.ofNat g))]))
        refine own_step (fun _ zk => XS.bipush X.here hx rfl (hb hby d3_79) zk) ?_
        show own_E p e below _ (T.setTop (mkF m 81 #[.val (.ref a1), .val (.int (Int32.ofNat w)), .val (.int (Int32.ofNat (w + 1))), .val (.int (Int32.ofNat g)), .val (.long d), .second] [(.int (6 : Int32)), (.int (Int32.ofNat g))]))
        refine own_step (fun _ zk => Jvm.Free.XT.ishl X.here hx rfl (hb hby d3_81) rfl zk) ?_
        show own_E p e below _ (T.setTop (mkF m 82 #[.val (.ref a1), .val (.int (Int32.ofNat w)), .val (.int (Int32.ofNat (w + 1))), .val (.int (Int32.ofNat g)), .val (.long d), .second] [(.int ((Int32.ofNat g) <<< ((6 : Int32) &&& 31)))]))
        refine own_step (fun _ zk => Jvm.Free.XT.lload X.here hx rfl (hb hby d3_82) rfl zk) ?_
        show own_E p e below _ (T.setTop (mkF m 84 #[.val (.ref a1), .val (.int (Int32.ofNat w)), .val (.int (Int32.ofNat (w + 1))), .val (.int (Int32.ofNat g)), .val (.long d), .second] [(.long d), (.int ((Int32.ofNat g) <<< ((6 : Int32) &&& 31)))]))
        obtain ⟨_, _, ⟨T5, zL5, zK5, zN5⟩, -, X5, ⟨⟨rfl, e5'⟩, zl5, zy5, zz5⟩, st5⟩ := Jvm.LawKit.callS X hx (y := (⟨"java/lang/Long", "numberOfTrailingZeros", "(J)I"⟩ : MethodName)) hown (mvT hZ (hw _ (List.mem_of_getElem? (i := 35) rfl))) (mvT hZ (hw _ (List.mem_of_getElem? (i := 36) rfl))) (mvT hZ (hw _ (List.mem_of_getElem? (i := 37) rfl))) (mvT hZ (hw _ (List.mem_of_getElem? (i := 38) rfl))) (by decide) (W := 1) (Jvm.Free.JP.Long_numberOfTrailingZeros_J.pays d (own_tab_ntz hZ hw) (by decide) (by decide)) (g := (mkF m 84 #[.val (.ref a1), .val (.int (Int32.ofNat w)), .val (.int (Int32.ofNat (w + 1))), .val (.int (Int32.ofNat g)), .val (.long d), .second] [(.long d), (.int ((Int32.ofNat g) <<< ((6 : Int32) &&& 31)))])) rfl (by rw [hml]; rfl) (argsL := [(.long d)]) (rest := [(.int ((Int32.ofNat g) <<< ((6 : Int32) &&& 31)))]) (lenOf pd_3_0 rfl) rfl (by show 2 * 0 + _ ≤ _; exact Nat.le_of_eq rfl) (hb hby d3_84) (fun _ _ => ⟨(by decide : 0 + 0 ≤ _), (by decide : 0 + 0 ≤ _), rfl, trivial⟩)
        dsimp only [Pt.U, Pt.locs, Pt.cells, Pt.slots] at X5 zl5 zy5 zz5 st5 e5'
        rw [show zK5 = 0 from zy5, show zN5 = 0 from zz5] at X5
        have e5 : T5.heap = h0 := e5'.trans eT
        have N5 : Fr n0 zL5 := by rw [zl5]; exact Fr.app N (Fr.nil n0)
        refine own_step (st5) ?_
        show own_E p e below _ (T5.setTop (mkF m 87 #[.val (.ref a1), .val (.int (Int32.ofNat w)), .val (.int (Int32.ofNat (w + 1))), .val (.int (Int32.ofNat g)), .val (.long d), .second] [(.int (Jvm.Free.JP.Long_numberOfTrailingZeros_J.val d)), (.int ((Int32.ofNat g) <<< ((6 : Int32) &&& 31)))]))
        refine own_step (fun _ zk => XS.iadd X5.here hx rfl (hb hby d3_87) rfl zk) ?_
        show own_E p e below _ (T5.setTop (mkF m 88 #[.val (.ref a1), .val (.int (Int32.ofNat w)), .val (.int (Int32.ofNat (w + 1))), .val (.int (Int32.ofNat g)), .val (.long d), .second] [(.int (((Int32.ofNat g) <<< ((6 : Int32) &&& 31)) + (Jvm.Free.JP.Long_numberOfTrailingZeros_J.val d)))]))
        refine own_ret X5 hlk (v := some (.int (((Int32.ofNat g) <<< ((6 : Int32) &&& 31)) + (Jvm.Free.JP.Long_numberOfTrailingZeros_J.val d)))) (fun h => by rw [Bd.returns] at h; cases h) ?_ (by decide) (by decide) (fun fs hr => retI X5 hx Bd.returns (hb hby d3_88) hr)
        show Q3 Z a1 wa sa k w W U S h0 n0 _ T5.heap _
        rw [e5]
        exact ⟨⟨_, rfl, (own_wst_found (by omega) H hc39)⟩, N5, rfl⟩
  refine own_step (fun _ zk => XS.iloadN X0.here hx rfl (hb hby d3_0) rfl zk) ?_
  show own_E p e below _ (s₁.setTop (mkF m 1 #[.val (.ref a1), .val (.int (Int32.ofNat w)), .unset, .unset, .unset, .unset] [(.int (Int32.ofNat w))]))
  refine own_step (fun _ zk => XS.iconst X0.here hx rfl (hb hby d3_1) zk) ?_
  show own_E p e below _ (s₁.setTop (mkF m 2 #[.val (.ref a1), .val (.int (Int32.ofNat w)), .unset, .unset, .unset, .unset] [(.int (1 : Int32)), (.int (Int32.ofNat w))]))
  refine own_step (fun _ zk => XS.iadd X0.here hx rfl (hb hby d3_2) rfl zk) ?_
  show own_E p e below _ (s₁.setTop (mkF m 3 #[.val (.ref a1), .val (.int (Int32.ofNat w)), .unset, .unset, .unset, .unset] [(.int ((Int32.ofNat w) + (1 : Int32)))]))
  rw [show ((Int32.ofNat w) + (1 : Int32)) = (Int32.ofNat (w + 1)) from own_succ w]
  show own_E p e below _ (s₁.setTop (mkF m 3 #[.val (.ref a1), .val (.int (Int32.ofNat w)), .unset, .unset, .unset, .unset] [(.int (Int32.ofNat (w + 1)))]))
  refine own_step (fun _ zk => XS.istoreN X0.here hx rfl (hb hby d3_3) rfl (l' := #[.val (.ref a1), .val (.int (Int32.ofNat w)), .val (.int (Int32.ofNat (w + 1))), .unset, .unset, .unset]) rfl zk) ?_
  show own_E p e below _ (s₁.setTop (mkF m 4 #[.val (.ref a1), .val (.int (Int32.ofNat w)), .val (.int (Int32.ofNat (w + 1))), .unset, .unset, .unset] []))
  refine own_step (fun _ zk => XS.iloadN X0.here hx rfl (hb hby d3_4) rfl zk) ?_
  show own_E p e below _ (s₁.setTop (mkF m 5 #[.val (.ref a1), .val (.int (Int32.ofNat w)), .val (.int (Int32.ofNat (w + 1))), .unset, .unset, .unset] [(.int (Int32.ofNat (w + 1)))]))
  refine own_step (fun _ zk => XS.bipush X0.here hx rfl (hb hby d3_5) zk) ?_
  show own_E p e below _ (s₁.setTop (mkF m 7 #[.val (.ref a1), .val (.int (Int32.ofNat w)), .val (.int (Int32.ofNat (w + 1))), .unset, .unset, .unset] [(.int (6 : Int32)), (.int (Int32.ofNat (w + 1)))]))
  refine own_step (fun _ zk => Jvm.Free.XT.iushr X0.here hx rfl (hb hby d3_7) rfl zk) ?_
  show own_E p e below _ (s₁.setTop (mkF m 8 #[.val (.ref a1), .val (.int (Int32.ofNat w)), .val (.int (Int32.ofNat (w + 1))), .unset, .unset, .unset] [(.int (Jvm.Free.XT.ushr (Int32.ofNat (w + 1)) (6 : Int32)))]))
  rw [show (Jvm.Free.XT.ushr (Int32.ofNat (w + 1)) (6 : Int32)) = (Int32.ofNat ((w + 1) / 64)) from own_ushr6 (w + 1) (by omega)]
  show own_E p e below _ (s₁.setTop (mkF m 8 #[.val (.ref a1), .val (.int (Int32.ofNat w)), .val (.int (Int32.ofNat (w + 1))), .unset, .unset, .unset] [(.int (Int32.ofNat ((w + 1) / 64)))]))
  refine own_step (fun _ zk => XS.istoreN X0.here hx rfl (hb hby d3_8) rfl (l' := #[.val (.ref a1), .val (.int (Int32.ofNat w)), .val (.int (Int32.ofNat (w + 1))), .val (.int (Int32.ofNat ((w + 1) / 64))), .unset, .unset]) rfl zk) ?_
  show own_E p e below _ (s₁.setTop (mkF m 9 #[.val (.ref a1), .val (.int (Int32.ofNat w)), .val (.int (Int32.ofNat (w + 1))), .val (.int (Int32.ofNat ((w + 1) / 64))), .unset, .unset] []))
  refine own_step (fun _ zk => Jvm.Free.XT.lconst X0.here hx rfl (hb hby d3_9) zk) ?_
  show own_E p e below _ (s₁.setTop (mkF m 10 #[.val (.ref a1), .val (.int (Int32.ofNat w)), .val (.int (Int32.ofNat (w + 1))), .val (.int (Int32.ofNat ((w + 1) / 64))), .unset, .unset] [(.long (0 : Int64))]))
  refine own_step (fun _ zk => Jvm.Free.XT.lstore X0.here hx rfl (hb hby d3_10) rfl (l' := #[.val (.ref a1), .val (.int (Int32.ofNat w)), .val (.int (Int32.ofNat (w + 1))), .val (.int (Int32.ofNat ((w + 1) / 64))), .val (.long (0 : Int64)), .second]) rfl zk) ?_
  show own_E p e below _ (s₁.setTop (mkF m 12 #[.val (.ref a1), .val (.int (Int32.ofNat w)), .val (.int (Int32.ofNat (w + 1))), .val (.int (Int32.ofNat ((w + 1) / 64))), .val (.long (0 : Int64)), .second] []))
  refine own_step (fun _ zk => XS.iloadN X0.here hx rfl (hb hby d3_12) rfl zk) ?_
  show own_E p e below _ (s₁.setTop (mkF m 13 #[.val (.ref a1), .val (.int (Int32.ofNat w)), .val (.int (Int32.ofNat (w + 1))), .val (.int (Int32.ofNat ((w + 1) / 64))), .val (.long (0 : Int64)), .second] [(.int (Int32.ofNat ((w + 1) / 64)))]))
  refine own_step (fun _ zk => XS.aloadN X0.here hx rfl (hb hby d3_13) rfl rfl zk) ?_
  show own_E p e below _ (s₁.setTop (mkF m 14 #[.val (.ref a1), .val (.int (Int32.ofNat w)), .val (.int (Int32.ofNat (w + 1))), .val (.int (Int32.ofNat ((w + 1) / 64))), .val (.long (0 : Int64)), .second] [(.ref a1), (.int (Int32.ofNat ((w + 1) / 64)))]))
  obtain ⟨T6, X6, e6, st6⟩ := getF X0 hx hZ hown (host := "") (Or.inl (hw _ (List.mem_of_getElem? (i := 18) rfl))) Via.refl e0 Fs (g := (mkF m 14 #[.val (.ref a1), .val (.int (Int32.ofNat w)), .val (.int (Int32.ofNat (w + 1))), .val (.int (Int32.ofNat ((w + 1) / 64))), .val (.long (0 : Int64)), .second] [(.ref a1), (.int (Int32.ofNat ((w + 1) / 64)))])) rfl rfl (hb hby d3_14)
  refine own_step st6 ?_
  show own_E p e below _ (T6.setTop (mkF m 17 #[.val (.ref a1), .val (.int (Int32.ofNat w)), .val (.int (Int32.ofNat (w + 1))), .val (.int (Int32.ofNat ((w + 1) / 64))), .val (.long (0 : Int64)), .second] [(.ref sa), (.int (Int32.ofNat ((w + 1) / 64)))]))
  refine own_step (fun _ zk => own_len X6 hx hZ e6 AU (g := (mkF m 17 #[.val (.ref a1), .val (.int (Int32.ofNat w)), .val (.int (Int32.ofNat (w + 1))), .val (.int (Int32.ofNat ((w + 1) / 64))), .val (.long (0 : Int64)), .second] [(.ref sa), (.int (Int32.ofNat ((w + 1) / 64)))])) rfl rfl (hb hby d3_17) zk) ?_
  show own_E p e below _ (T6.setTop (mkF m 18 #[.val (.ref a1), .val (.int (Int32.ofNat w)), .val (.int (Int32.ofNat (w + 1))), .val (.int (Int32.ofNat ((w + 1) / 64))), .val (.long (0 : Int64)), .second] [(.int (Int32.ofNat (own_NS k))), (.int (Int32.ofNat ((w + 1) / 64)))]))
  by_cases hc18 : (Int32.ofNat ((w + 1) / 64)) < (Int32.ofNat (own_NS k))
  · skip
    refine own_step (fun _ zk => XS.icmpNo X6.here hx rfl (hb hby d3_18) rfl (tlt hc18).2.1 zk) ?_
    show own_E p e below _ (T6.setTop (mkF m 21 #[.val (.ref a1), .val (.int (Int32.ofNat w)), .val (.int (Int32.ofNat (w + 1))), .val (.int (Int32.ofNat ((w + 1) / 64))), .val (.long (0 : Int64)), .second] []))
    refine own_step (fun _ zk => XS.aloadN X6.here hx rfl (hb hby d3_21) rfl rfl zk) ?_
    show own_E p e below _ (T6.setTop (mkF m 22 #[.val (.ref a1), .val (.int (Int32.ofNat w)), .val (.int (Int32.ofNat (w + 1))), .val (.int (Int32.ofNat ((w + 1) / 64))), .val (.long (0 : Int64)), .second] [(.ref a1)]))
    obtain ⟨T7, X7, e7, st7⟩ := getF X6 hx hZ hown (host := "") (Or.inl (hw _ (List.mem_of_getElem? (i := 18) rfl))) Via.refl e6 Fs (g := (mkF m 22 #[.val (.ref a1), .val (.int (Int32.ofNat w)), .val (.int (Int32.ofNat (w + 1))), .val (.int (Int32.ofNat ((w + 1) / 64))), .val (.long (0 : Int64)), .second] [(.ref a1)])) rfl rfl (hb hby d3_22)
    refine own_step st7 ?_
    show own_E p e below _ (T7.setTop (mkF m 25 #[.val (.ref a1), .val (.int (Int32.ofNat w)), .val (.int (Int32.ofNat (w + 1))), .val (.int (Int32.ofNat ((w + 1) / 64))), .val (.long (0 : Int64)), .second] [(.ref sa)]))
    refine own_step (fun _ zk => XS.iloadN X7.here hx rfl (hb hby d3_25) rfl zk) ?_
    show own_E p e below _ (T7.setTop (mkF m 26 #[.val (.ref a1), .val (.int (Int32.ofNat w)), .val (.int (Int32.ofNat (w + 1))), .val (.int (Int32.ofNat ((w + 1) / 64))), .val (.long (0 : Int64)), .second] [(.int (Int32.ofNat ((w + 1) / 64))), (.ref sa)]))
    refine own_step (fun _ zk => own_ldJ X7 hx hZ e7 AU ((w + 1) / 64) (own_toInt _ (by omega)) (by rw [own_lt _ _ (by omega) (by omega)] at hc18; exact hc18) (g := (mkF m 26 #[.val (.ref a1), .val (.int (Int32.ofNat w)), .val (.int (Int32.ofNat (w + 1))), .val (.int (Int32.ofNat ((w + 1) / 64))), .val (.long (0 : Int64)), .second] [(.int (Int32.ofNat ((w + 1) / 64))), (.ref sa)])) rfl rfl (hb hby d3_26) zk) ?_
    show own_E p e below _ (T7.setTop (mkF m 27 #[.val (.ref a1), .val (.int (Int32.ofNat w)), .val (.int (Int32.ofNat (w + 1))), .val (.int (Int32.ofNat ((w + 1) / 64))), .val (.long (0 : Int64)), .second] [(.long (U ((w + 1) / 64)))]))
    refine own_step (fun _ zk => X7.ldc2J hx (v := -1) hown (mvT hZ (hw _ (List.mem_of_getElem? (i := 34) rfl))) (g := (mkF m 27 #[.val (.ref a1), .val (.int (Int32.ofNat w)), .val (.int (Int32.ofNat (w + 1))), .val (.int (Int32.ofNat ((w + 1) / 64))), .val (.long (0 : Int64)), .second] [(.long (U ((w + 1) / 64)))])) rfl (hb hby d3_27) zk) ?_
    show own_E p e below _ (T7.setTop (mkF m 30 #[.val (.ref a1), .val (.int (Int32.ofNat w)), .val (.int (Int32.ofNat (w + 1))), .val (.int (Int32.ofNat ((w + 1) / 64))), .val (.long (0 : Int64)), .second] [(.long (-1 : Int64)), (.long (U ((w + 1) / 64)))]))
    refine own_step (fun _ zk => XS.iloadN X7.here hx rfl (hb hby d3_30) rfl zk) ?_
    show own_E p e below _ (T7.setTop (mkF m 31 #[.val (.ref a1), .val (.int (Int32.ofNat w)), .val (.int (Int32.ofNat (w + 1))), .val (.int (Int32.ofNat ((w + 1) / 64))), .val (.long (0 : Int64)), .second] [(.int (Int32.ofNat (w + 1))), (.long (-1 : Int64)), (.long (U ((w + 1) / 64)))]))
    refine own_step (fun _ zk => Jvm.Free.XT.lshl X7.here hx rfl (hb hby d3_31) rfl zk) ?_
    show own_E p e below _ (T7.setTop (mkF m 32 #[.val (.ref a1), .val (.int (Int32.ofNat w)), .val (.int (Int32.ofNat (w + 1))), .val (.int (Int32.ofNat ((w + 1) / 64))), .val (.long (0 : Int64)), .second] [(.long ((-1 : Int64) <<< (((Int32.ofNat (w + 1))).toInt64 &&& 63))), (.long (U ((w + 1) / 64)))]))
    refine own_step (fun _ zk => Jvm.Free.XT.land X7.here hx rfl (hb hby d3_32) rfl zk) ?_
    show own_E p e below _ (T7.setTop (mkF m 33 #[.val (.ref a1), .val (.int (Int32.ofNat w)), .val (.int (Int32.ofNat (w + 1))), .val (.int (Int32.ofNat ((w + 1) / 64))), .val (.long (0 : Int64)), .second] [(.long ((U ((w + 1) / 64)) &&& ((-1 : Int64) <<< (((Int32.ofNat (w + 1))).toInt64 &&& 63))))]))
    refine own_step (fun _ zk => Jvm.Free.XT.lstore X7.here hx rfl (hb hby d3_33) rfl (l' := #[.val (.ref a1), .val (.int (Int32.ofNat w)), .val (.int (Int32.ofNat (w + 1))), .val (.int (Int32.ofNat ((w + 1) / 64))), .val (.long ((U ((w + 1) / 64)) &&& ((-1 : Int64) <<< (((Int32.ofNat (w + 1))).toInt64 &&& 63)))), .second]) rfl zk) ?_
    show own_E p e below _ (T7.setTop (mkF m 35 #[.val (.ref a1), .val (.int (Int32.ofNat w)), .val (.int (Int32.ofNat (w + 1))), .val (.int (Int32.ofNat ((w + 1) / 64))), .val (.long ((U ((w + 1) / 64)) &&& ((-1 : Int64) <<< (((Int32.ofNat (w + 1))).toInt64 &&& 63)))), .second] []))
    exact loop (own_NS k) _ _ _ _ (by omega) (own_wst_in I w (by omega) (by rw [own_lt _ _ (by omega) (by omega)] at hc18; exact hc18)) (by omega) (by omega) X7 e7 N0
  · skip
    refine own_step (fun _ zk => XS.icmpYes X6.here hx rfl (pc0 := 18) (pc' := 35) rfl (hb hby d3_18) rfl (flt hc18).2.1 (by decide) (by decide) zk) ?_
    show own_E p e below _ (T6.setTop (mkF m 35 #[.val (.ref a1), .val (.int (Int32.ofNat w)), .val (.int (Int32.ofNat (w + 1))), .val (.int (Int32.ofNat ((w + 1) / 64))), .val (.long (0 : Int64)), .second] []))
    exact loop (own_NS k) _ _ _ _ (by omega) (own_wst_out S _ w (by rw [own_lt _ _ (by omega) (by omega)] at hc18; exact hc18)) (by omega) (by omega) X6 e6 N0
theorem d4_0 : decode prog_18_method_6_code 0 = .ok (.iload_n 1, 1) := by decide +kernel
theorem d4_1 : decode prog_18_method_6_code 1 = .ok (.bipush 6, 2) := by decide +kernel
theorem d4_3 : decode prog_18_method_6_code 3 = .ok (.iushr, 1) := by decide +kernel
theorem d4_4 : decode prog_18_method_6_code 4 = .ok (.istore_n 2, 1) := by decide +kernel
theorem d4_5 : decode prog_18_method_6_code 5 = .ok (.aload_n 0, 1) := by decide +kernel
theorem d4_6 : decode prog_18_method_6_code 6 = .ok (.getfield 19, 3) := by decide +kernel
theorem d4_9 : decode prog_18_method_6_code 9 = .ok (.iload_n 2, 1) := by decide +kernel
theorem d4_10 : decode prog_18_method_6_code 10 = .ok (.laload, 1) := by decide +kernel
theorem d4_11 : decode prog_18_method_6_code 11 = .ok (.ldc2_w 26, 3) := by decide +kernel
theorem d4_14 : decode prog_18_method_6_code 14 = .ok (.iload_n 1, 1) := by decide +kernel
theorem d4_15 : decode prog_18_method_6_code 15 = .ok (.lshl, 1) := by decide +kernel
theorem d4_16 : decode prog_18_method_6_code 16 = .ok (.land, 1) := by decide +kernel
theorem d4_17 : decode prog_18_method_6_code 17 = .ok (.lstore_n 3, 1) := by decide +kernel
theorem d4_18 : decode prog_18_method_6_code 18 = .ok (.lload_n 3, 1) := by decide +kernel
theorem d4_19 : decode prog_18_method_6_code 19 = .ok (.lconst 0, 1) := by decide +kernel
theorem d4_20 : decode prog_18_method_6_code 20 = .ok (.lcmp, 1) := by decide +kernel
theorem d4_21 : decode prog_18_method_6_code 21 = .ok (.ifCond .ne 24, 3) := by decide +kernel
theorem d4_24 : decode prog_18_method_6_code 24 = .ok (.aload_n 0, 1) := by decide +kernel
theorem d4_25 : decode prog_18_method_6_code 25 = .ok (.iload_n 2, 1) := by decide +kernel
theorem d4_26 : decode prog_18_method_6_code 26 = .ok (.invokevirtual 45, 3) := by decide +kernel
theorem d4_29 : decode prog_18_method_6_code 29 = .ok (.istore_n 2, 1) := by decide +kernel
theorem d4_30 : decode prog_18_method_6_code 30 = .ok (.iload_n 2, 1) := by decide +kernel
theorem d4_31 : decode prog_18_method_6_code 31 = .ok (.ifCond .ge 7, 3) := by decide +kernel
theorem d4_34 : decode prog_18_method_6_code 34 = .ok (.lconst 0, 1) := by decide +kernel
theorem d4_35 : decode prog_18_method_6_code 35 = .ok (.goto 9, 3) := by decide +kernel
theorem d4_38 : decode prog_18_method_6_code 38 = .ok (.aload_n 0, 1) := by decide +kernel
theorem d4_39 : decode prog_18_method_6_code 39 = .ok (.getfield 19, 3) := by decide +kernel
theorem d4_42 : decode prog_18_method_6_code 42 = .ok (.iload_n 2, 1) := by decide +kernel
theorem d4_43 : decode prog_18_method_6_code 43 = .ok (.laload, 1) := by decide +kernel
theorem d4_44 : decode prog_18_method_6_code 44 = .ok (.lstore_n 3, 1) := by decide +kernel
theorem d4_45 : decode prog_18_method_6_code 45 = .ok (.lload_n 3, 1) := by decide +kernel
theorem d4_46 : decode prog_18_method_6_code 46 = .ok (.lconst 0, 1) := by decide +kernel
theorem d4_47 : decode prog_18_method_6_code 47 = .ok (.lcmp, 1) := by decide +kernel
theorem d4_48 : decode prog_18_method_6_code 48 = .ok (.ifCond .ne 7, 3) := by decide +kernel
theorem d4_51 : decode prog_18_method_6_code 51 = .ok (.iconst (-1), 1) := by decide +kernel
theorem d4_52 : decode prog_18_method_6_code 52 = .ok (.goto 12, 3) := by decide +kernel
theorem d4_55 : decode prog_18_method_6_code 55 = .ok (.iload_n 2, 1) := by decide +kernel
theorem d4_56 : decode prog_18_method_6_code 56 = .ok (.bipush 6, 2) := by decide +kernel
theorem d4_58 : decode prog_18_method_6_code 58 = .ok (.ishl, 1) := by decide +kernel
theorem d4_59 : decode prog_18_method_6_code 59 = .ok (.lload_n 3, 1) := by decide +kernel
theorem d4_60 : decode prog_18_method_6_code 60 = .ok (.invokestatic 48, 3) := by decide +kernel
theorem d4_63 : decode prog_18_method_6_code 63 = .ok (.iadd, 1) := by decide +kernel
theorem d4_64 : decode prog_18_method_6_code 64 = .ok (.ireturn, 1) := by decide +kernel
theorem pd_4_0 : parseMethodDescriptor "(I)I" = some ⟨[.int], some .int⟩ := by decide +kernel
theorem pd_4_1 : parseMethodDescriptor "(J)I" = some ⟨[.long], some .int⟩ := by decide +kernel
theorem pn_4 : plainName "com/example/wayfold/wayfold/engine/FilledBuckets" = true := by first | (simp [plainName, overriddenIn]; done) | decide +kernel
theorem ef_4 (m : MethodId) (a1 : Addr) (wa sa : Addr) (k a : Nat) (W U : Nat → Int64) (S : Nat → Bool) : entryFrame m #[(.ref a1), (.int (Int32.ofNat a))] 5 = mkF m 0 #[.val (.ref a1), .val (.int (Int32.ofNat a)), .unset, .unset, .unset] [] := by first | (simp [entryFrame, mkF, argsToLocals, Value.category]; done) | rfl
def Q4 (Z : State) (a1 : Addr) (wa sa : Addr) (k a : Nat) (W U : Nat → Int64) (S : Nat → Bool) (h0 : Heap) (n0 : Nat) (v : Option Value) (h : Heap) (L : List Loc) : Prop := (∃ r : Int32, v = some (.int r) ∧ own_ffirst S a r) ∧ Fr n0 L ∧ h = h0
set_option maxRecDepth 65536 in
set_option maxHeartbeats 40000000 in
theorem rm4 (l : Launch) (Z : State) (a0 : Array Value) (hw : ∀ d ∈ tables_1, d.before a0 Z = true) (ws : List Jvm.Cond) (a1 : Addr) (wa sa : Addr) (k a : Nat) (W U : Nat → Int64) (S : Nat → Bool) (h0 : Heap) (n0 : Nat) (Z0 : n0 ≤ h0.size) (hab : a < 64 * own_NW k) (hk : k < 16) (HF : own_FB Z h0 a1 wa sa k W U) (I : own_inv S (own_NW k) (own_NS k) W U) :
    MetFree l (⟨"com/example/wayfold/wayfold/engine/FilledBuckets", "firstFilledFrom", "(I)I"⟩ : MethodName) (head1 (Jvm.Cond.code (⟨"com/example/wayfold/wayfold/engine/FilledBuckets", "firstFilledFrom", "(I)I"⟩ : MethodName) prog_18_method_6_code 5 (some .int) :: ws) ({ frames := 3, cells := 0, slots := 0, locals := 46 } : Room)) (fun zA zU => zA = #[(.ref a1), (.int (Int32.ofNat a))] ∧ Z.Warmed39 zU.vm ∧ zU.heap = h0) (fun _ _ _ _ _ => True) (fun _ zU zo zT => ∃ zv zL, zo = .returned zv ∧ Q4 Z a1 wa sa k a W U S h0 n0 zv zT.heap zL ∧ FrameEnd zU zo zT zL ({ frames := 3, cells := 0, slots := 0, locals := 46 } : Room).cells ({ frames := 3, cells := 0, slots := 0, locals := 46 } : Room).slots) := by
  refine MetFree.of_bodySF (plainFor_of_name pn_4) hisR ?_
  intro p e s m args below meth c s₁ Bd hml0 hP hK
  obtain ⟨rfl, hZ, hh⟩ := hP
  have hx := Bd.exec
  have hby := Bd.bytes
  have hml : c.maxLocals = 5 := hml0
  have hown : s.vm.findClass "com/example/wayfold/wayfold/engine/FilledBuckets" = some m.cls := findClass_of_methodNamed Bd.named
  have hnm := (name_of_methodNamed Bd.named Bd.method).1
  have hlk : meth.locks = false := Bd.notSynchronized
  have X0 : Stand p l e ({ frames := 3, cells := 0, slots := 0, locals := 46 } : Room) s m #[(.ref a1), (.int (Int32.ofNat a))] below meth c s₁ [] 0 0 := Stand.of_body Bd
  have e0 : s₁.heap = h0 := by rw [← hh, Bd.state]; rfl
  have N0 := Fr.nil n0
  refine own_step (p := p) (e := e) (below := below) (U' := s₁.setTop (mkF m 0 #[.val (.ref a1), .val (.int (Int32.ofNat a)), .unset, .unset, .unset] [])) (fun _ zk => castTop (ef_4 m a1 wa sa k a W U S) zk) ?_
  obtain ⟨E, Fm, Fw, Fs, AW, AU, n1, n2, n3⟩ := HF
  obtain ⟨z1, z2, z3, z4, z5, z6⟩ := own_sz k hk
  refine own_step (fun _ zk => XS.iloadN X0.here hx rfl (hb hby d4_0) rfl zk) ?_
  show own_E p e below _ (s₁.setTop (mkF m 1 #[.val (.ref a1), .val (.int (Int32.ofNat a)), .unset, .unset, .unset] [(.int (Int32.ofNat a))]))
  refine own_step (fun _ zk => XS.bipush X0.here hx rfl (hb hby d4_1) zk) ?_
  show own_E p e below _ (s₁.setTop (mkF m 3 #[.val (.ref a1), .val (.int (Int32.ofNat a)), .unset, .unset, .unset] [(.int (6 : Int32)), (.int (Int32.ofNat a))]))
  refine own_step (fun _ zk => Jvm.Free.XT.iushr X0.here hx rfl (hb hby d4_3) rfl zk) ?_
  show own_E p e below _ (s₁.setTop (mkF m 4 #[.val (.ref a1), .val (.int (Int32.ofNat a)), .unset, .unset, .unset] [(.int (Jvm.Free.XT.ushr (Int32.ofNat a) (6 : Int32)))]))
  rw [show (Jvm.Free.XT.ushr (Int32.ofNat a) (6 : Int32)) = (Int32.ofNat (a / 64)) from own_ushr6 a (by omega)]
  show own_E p e below _ (s₁.setTop (mkF m 4 #[.val (.ref a1), .val (.int (Int32.ofNat a)), .unset, .unset, .unset] [(.int (Int32.ofNat (a / 64)))]))
  refine own_step (fun _ zk => XS.istoreN X0.here hx rfl (hb hby d4_4) rfl (l' := #[.val (.ref a1), .val (.int (Int32.ofNat a)), .val (.int (Int32.ofNat (a / 64))), .unset, .unset]) rfl zk) ?_
  show own_E p e below _ (s₁.setTop (mkF m 5 #[.val (.ref a1), .val (.int (Int32.ofNat a)), .val (.int (Int32.ofNat (a / 64))), .unset, .unset] []))
  refine own_step (fun _ zk => XS.aloadN X0.here hx rfl (hb hby d4_5) rfl rfl zk) ?_
  show own_E p e below _ (s₁.setTop (mkF m 6 #[.val (.ref a1), .val (.int (Int32.ofNat a)), .val (.int (Int32.ofNat (a / 64))), .unset, .unset] [(.ref a1)]))
  obtain ⟨T1, X1, e1, st1⟩ := getF X0 hx hZ hown (host := "") (Or.inl (hw _ (List.mem_of_getElem? (i := 16) rfl))) Via.refl e0 Fw (g := (mkF m 6 #[.val (.ref a1), .val (.int (Int32.ofNat a)), .val (.int (Int32.ofNat (a / 64))), .unset, .unset] [(.ref a1)])) rfl rfl (hb hby d4_6)
  refine own_step st1 ?_
  show own_E p e below _ (T1.setTop (mkF m 9 #[.val (.ref a1), .val (.int (Int32.ofNat a)), .val (.int (Int32.ofNat (a / 64))), .unset, .unset] [(.ref wa)]))
  refine own_step (fun _ zk => XS.iloadN X1.here hx rfl (hb hby d4_9) rfl zk) ?_
  show own_E p e below _ (T1.setTop (mkF m 10 #[.val (.ref a1), .val (.int (Int32.ofNat a)), .val (.int (Int32.ofNat (a / 64))), .unset, .unset] [(.int (Int32.ofNat (a / 64))), (.ref wa)]))
  refine own_step (fun _ zk => own_ldJ X1 hx hZ e1 AW (a / 64) (own_toInt _ (by omega)) (by omega) (g := (mkF m 10 #[.val (.ref a1), .val (.int (Int32.ofNat a)), .val (.int (Int32.ofNat (a / 64))), .unset, .unset] [(.int (Int32.ofNat (a / 64))), (.ref wa)])) rfl rfl (hb hby d4_10) zk) ?_
  show own_E p e below _ (T1.setTop (mkF m 11 #[.val (.ref a1), .val (.int (Int32.ofNat a)), .val (.int (Int32.ofNat (a / 64))), .unset, .unset] [(.long (W (a / 64)))]))
  refine own_step (fun _ zk => X1.ldc2J hx (v := -1) hown (mvT hZ (hw _ (List.mem_of_getElem? (i := 34) rfl))) (g := (mkF m 11 #[.val (.ref a1), .val (.int (Int32.ofNat a)), .val (.int (Int32.ofNat (a / 64))), .unset, .unset] [(.long (W (a / 64)))])) rfl (hb hby d4_11) zk) ?_
  show own_E p e below _ (T1.setTop (mkF m 14 #[.val (.ref a1), .val (.int (Int32.ofNat a)), .val (.int (Int32.ofNat (a / 64))), .unset, .unset] [(.long (-1 : Int64)), (.long (W (a / 64)))]))
  refine own_step (fun _ zk => XS.iloadN X1.here hx rfl (hb hby d4_14) rfl zk) ?_
  show own_E p e below _ (T1.setTop (mkF m 15 #[.val (.ref a1), .val (.int (Int32.ofNat a)), .val (.int (Int32.ofNat (a / 64))), .unset, .unset] [(.int (Int32.ofNat a)), (.long (-1 : Int64)), (.long (W (a / 64)))]))
  refine own_step (fun _ zk => Jvm.Free.XT.lshl X1.here hx rfl (hb hby d4_15) rfl zk) ?_
  show own_E p e below _ (T1.setTop (mkF m 16 #[.val (.ref a1), .val (.int (Int32.ofNat a)), .val (.int (Int32.ofNat (a / 64))), .unset, .unset] [(.long ((-1 : Int64) <<< (((Int32.ofNat a)).toInt64 &&& 63))), (.long (W (a / 64)))]))
  refine own_step (fun _ zk => Jvm.Free.XT.land X1.here hx rfl (hb hby d4_16) rfl zk) ?_
  show own_E p e below _ (T1.setTop (mkF m 17 #[.val (.ref a1), .val (.int (Int32.ofNat a)), .val (.int (Int32.ofNat (a / 64))), .unset, .unset] [(.long ((W (a / 64)) &&& ((-1 : Int64) <<< (((Int32.ofNat a)).toInt64 &&& 63))))]))
  refine own_step (fun _ zk => Jvm.Free.XT.lstoreN X1.here hx rfl (hb hby d4_17) rfl (l' := #[.val (.ref a1), .val (.int (Int32.ofNat a)), .val (.int (Int32.ofNat (a / 64))), .val (.long ((W (a / 64)) &&& ((-1 : Int64) <<< (((Int32.ofNat a)).toInt64 &&& 63)))), .second]) rfl zk) ?_
  show own_E p e below _ (T1.setTop (mkF m 18 #[.val (.ref a1), .val (.int (Int32.ofNat a)), .val (.int (Int32.ofNat (a / 64))), .val (.long ((W (a / 64)) &&& ((-1 : Int64) <<< (((Int32.ofNat a)).toInt64 &&& 63)))), .second] []))
  refine own_step (fun _ zk => Jvm.Free.XT.lloadN X1.here hx rfl (hb hby d4_18) rfl zk) ?_
  show own_E p e below _ (T1.setTop (mkF m 19 #[.val (.ref a1), .val (.int (Int32.ofNat a)), .val (.int (Int32.ofNat (a / 64))), .val (.long ((W (a / 64)) &&& ((-1 : Int64) <<< (((Int32.ofNat a)).toInt64 &&& 63)))), .second] [(.long ((W (a / 64)) &&& ((-1 : Int64) <<< (((Int32.ofNat a)).toInt64 &&& 63))))]))
  refine own_step (fun _ zk => Jvm.Free.XT.lconst X1.here hx rfl (hb hby d4_19) zk) ?_
  show own_E p e below _ (T1.setTop (mkF m 20 #[.val (.ref a1), .val (.int (Int32.ofNat a)), .val (.int (Int32.ofNat (a / 64))), .val (.long ((W (a / 64)) &&& ((-1 : Int64) <<< (((Int32.ofNat a)).toInt64 &&& 63)))), .second] [(.long (0 : Int64)), (.long ((W (a / 64)) &&& ((-1 : Int64) <<< (((Int32.ofNat a)).toInt64 &&& 63))))]))
  refine own_step (fun _ zk => Jvm.Free.XT.lcmp X1.here hx rfl (hb hby d4_20) rfl zk) ?_
  show own_E p e below _ (T1.setTop (mkF m 21 #[.val (.ref a1), .val (.int (Int32.ofNat a)), .val (.int (Int32.ofNat (a / 64))), .val (.long ((W (a / 64)) &&& ((-1 : Int64) <<< (((Int32.ofNat a)).toInt64 &&& 63)))), .second] [(.int (Jvm.Free.XT.cmpL ((W (a / 64)) &&& ((-1 : Int64) <<< (((Int32.ofNat a)).toInt64 &&& 63))) (0 : Int64)))]))
  by_cases hc21 : ((W (a / 64)) &&& ((-1 : Int64) <<< (((Int32.ofNat a)).toInt64 &&& 63))) = (0 : Int64)
  · skip
    refine own_step (fun _ zk => XS.ifNo X1.here hx rfl (hb hby d4_21) rfl (own_lc_ne_f hc21) zk) ?_
    show own_E p e below _ (T1.setTop (mkF m 24 #[.val (.ref a1), .val (.int (Int32.ofNat a)), .val (.int (Int32.ofNat (a / 64))), .val (.long ((W (a / 64)) &&& ((-1 : Int64) <<< (((Int32.ofNat a)).toInt64 &&& 63)))), .second] []))
    refine own_step (fun _ zk => XS.aloadN X1.here hx rfl (hb hby d4_24) rfl rfl zk) ?_
    show own_E p e below _ (T1.setTop (mkF m 25 #[.val (.ref a1), .val (.int (Int32.ofNat a)), .val (.int (Int32.ofNat (a / 64))), .val (.long ((W (a / 64)) &&& ((-1 : Int64) <<< (((Int32.ofNat a)).toInt64 &&& 63)))), .second] [(.ref a1)]))
    refine own_step (fun _ zk => XS.iloadN X1.here hx rfl (hb hby d4_25) rfl zk) ?_
    show own_E p e below _ (T1.setTop (mkF m 26 #[.val (.ref a1), .val (.int (Int32.ofNat a)), .val (.int (Int32.ofNat (a / 64))), .val (.long ((W (a / 64)) &&& ((-1 : Int64) <<< (((Int32.ofNat a)).toInt64 &&& 63)))), .second] [(.int (Int32.ofNat (a / 64))), (.ref a1)]))
    obtain ⟨cq2, q2, q2'⟩ := E.cell
    obtain ⟨_, _, ⟨T2, zL2, zK2, zN2⟩, -, X2, ⟨zLc2, hQ2, zl2, zy2, zz2⟩, st2⟩ := X1.privateBack hx (y := (⟨"com/example/wayfold/wayfold/engine/FilledBuckets", "firstFilledWordAfter", "(I)I"⟩ : MethodName)) hown (mvT hZ (hw _ (List.mem_of_getElem? (i := 46) rfl))) (mvT hZ (hw _ (List.mem_of_getElem? (i := 47) rfl))) (mvT hZ (Jvm.Kit.selects_private (y := (⟨"com/example/wayfold/wayfold/engine/FilledBuckets", "firstFilledWordAfter", "(I)I"⟩ : MethodName)) (by decide) (hw _ (List.mem_of_getElem? (i := 1) rfl)) (hw _ (List.mem_of_getElem? (i := 48) rfl)) (hw _ (List.mem_of_getElem? (i := 47) rfl)))) (Cond.privateMethod_at (mvP hZ (hw _ (List.mem_of_getElem? (i := 48) rfl)) (args := #[]))) (mvT hZ (hw _ (List.mem_of_getElem? (i := 49) rfl))) (by decide) (backOf (W := 0) (rm3 l Z a0 hw [] a1 wa sa k (a / 64) W U S h0 n0 Z0 (by omega) hk ⟨E, Fm, Fw, Fs, AW, AU, n1, n2, n3⟩ I) hZ (hw _ (List.mem_of_getElem? (i := 49) rfl)) (hw _ (List.mem_of_getElem? (i := 2) rfl)) (by decide) (by decide)) (g := (mkF m 26 #[.val (.ref a1), .val (.int (Int32.ofNat a)), .val (.int (Int32.ofNat (a / 64))), .val (.long ((W (a / 64)) &&& ((-1 : Int64) <<< (((Int32.ofNat a)).toInt64 &&& 63)))), .second] [(.int (Int32.ofNat (a / 64))), (.ref a1)])) rfl (by rw [hml]; rfl) (Steps.refl _) (a := a1) (by rw [e1]; exact q2) q2' (argsL := [(.int (Int32.ofNat (a / 64)))]) (rest := []) (lenOf pd_4_0 rfl) rfl (by show 2 * 0 + _ ≤ _; exact Nat.le_of_eq rfl) (hb hby d4_26) (fun _ _ => ⟨rfl, e1, (by decide : 0 + 0 ≤ _), (by decide : 0 + 0 ≤ _)⟩)
    dsimp only [Pt.U, Pt.locs, Pt.cells, Pt.slots] at X2 zl2 zy2 zz2 st2 hQ2
    rw [show zK2 = 0 from zy2, show zN2 = 0 from zz2] at X2
    obtain ⟨⟨r2, rfl, hr2⟩, N2q, e2⟩ := hQ2
    have N2 : Fr n0 zL2 := by rw [zl2]; exact Fr.app N0 N2q
    refine own_step (fun _ zk => (st2).trans zk) ?_
    show own_E p e below _ (T2.setTop (mkF m 29 #[.val (.ref a1), .val (.int (Int32.ofNat a)), .val (.int (Int32.ofNat (a / 64))), .val (.long ((W (a / 64)) &&& ((-1 : Int64) <<< (((Int32.ofNat a)).toInt64 &&& 63)))), .second] [(.int r2)]))
    rcases hr2 with ⟨n, rfl, q0, q2, q3, q4⟩ | ⟨rfl, q1⟩
    · skip
      show own_E p e below _ (T2.setTop (mkF m 29 #[.val (.ref a1), .val (.int (Int32.ofNat a)), .val (.int (Int32.ofNat (a / 64))), .val (.long ((W (a / 64)) &&& ((-1 : Int64) <<< (((Int32.ofNat a)).toInt64 &&& 63)))), .second] [(.int (Int32.ofNat n))]))
      refine own_step (fun _ zk => XS.istoreN X2.here hx rfl (hb hby d4_29) rfl (l' := #[.val (.ref a1), .val (.int (Int32.ofNat a)), .val (.int (Int32.ofNat n)), .val (.long ((W (a / 64)) &&& ((-1 : Int64) <<< (((Int32.ofNat a)).toInt64 &&& 63)))), .second]) rfl zk) ?_
      show own_E p e below _ (T2.setTop (mkF m 30 #[.val (.ref a1), .val (.int (Int32.ofNat a)), .val (.int (Int32.ofNat n)), .val (.long ((W (a / 64)) &&& ((-1 : Int64) <<< (((Int32.ofNat a)).toInt64 &&& 63)))), .second] []))
      refine own_step (fun _ zk => XS.iloadN X2.here hx rfl (hb hby d4_30) rfl zk) ?_
      show own_E p e below _ (T2.setTop (mkF m 31 #[.val (.ref a1), .val (.int (Int32.ofNat a)), .val (.int (Int32.ofNat n)), .val (.long ((W (a / 64)) &&& ((-1 : Int64) <<< (((Int32.ofNat a)).toInt64 &&& 63)))), .second] [(.int (Int32.ofNat n))]))
      refine own_step (fun _ zk => XS.ifYes X2.here hx rfl (pc0 := 31) (pc' := 38) rfl (hb hby d4_31) rfl ((if0 _ _).trans (flt (own_nn0 n (by omega))).2.1) (by decide) (by decide) zk) ?_
      show own_E p e below _ (T2.setTop (mkF m 38 #[.val (.ref a1), .val (.int (Int32.ofNat a)), .val (.int (Int32.ofNat n)), .val (.long ((W (a / 64)) &&& ((-1 : Int64) <<< (((Int32.ofNat a)).toInt64 &&& 63)))), .second] []))
      refine own_step (fun _ zk => XS.aloadN X2.here hx rfl (hb hby d4_38) rfl rfl zk) ?_
      show own_E p e below _ (T2.setTop (mkF m 39 #[.val (.ref a1), .val (.int (Int32.ofNat a)), .val (.int (Int32.ofNat n)), .val (.long ((W (a / 64)) &&& ((-1 : Int64) <<< (((Int32.ofNat a)).toInt64 &&& 63)))), .second] [(.ref a1)]))
      obtain ⟨T3, X3, e3, st3⟩ := getF X2 hx hZ hown (host := "") (Or.inl (hw _ (List.mem_of_getElem? (i := 16) rfl))) Via.refl e2 Fw (g := (mkF m 39 #[.val (.ref a1), .val (.int (Int32.ofNat a)), .val (.int (Int32.ofNat n)), .val (.long ((W (a / 64)) &&& ((-1 : Int64) <<< (((Int32.ofNat a)).toInt64 &&& 63)))), .second] [(.ref a1)])) rfl rfl (hb hby d4_39)
      refine own_step st3 ?_
      show own_E p e below _ (T3.setTop (mkF m 42 #[.val (.ref a1), .val (.int (Int32.ofNat a)), .val (.int (Int32.ofNat n)), .val (.long ((W (a / 64)) &&& ((-1 : Int64) <<< (((Int32.ofNat a)).toInt64 &&& 63)))), .second] [(.ref wa)]))
      refine own_step (fun _ zk => XS.iloadN X3.here hx rfl (hb hby d4_42) rfl zk) ?_
      show own_E p e below _ (T3.setTop (mkF m 43 #[.val (.ref a1), .val (.int (Int32.ofNat a)), .val (.int (Int32.ofNat n)), .val (.long ((W (a / 64)) &&& ((-1 : Int64) <<< (((Int32.ofNat a)).toInt64 &&& 63)))), .second] [(.int (Int32.ofNat n)), (.ref wa)]))
      refine own_step (fun _ zk => own_ldJ X3 hx hZ e3 AW n (own_toInt _ (by omega)) (own_ff_word I q3).1 (g := (mkF m 43 #[.val (.ref a1), .val (.int (Int32.ofNat a)), .val (.int (Int32.ofNat n)), .val (.long ((W (a / 64)) &&& ((-1 : Int64) <<< (((Int32.ofNat a)).toInt64 &&& 63)))), .second] [(.int (Int32.ofNat n)), (.ref wa)])) rfl rfl (hb hby d4_43) zk) ?_
      show own_E p e below _ (T3.setTop (mkF m 44 #[.val (.ref a1), .val (.int (Int32.ofNat a)), .val (.int (Int32.ofNat n)), .val (.long ((W (a / 64)) &&& ((-1 : Int64) <<< (((Int32.ofNat a)).toInt64 &&& 63)))), .second] [(.long (W n))]))
      refine own_step (fun _ zk => Jvm.Free.XT.lstoreN X3.here hx rfl (hb hby d4_44) rfl (l' := #[.val (.ref a1), .val (.int (Int32.ofNat a)), .val (.int (Int32.ofNat n)), .val (.long (W n)), .second]) rfl zk) ?_
      show own_E p e below _ (T3.setTop (mkF m 45 #[.val (.ref a1), .val (.int (Int32.ofNat a)), .val (.int (Int32.ofNat n)), .val (.long (W n)), .second] []))
      refine own_step (fun _ zk => Jvm.Free.XT.lloadN X3.here hx rfl (hb hby d4_45) rfl zk) ?_
      show own_E p e below _ (T3.setTop (mkF m 46 #[.val (.ref a1), .val (.int (Int32.ofNat a)), .val (.int (Int32.ofNat n)), .val (.long (W n)), .second] [(.long (W n))]))
      refine own_step (fun _ zk => Jvm.Free.XT.lconst X3.here hx rfl (hb hby d4_46) zk) ?_
      show own_E p e below _ (T3.setTop (mkF m 47 #[.val (.ref a1), .val (.int (Int32.ofNat a)), .val (.int (Int32.ofNat n)), .val (.long (W n)), .second] [(.long (0 : Int64)), (.long (W n))]))
      refine own_step (fun _ zk => Jvm.Free.XT.lcmp X3.here hx rfl (hb hby d4_47) rfl zk) ?_
      show own_E p e below _ (T3.setTop (mkF m 48 #[.val (.ref a1), .val (.int (Int32.ofNat a)), .val (.int (Int32.ofNat n)), .val (.long (W n)), .second] [(.int (Jvm.Free.XT.cmpL (W n) (0 : Int64)))]))
      refine own_step (fun _ zk => XS.ifYes X3.here hx rfl (pc0 := 48) (pc' := 55) rfl (hb hby d4_48) rfl (own_lc_ne_t (own_ff_word I q3).2) (by decide) (by decide) zk) ?_
      show own_E p e below _ (T3.setTop (mkF m 55 #[.val (.ref a1), .val (.int (Int32.ofNat a)), .val (.int (Int32.ofNat n)), .val (.long (W n)), .second] []))
      refine own_step (fun _ zk => XS.iloadN X3.here hx rfl (hb hby d4_55) rfl zk) ?_
      show own_E p e below _ (T3.setTop (mkF m 56 #[.val (.ref a1), .val (.int (Int32.ofNat a)), .val (.int (Int32.ofNat n)), .val (.long (W n)), .second] [(.int (Int32.ofNat n))]))
      refine own_step (fun _ zk => XS.bipush X3.here hx rfl (hb hby d4_56) zk) ?_
      show own_E p e below _ (T3.setTop (mkF m 58 #[.val (.ref a1), .val (.int (Int32.ofNat a)), .val (.int (Int32.ofNat n)), .val (.long (W n)), .second] [(.int (6 : Int32)), (.int (Int32.ofNat n))]))
      refine own_step (fun _ zk => Jvm.Free.XT.ishl X3.here hx rfl (hb hby d4_58) rfl zk) ?_
      show own_E p e below _ (T3.setTop (mkF m 59 #[.val (.ref a1), .val (.int (Int32.ofNat a)), .val (.int (Int32.ofNat n)), .val (.long (W n)), .second] [(.int ((Int32.ofNat n) <<< ((6 : Int32) &&& 31)))]))
      refine own_step (fun _ zk => Jvm.Free.XT.lloadN X3.here hx rfl (hb hby d4_59) rfl zk) ?_
      show own_E p e below _ (T3.setTop (mkF m 60 #[.val (.ref a1), .val (.int (Int32.ofNat a)), .val (.int (Int32.ofNat n)), .val (.long (W n)), .second] [(.long (W n)), (.int ((Int32.ofNat n) <<< ((6 : Int32) &&& 31)))]))
      obtain ⟨_, _, ⟨T4, zL4, zK4, zN4⟩, -, X4, ⟨⟨rfl, e4'⟩, zl4, zy4, zz4⟩, st4⟩ := Jvm.LawKit.callS X3 hx (y := (⟨"java/lang/Long", "numberOfTrailingZeros", "(J)I"⟩ : MethodName)) hown (mvT hZ (hw _ (List.mem_of_getElem? (i := 35) rfl))) (mvT hZ (hw _ (List.mem_of_getElem? (i := 36) rfl))) (mvT hZ (hw _ (List.mem_of_getElem? (i := 37) rfl))) (mvT hZ (hw _ (List.mem_of_getElem? (i := 38) rfl))) (by decide) (W := 1) (Jvm.Free.JP.Long_numberOfTrailingZeros_J.pays (W n) (own_tab_ntz hZ hw) (by decide) (by decide)) (g := (mkF m 60 #[.val (.ref a1), .val (.int (Int32.ofNat a)), .val (.int (Int32.ofNat n)), .val (.long (W n)), .second] [(.long (W n)), (.int ((Int32.ofNat n) <<< ((6 : Int32) &&& 31)))])) rfl (by rw [hml]; rfl) (argsL := [(.long (W n))]) (rest := [(.int ((Int32.ofNat n) <<< ((6 : Int32) &&& 31)))]) (lenOf pd_4_1 rfl) rfl (by show 2 * 0 + _ ≤ _; exact Nat.le_of_eq rfl) (hb hby d4_60) (fun _ _ => ⟨(by decide : 0 + 0 ≤ _), (by decide : 0 + 0 ≤ _), rfl, trivial⟩)
      dsimp only [Pt.U, Pt.locs, Pt.cells, Pt.slots] at X4 zl4 zy4 zz4 st4 e4'
      rw [show zK4 = 0 from zy4, show zN4 = 0 from zz4] at X4
      have e4 : T4.heap = h0 := e4'.trans e3
      have N4 : Fr n0 zL4 := by rw [zl4]; exact Fr.app N2 (Fr.nil n0)
      refine own_step (st4) ?_
      show own_E p e below _ (T4.setTop (mkF m 63 #[.val (.ref a1), .val (.int (Int32.ofNat a)), .val (.int (Int32.ofNat n)), .val (.long (W n)), .second] [(.int (Jvm.Free.JP.Long_numberOfTrailingZeros_J.val (W n))), (.int ((Int32.ofNat n) <<< ((6 : Int32) &&& 31)))]))
      refine own_step (fun _ zk => XS.iadd X4.here hx rfl (hb hby d4_63) rfl zk) ?_
      show own_E p e below _ (T4.setTop (mkF m 64 #[.val (.ref a1), .val (.int (Int32.ofNat a)), .val (.int (Int32.ofNat n)), .val (.long (W n)), .second] [(.int (((Int32.ofNat n) <<< ((6 : Int32) &&& 31)) + (Jvm.Free.JP.Long_numberOfTrailingZeros_J.val (W n))))]))
      refine own_ret X4 hlk (v := some (.int (((Int32.ofNat n) <<< ((6 : Int32) &&& 31)) + (Jvm.Free.JP.Long_numberOfTrailingZeros_J.val (W n))))) (fun h => by rw [Bd.returns] at h; cases h) ?_ (by decide) (by decide) (fun fs hr => retI X4 hx Bd.returns (hb hby d4_64) hr)
      show Q4 Z a1 wa sa k a W U S h0 n0 _ T4.heap _
      rw [e4]
      exact ⟨⟨_, rfl, (own_ff_later I (by omega) a n (own_ff_nohere I a (by omega) (by omega) hc21) q2 q3 q4)⟩, N4, rfl⟩
    · skip
      show own_E p e below _ (T2.setTop (mkF m 29 #[.val (.ref a1), .val (.int (Int32.ofNat a)), .val (.int (Int32.ofNat (a / 64))), .val (.long ((W (a / 64)) &&& ((-1 : Int64) <<< (((Int32.ofNat a)).toInt64 &&& 63)))), .second] [(.int (-1 : Int32))]))
      refine own_step (fun _ zk => XS.istoreN X2.here hx rfl (hb hby d4_29) rfl (l' := #[.val (.ref a1), .val (.int (Int32.ofNat a)), .val (.int (-1 : Int32)), .val (.long ((W (a / 64)) &&& ((-1 : Int64) <<< (((Int32.ofNat a)).toInt64 &&& 63)))), .second]) rfl zk) ?_
      show own_E p e below _ (T2.setTop (mkF m 30 #[.val (.ref a1), .val (.int (Int32.ofNat a)), .val (.int (-1 : Int32)), .val (.long ((W (a / 64)) &&& ((-1 : Int64) <<< (((Int32.ofNat a)).toInt64 &&& 63)))), .second] []))
      refine own_step (fun _ zk => XS.iloadN X2.here hx rfl (hb hby d4_30) rfl zk) ?_
      show own_E p e below _ (T2.setTop (mkF m 31 #[.val (.ref a1), .val (.int (Int32.ofNat a)), .val (.int (-1 : Int32)), .val (.long ((W (a / 64)) &&& ((-1 : Int64) <<< (((Int32.ofNat a)).toInt64 &&& 63)))), .second] [(.int (-1 : Int32))]))
      refine own_step (fun _ zk => XS.ifNo X2.here hx rfl (hb hby d4_31) rfl ((if0 _ _).trans (tlt (by decide)).2.1) zk) ?_
      show own_E p e below _ (T2.setTop (mkF m 34 #[.val (.ref a1), .val (.int (Int32.ofNat a)), .val (.int (-1 : Int32)), .val (.long ((W (a / 64)) &&& ((-1 : Int64) <<< (((Int32.ofNat a)).toInt64 &&& 63)))), .second] []))
      refine own_step (fun _ zk => Jvm.Free.XT.lconst X2.here hx rfl (hb hby d4_34) zk) ?_
      show own_E p e below _ (T2.setTop (mkF m 35 #[.val (.ref a1), .val (.int (Int32.ofNat a)), .val (.int (-1 : Int32)), .val (.long ((W (a / 64)) &&& ((-1 : Int64) <<< (((Int32.ofNat a)).toInt64 &&& 63)))), .second] [(.long (0 : Int64))]))
      refine own_step (fun _ zk => XS.goto X2.here hx rfl (pc0 := 35) (pc' := 44) rfl (hb hby d4_35) (by decide) (by decide) zk) ?_
      show own_E p e below _ (T2.setTop (mkF m 44 #[.val (.ref a1), .val (.int (Int32.ofNat a)), .val (.int (-1 : Int32)), .val (.long ((W (a / 64)) &&& ((-1 : Int64) <<< (((Int32.ofNat a)).toInt64 &&& 63)))), .second] [(.long (0 : Int64))]))
      refine own_step (fun _ zk => Jvm.Free.XT.lstoreN X2.here hx rfl (hb hby d4_44) rfl (l' := #[.val (.ref a1), .val (.int (Int32.ofNat a)), .val (.int (-1 : Int32)), .val (.long (0 : Int64)), .second]) rfl zk) ?_
      show own_E p e below _ (T2.setTop (mkF m 45 #[.val (.ref a1), .val (.int (Int32.ofNat a)), .val (.int (-1 : Int32)), .val (.long (0 : Int64)), .second] []))
      refine own_step (fun _ zk => Jvm.Free.XT.lloadN X2.here hx rfl (hb hby d4_45) rfl zk) ?_
      show own_E p e below _ (T2.setTop (mkF m 46 #[.val (.ref a1), .val (.int (Int32.ofNat a)), .val (.int (-1 : Int32)), .val (.long (0 : Int64)), .second] [(.long (0 : Int64))]))
      refine own_step (fun _ zk => Jvm.Free.XT.lconst X2.here hx rfl (hb hby d4_46) zk) ?_
      show own_E p e below _ (T2.setTop (mkF m 47 #[.val (.ref a1), .val (.int (Int32.ofNat a)), .val (.int (-1 : Int32)), .val (.long (0 : Int64)), .second] [(.long (0 : Int64)), (.long (0 : Int64))]))
      refine own_step (fun _ zk => Jvm.Free.XT.lcmp X2.here hx rfl (hb hby d4_47) rfl zk) ?_
      show own_E p e below _ (T2.setTop (mkF m 48 #[.val (.ref a1), .val (.int (Int32.ofNat a)), .val (.int (-1 : Int32)), .val (.long (0 : Int64)), .second] [(.int (Jvm.Free.XT.cmpL (0 : Int64) (0 : Int64)))]))
      refine own_step (fun _ zk => XS.ifNo X2.here hx rfl (hb hby d4_48) rfl (own_lc_ne_f rfl) zk) ?_
      show own_E p e below _ (T2.setTop (mkF m 51 #[.val (.ref a1), .val (.int (Int32.ofNat a)), .val (.int (-1 : Int32)), .val (.long (0 : Int64)), .second] []))
      refine own_step (fun _ zk => XS.iconst X2.here hx rfl (hb hby d4_51) zk) ?_
      show own_E p e below _ (T2.setTop (mkF m 52 #[.val (.ref a1), .val (.int (Int32.ofNat a)), .val (.int (-1 : Int32)), .val (.long (0 : Int64)), .second] [(.int (-1 : Int32))]))
      refine own_step (fun _ zk => XS.goto X2.here hx rfl (pc0 := 52) (pc' := 64) rfl (hb hby d4_52) (by decide) (by decide) zk) ?_
      show own_E p e below _ (T2.setTop (mkF m 64 #[.val (.ref a1), .val (.int (Int32.ofNat a)), .val (.int (-1 : Int32)), .val (.long (0 : Int64)), .second] [(.int (-1 : Int32))]))
      refine own_ret X2 hlk (v := some (.int (-1 : Int32))) (fun h => by rw [Bd.returns] at h; cases h) ?_ (by decide) (by decide) (fun fs hr => retI X2 hx Bd.returns (hb hby d4_64) hr)
      show Q4 Z a1 wa sa k a W U S h0 n0 _ T2.heap _
      rw [e2]
      exact ⟨⟨_, rfl, (own_ff_none a (own_ff_nohere I a (by omega) (by omega) hc21) q1)⟩, N2, rfl⟩
  · skip
    refine own_step (fun _ zk => XS.ifYes X1.here hx rfl (pc0 := 21) (pc' := 45) rfl (hb hby d4_21) rfl (own_lc_ne_t hc21) (by decide) (by decide) zk) ?_
    show own_E p e below _ (T1.setTop (mkF m 45 #[.val (.ref a1), .val (.int (Int32.ofNat a)), .val (.int (Int32.ofNat (a / 64))), .val (.long ((W (a / 64)) &&& ((-1 : Int64) <<< (((Int32.ofNat a)).toInt64 &&& 63)))), .second] []))
    refine own_step (fun _ zk => Jvm.Free.XT.lloadN X1.here hx rfl (hb hby d4_45) rfl zk) ?_
    show own_E p e below _ (T1.setTop (mkF m 46 #[.val (.ref a1), .val (.int (Int32.ofNat a)), .val (.int (Int32.ofNat (a / 64))), .val (.long ((W (a / 64)) &&& ((-1 : Int64) <<< (((Int32.ofNat a)).toInt64 &&& 63)))), .second] [(.long ((W (a / 64)) &&& ((-1 : Int64) <<< (((Int32.ofNat a)).toInt64 &&& 63))))]))
    refine own_step (fun _ zk => Jvm.Free.XT.lconst X1.here hx rfl (hb hby d4_46) zk) ?_
    show own_E p e below _ (T1.setTop (mkF m 47 #[.val (.ref a1), .val (.int (Int32.ofNat a)), .val (.int (Int32.ofNat (a / 64))), .val (.long ((W (a / 64)) &&& ((-1 : Int64) <<< (((Int32.ofNat a)).toInt64 &&& 63)))), .second] [(.long (0 : Int64)), (.long ((W (a / 64)) &&& ((-1 : Int64) <<< (((Int32.ofNat a)).toInt64 &&& 63))))]))
    refine own_step (fun _ zk => Jvm.Free.XT.lcmp X1.here hx rfl (hb hby d4_47) rfl zk) ?_
    show own_E p e below _ (T1.setTop (mkF m 48 #[.val (.ref a1), .val (.int (Int32.ofNat a)), .val (.int (Int32.ofNat (a / 64))), .val (.long ((W (a / 64)) &&& ((-1 : Int64) <<< (((Int32.ofNat a)).toInt64 &&& 63)))), .second] [(.int (Jvm.Free.XT.cmpL ((W (a / 64)) &&& ((-1 : Int64) <<< (((Int32.ofNat a)).toInt64 &&& 63))) (0 : Int64)))]))
    refine own_step (fun _ zk => XS.ifYes X1.here hx rfl (pc0 := 48) (pc' := 55) rfl (hb hby d4_48) rfl (own_lc_ne_t hc21) (by decide) (by decide) zk) ?_
    show own_E p e below _ (T1.setTop (mkF m 55 #[.val (.ref a1), .val (.int (Int32.ofNat a)), .val (.int (Int32.ofNat (a / 64))), .val (.long ((W (a / 64)) &&& ((-1 : Int64) <<< (((Int32.ofNat a)).toInt64 &&& 63)))), .second] []))
    refine own_step (fun _ zk => XS.iloadN X1.here hx rfl (hb hby d4_55) rfl zk) ?_
    show own_E p e below _ (T1.setTop (mkF m 56 #[.val (.ref a1), .val (.int (Int32.ofNat a)), .val (.int (Int32.ofNat (a / 64))), .val (.long ((W (a / 64)) &&& ((-1 : Int64) <<< (((Int32.ofNat a)).toInt64 &&& 63)))), .second] [(.int (Int32.ofNat (a / 64)))]))
    refine own_step (fun _ zk => XS.bipush X1.here hx rfl (hb hby d4_56) zk) ?_
    show own_E p e below _ (T1.setTop (mkF m 58 #[.val (.ref a1), .val (.int (Int32.ofNat a)), .val (.int (Int32.ofNat (a / 64))), .val (.long ((W (a / 64)) &&& ((-1 : Int64) <<< (((Int32.ofNat a)).toInt64 &&& 63)))), .second] [(.int (6 : Int32)), (.int (Int32.ofNat (a / 64)))]))
    refine own_step (fun _ zk => Jvm.Free.XT.ishl X1.here hx rfl (hb hby d4_58) rfl zk) ?_
    show own_E p e below _ (T1.setTop (mkF m 59 #[.val (.ref a1), .val (.int (Int32.ofNat a)), .val (.int (Int32.ofNat (a / 64))), .val (.long ((W (a / 64)) &&& ((-1 : Int64) <<< (((Int32.ofNat a)).toInt64 &&& 63)))), .second] [(.int ((Int32.ofNat (a / 64)) <<< ((6 : Int32) &&& 31)))]))
    refine own_step (fun _ zk => Jvm.Free.XT.lloadN X1.here hx rfl (hb hby d4_59) rfl zk) ?_
    show own_E p e below _ (T1.setTop (mkF m 60 #[.val (.ref a1), .val (.int (Int32.ofNat a)), .val (.int (Int32.ofNat (a / 64))), .val (.long ((W (a / 64)) &&& ((-1 : Int64) <<< (((Int32.ofNat a)).toInt64 &&& 63)))), .second] [(.long ((W (a / 64)) &&& ((-1 : Int64) <<< (((Int32.ofNat a)).toInt64 &&& 63)))), (.int ((Int32.ofNat (a / 64)) <<< ((6 : Int32) &&& 31)))]))
    obtain ⟨_, _, ⟨T5, zL5, zK5, zN5⟩, -, X5, ⟨⟨rfl, e5'⟩, zl5, zy5, zz5⟩, st5⟩ := Jvm.LawKit.callS X1 hx (y := (⟨"java/lang/Long", "numberOfTrailingZeros", "(J)I"⟩ : MethodName)) hown (mvT hZ (hw _ (List.mem_of_getElem? (i := 35) rfl))) (mvT hZ (hw _ (List.mem_of_getElem? (i := 36) rfl))) (mvT hZ (hw _ (List.mem_of_getElem? (i := 37) rfl))) (mvT hZ (hw _ (List.mem_of_getElem? (i := 38) rfl))) (by decide) (W := 1) (Jvm.Free.JP.Long_numberOfTrailingZeros_J.pays ((W (a / 64)) &&& ((-1 : Int64) <<< (((Int32.ofNat a)).toInt64 &&& 63))) (own_tab_ntz hZ hw) (by decide) (by decide)) (g := (mkF m 60 #[.val (.ref a1), .val (.int (Int32.ofNat a)), .val (.int (Int32.ofNat (a / 64))), .val (.long ((W (a / 64)) &&& ((-1 : Int64) <<< (((Int32.ofNat a)).toInt64 &&& 63)))), .second] [(.long ((W (a / 64)) &&& ((-1 : Int64) <<< (((Int32.ofNat a)).toInt64 &&& 63)))), (.int ((Int32.ofNat (a / 64)) <<< ((6 : Int32) &&& 31)))])) rfl (by rw [hml]; rfl) (argsL := [(.long ((W (a / 64)) &&& ((-1 : Int64) <<< (((Int32.ofNat a)).toInt64 &&& 63))))]) (rest := [(.int ((Int32.ofNat (a / 64)) <<< ((6 : Int32) &&& 31)))]) (lenOf pd_4_1 rfl) rfl (by show 2 * 0 + _ ≤ _; exact Nat.le_of_eq rfl) (hb hby d4_60) (fun _ _ => ⟨(by decide : 0 + 0 ≤ _), (by decide : 0 + 0 ≤ _), rfl, trivial⟩)
    dsimp only [Pt.U, Pt.locs, Pt.cells, Pt.slots] at X5 zl5 zy5 zz5 st5 e5'
    rw [show zK5 = 0 from zy5, show zN5 = 0 from zz5] at X5
    have e5 : T5.heap = h0 := e5'.trans e1
    have N5 : Fr n0 zL5 := by rw [zl5]; exact Fr.app N0 (Fr.nil n0)
    refine own_step (st5) ?_
    show own_E p e below _ (T5.setTop (mkF m 63 #[.val (.ref a1), .val (.int (Int32.ofNat a)), .val (.int (Int32.ofNat (a / 64))), .val (.long ((W (a / 64)) &&& ((-1 : Int64) <<< (((Int32.ofNat a)).toInt64 &&& 63)))), .second] [(.int (Jvm.Free.JP.Long_numberOfTrailingZeros_J.val ((W (a / 64)) &&& ((-1 : Int64) <<< (((Int32.ofNat a)).toInt64 &&& 63))))), (.int ((Int32.ofNat (a / 64)) <<< ((6 : Int32) &&& 31)))]))
    refine own_step (fun _ zk => XS.iadd X5.here hx rfl (hb hby d4_63) rfl zk) ?_
    show own_E p e below _ (T5.setTop (mkF m 64 #[.val (.ref a1), .val (.int (Int32.ofNat a)), .val (.int (Int32.ofNat (a / 64))), .val (.long ((W (a / 64)) &&& ((-1 : Int64) <<< (((Int32.ofNat a)).toInt64 &&& 63)))), .second] [(.int (((Int32.ofNat (a / 64)) <<< ((6 : Int32) &&& 31)) + (Jvm.Free.JP.Long_numberOfTrailingZeros_J.val ((W (a / 64)) &&& ((-1 : Int64) <<< (((Int32.ofNat a)).toInt64 &&& 63))))))]))
    refine own_ret X5 hlk (v := some (.int (((Int32.ofNat (a / 64)) <<< ((6 : Int32) &&& 31)) + (Jvm.Free.JP.Long_numberOfTrailingZeros_J.val ((W (a / 64)) &&& ((-1 : Int64) <<< (((Int32.ofNat a)).toInt64 &&& 63))))))) (fun h => by rw [Bd.returns] at h; cases h) ?_ (by decide) (by decide) (fun fs hr => retI X5 hx Bd.returns (hb hby d4_64) hr)
    show Q4 Z a1 wa sa k a W U S h0 n0 _ T5.heap _
    rw [e5]
    exact ⟨⟨_, rfl, (own_ff_here I (by omega) a (by omega) hc21)⟩, N5, rfl⟩
theorem d5_0 : decode prog_18_method_5_code 0 = .ok (.aload_n 0, 1) := by decide +kernel
theorem d5_1 : decode prog_18_method_5_code 1 = .ok (.iload_n 1, 1) := by decide +kernel
theorem d5_2 : decode prog_18_method_5_code 2 = .ok (.invokevirtual 34, 3) := by decide +kernel
theorem d5_5 : decode prog_18_method_5_code 5 = .ok (.istore_n 2, 1) := by decide +kernel
theorem d5_6 : decode prog_18_method_5_code 6 = .ok (.iload_n 2, 1) := by decide +kernel
theorem d5_7 : decode prog_18_method_5_code 7 = .ok (.ifCond .ge 9, 3) := by decide +kernel
theorem d5_10 : decode prog_18_method_5_code 10 = .ok (.aload_n 0, 1) := by decide +kernel
theorem d5_11 : decode prog_18_method_5_code 11 = .ok (.iconst 0, 1) := by decide +kernel
theorem d5_12 : decode prog_18_method_5_code 12 = .ok (.invokevirtual 34, 3) := by decide +kernel
theorem d5_15 : decode prog_18_method_5_code 15 = .ok (.istore_n 2, 1) := by decide +kernel
theorem d5_16 : decode prog_18_method_5_code 16 = .ok (.iload_n 2, 1) := by decide +kernel
theorem d5_17 : decode prog_18_method_5_code 17 = .ok (.ifCond .ge 13, 3) := by decide +kernel
theorem d5_30 : decode prog_18_method_5_code 30 = .ok (.iload_n 2, 1) := by decide +kernel
theorem d5_31 : decode prog_18_method_5_code 31 = .ok (.iload_n 1, 1) := by decide +kernel
theorem d5_32 : decode prog_18_method_5_code 32 = .ok (.isub, 1) := by decide +kernel
theorem d5_33 : decode prog_18_method_5_code 33 = .ok (.aload_n 0, 1) := by decide +kernel
theorem d5_34 : decode prog_18_method_5_code 34 = .ok (.getfield 7, 3) := by decide +kernel
theorem d5_37 : decode prog_18_method_5_code 37 = .ok (.iand, 1) := by decide +kernel
theorem d5_38 : decode prog_18_method_5_code 38 = .ok (.ireturn, 1) := by decide +kernel
theorem pd_5_0 : parseMethodDescriptor "(I)I" = some ⟨[.int], some .int⟩ := by decide +kernel
theorem pn_5 : plainName "com/example/wayfold/wayfold/engine/FilledBuckets" = true := by first | (simp [plainName, overriddenIn]; done) | decide +kernel
theorem ef_5 (m : MethodId) (a1 : Addr) (wa sa : Addr) (k a : Nat) (W U : Nat → Int64) (S : Nat → Bool) : entryFrame m #[(.ref a1), (.int (Int32.ofNat a))] 3 = mkF m 0 #[.val (.ref a1), .val (.int (Int32.ofNat a)), .unset] [] := by first | (simp [entryFrame, mkF, argsToLocals, Value.category]; done) | rfl
def Q5 (Z : State) (a1 : Addr) (wa sa : Addr) (k a : Nat) (W U : Nat → Int64) (S : Nat → Bool) (h0 : Heap) (n0 : Nat) (v : Option Value) (h : Heap) (L : List Loc) : Prop := (∃ r : Nat, v = some (.int (((Int32.ofNat r) - (Int32.ofNat a)) &&& (Int32.ofNat (2 ^ k - 1)))) ∧ own_found S a r) ∧ Fr n0 L ∧ h = h0
set_option maxRecDepth 65536 in
set_option maxHeartbeats 40000000 in
theorem rm5 (l : Launch) (Z : State) (a0 : Array Value) (hw : ∀ d ∈ tables_1, d.before a0 Z = true) (ws : List Jvm.Cond) (a1 : Addr) (wa sa : Addr) (k a : Nat) (W U : Nat → Int64) (S : Nat → Bool) (h0 : Heap) (n0 : Nat) (Z0 : n0 ≤ h0.size) (hab : a < 64 * own_NW k) (hne : ∃ j, S j = true) (hk : k < 16) (HF : own_FB Z h0 a1 wa sa k W U) (I : own_inv S (own_NW k) (own_NS k) W U) :
    MetFree l (⟨"com/example/wayfold/wayfold/engine/FilledBuckets", "stepsToFilled", "(I)I"⟩ : MethodName) (head1 (Jvm.Cond.code (⟨"com/example/wayfold/wayfold/engine/FilledBuckets", "stepsToFilled", "(I)I"⟩ : MethodName) prog_18_method_5_code 3 (some .int) :: ws) ({ frames := 4, cells := 0, slots := 0, locals := 62 } : Room)) (fun zA zU => zA = #[(.ref a1), (.int (Int32.ofNat a))] ∧ Z.Warmed39 zU.vm ∧ zU.heap = h0) (fun _ _ _ _ _ => True) (fun _ zU zo zT => ∃ zv zL, zo = .returned zv ∧ Q5 Z a1 wa sa k a W U S h0 n0 zv zT.heap zL ∧ FrameEnd zU zo zT zL ({ frames := 4, cells := 0, slots := 0, locals := 62 } : Room).cells ({ frames := 4, cells := 0, slots := 0, locals := 62 } : Room).slots) := by
  refine MetFree.of_bodySF (plainFor_of_name pn_5) hisR ?_
  intro p e s m args below meth c s₁ Bd hml0 hP hK
  obtain ⟨rfl, hZ, hh⟩ := hP
  have hx := Bd.exec
  have hby := Bd.bytes
  have hml : c.maxLocals = 3 := hml0
  have hown : s.vm.findClass "com/example/wayfold/wayfold/engine/FilledBuckets" = some m.cls := findClass_of_methodNamed Bd.named
  have hnm := (name_of_methodNamed Bd.named Bd.method).1
  have hlk : meth.locks = false := Bd.notSynchronized
  have X0 : Stand p l e ({ frames := 4, cells := 0, slots := 0, locals := 62 } : Room) s m #[(.ref a1), (.int (Int32.ofNat a))] below meth c s₁ [] 0 0 := Stand.of_body Bd
  have e0 : s₁.heap = h0 := by rw [← hh, Bd.state]; rfl
  have N0 := Fr.nil n0
  refine own_step (p := p) (e := e) (below := below) (U' := s₁.setTop (mkF m 0 #[.val (.ref a1), .val (.int (Int32.ofNat a)), .unset] [])) (fun _ zk => castTop (ef_5 m a1 wa sa k a W U S) zk) ?_
  obtain ⟨E, Fm, Fw, Fs, AW, AU, n1, n2, n3⟩ := HF
  obtain ⟨z1, z2, z3, z4, z5, z6⟩ := own_sz k hk
  refine own_step (fun _ zk => XS.aloadN X0.here hx rfl (hb hby d5_0) rfl rfl zk) ?_
  show own_E p e below _ (s₁.setTop (mkF m 1 #[.val (.ref a1), .val (.int (Int32.ofNat a)), .unset] [(.ref a1)]))
  refine own_step (fun _ zk => XS.iloadN X0.here hx rfl (hb hby d5_1) rfl zk) ?_
  show own_E p e below _ (s₁.setTop (mkF m 2 #[.val (.ref a1), .val (.int (Int32.ofNat a)), .unset] [(.int (Int32.ofNat a)), (.ref a1)]))
  obtain ⟨cq1, q1, q1'⟩ := E.cell
  obtain ⟨_, _, ⟨T1, zL1, zK1, zN1⟩, -, X1, ⟨zLc1, hQ1, zl1, zy1, zz1⟩, st1⟩ := X0.privateBack hx (y := (⟨"com/example/wayfold/wayfold/engine/FilledBuckets", "firstFilledFrom", "(I)I"⟩ : MethodName)) hown (mvT hZ (hw _ (List.mem_of_getElem? (i := 30) rfl))) (mvT hZ (hw _ (List.mem_of_getElem? (i := 31) rfl))) (mvT hZ (Jvm.Kit.selects_private (y := (⟨"com/example/wayfold/wayfold/engine/FilledBuckets", "firstFilledFrom", "(I)I"⟩ : MethodName)) (by decide) (hw _ (List.mem_of_getElem? (i := 1) rfl)) (hw _ (List.mem_of_getElem? (i := 32) rfl)) (hw _ (List.mem_of_getElem? (i := 31) rfl)))) (Cond.privateMethod_at (mvP hZ (hw _ (List.mem_of_getElem? (i := 32) rfl)) (args := #[]))) (mvT hZ (hw _ (List.mem_of_getElem? (i := 33) rfl))) (by decide) (backOf (W := 0) (rm4 l Z a0 hw [] a1 wa sa k a W U S h0 n0 Z0 (by omega) hk ⟨E, Fm, Fw, Fs, AW, AU, n1, n2, n3⟩ I) hZ (hw _ (List.mem_of_getElem? (i := 33) rfl)) (hw _ (List.mem_of_getElem? (i := 2) rfl)) (by decide) (by decide)) (g := (mkF m 2 #[.val (.ref a1), .val (.int (Int32.ofNat a)), .unset] [(.int (Int32.ofNat a)), (.ref a1)])) rfl (by rw [hml]; rfl) (Steps.refl _) (a := a1) (by rw [e0]; exact q1) q1' (argsL := [(.int (Int32.ofNat a))]) (rest := []) (lenOf pd_5_0 rfl) rfl (by show 2 * 0 + _ ≤ _; exact Nat.le_of_eq rfl) (hb hby d5_2) (fun _ _ => ⟨rfl, e0, (by decide : 0 + 0 ≤ _), (by decide : 0 + 0 ≤ _)⟩)
  dsimp only [Pt.U, Pt.locs, Pt.cells, Pt.slots] at X1 zl1 zy1 zz1 st1 hQ1
  rw [show zK1 = 0 from zy1, show zN1 = 0 from zz1] at X1
  obtain ⟨⟨r1, rfl, hr1⟩, N1q, e1⟩ := hQ1
  have N1 : Fr n0 zL1 := by rw [zl1]; exact Fr.app N0 N1q
  refine own_step (fun _ zk => (st1).trans zk) ?_
  show own_E p e below _ (T1.setTop (mkF m 5 #[.val (.ref a1), .val (.int (Int32.ofNat a)), .unset] [(.int r1)]))
  rcases hr1 with ⟨n1, rfl, u0, u2, u3, u4⟩ | ⟨rfl, u1⟩
  · skip
    show own_E p e below _ (T1.setTop (mkF m 5 #[.val (.ref a1), .val (.int (Int32.ofNat a)), .unset] [(.int (Int32.ofNat n1))]))
    refine own_step (fun _ zk => XS.istoreN X1.here hx rfl (hb hby d5_5) rfl (l' := #[.val (.ref a1), .val (.int (Int32.ofNat a)), .val (.int (Int32.ofNat n1))]) rfl zk) ?_
    show own_E p e below _ (T1.setTop (mkF m 6 #[.val (.ref a1), .val (.int (Int32.ofNat a)), .val (.int (Int32.ofNat n1))] []))
    refine own_step (fun _ zk => XS.iloadN X1.here hx rfl (hb hby d5_6) rfl zk) ?_
    show own_E p e below _ (T1.setTop (mkF m 7 #[.val (.ref a1), .val (.int (Int32.ofNat a)), .val (.int (Int32.ofNat n1))] [(.int (Int32.ofNat n1))]))
    refine own_step (fun _ zk => XS.ifYes X1.here hx rfl (pc0 := 7) (pc' := 16) rfl (hb hby d5_7) rfl ((if0 _ _).trans (flt (own_nn0 _ (by omega))).2.1) (by decide) (by decide) zk) ?_
    show own_E p e below _ (T1.setTop (mkF m 16 #[.val (.ref a1), .val (.int (Int32.ofNat a)), .val (.int (Int32.ofNat n1))] []))
    refine own_step (fun _ zk => XS.iloadN X1.here hx rfl (hb hby d5_16) rfl zk) ?_
    show own_E p e below _ (T1.setTop (mkF m 17 #[.val (.ref a1), .val (.int (Int32.ofNat a)), .val (.int (Int32.ofNat n1))] [(.int (Int32.ofNat n1))]))
    refine own_step (fun _ zk => XS.ifYes X1.here hx rfl (pc0 := 17) (pc' := 30) rfl (hb hby d5_17) rfl ((if0 _ _).trans (flt (own_nn0 _ (by omega))).2.1) (by decide) (by decide) zk) ?_
    show own_E p e below _ (T1.setTop (mkF m 30 #[.val (.ref a1), .val (.int (Int32.ofNat a)), .val (.int (Int32.ofNat n1))] []))
    refine own_step (fun _ zk => XS.iloadN X1.here hx rfl (hb hby d5_30) rfl zk) ?_
    show own_E p e below _ (T1.setTop (mkF m 31 #[.val (.ref a1), .val (.int (Int32.ofNat a)), .val (.int (Int32.ofNat n1))] [(.int (Int32.ofNat n1))]))
    refine own_step (fun _ zk => XS.iloadN X1.here hx rfl (hb hby d5_31) rfl zk) ?_
    show own_E p e below _ (T1.setTop (mkF m 32 #[.val (.ref a1), .val (.int (Int32.ofNat a)), .val (.int (Int32.ofNat n1))] [(.int (Int32.ofNat a)), (.int (Int32.ofNat n1))]))
    refine own_step (fun _ zk => XS.isub X1.here hx rfl (hb hby d5_32) rfl zk) ?_
    show own_E p e below _ (T1.setTop (mkF m 33 #[.val (.ref a1), .val (.int (Int32.ofNat a)), .val (.int (Int32.ofNat n1))] [(.int ((Int32.ofNat n1) - (Int32.ofNat a)))]))
    refine own_step (fun _ zk => XS.aloadN X1.here hx rfl (hb hby d5_33) rfl rfl zk) ?_
    show own_E p e below _ (T1.setTop (mkF m 34 #[.val (.ref a1), .val (.int (Int32.ofNat a)), .val (.int (Int32.ofNat n1))] [(.ref a1), (.int ((Int32.ofNat n1) - (Int32.ofNat a)))]))
    obtain ⟨T2, X2, e2, st2⟩ := getF X1 hx hZ hown (host := "") (Or.inl (hw _ (List.mem_of_getElem? (i := 9) rfl))) Via.refl e1 Fm (g := (mkF m 34 #[.val (.ref a1), .val (.int (Int32.ofNat a)), .val (.int (Int32.ofNat n1))] [(.ref a1), (.int ((Int32.ofNat n1) - (Int32.ofNat a)))])) rfl rfl (hb hby d5_34)
    refine own_step st2 ?_
    show own_E p e below _ (T2.setTop (mkF m 37 #[.val (.ref a1), .val (.int (Int32.ofNat a)), .val (.int (Int32.ofNat n1))] [(.int (Int32.ofNat (2 ^ k - 1))), (.int ((Int32.ofNat n1) - (Int32.ofNat a)))]))
    refine own_step (fun _ zk => XS.iand X2.here hx rfl (hb hby d5_37) rfl zk) ?_
    show own_E p e below _ (T2.setTop (mkF m 38 #[.val (.ref a1), .val (.int (Int32.ofNat a)), .val (.int (Int32.ofNat n1))] [(.int (((Int32.ofNat n1) - (Int32.ofNat a)) &&& (Int32.ofNat (2 ^ k - 1))))]))
    refine own_ret X2 hlk (v := some (.int (((Int32.ofNat n1) - (Int32.ofNat a)) &&& (Int32.ofNat (2 ^ k - 1))))) (fun h => by rw [Bd.returns] at h; cases h) ?_ (by decide) (by decide) (fun fs hr => retI X2 hx Bd.returns (hb hby d5_38) hr)
    show Q5 Z a1 wa sa k a W U S h0 n0 _ T2.heap _
    rw [e2]
    exact ⟨⟨_, rfl, ⟨by omega, u3, Or.inl ⟨u2, u4⟩⟩⟩, N1, rfl⟩
  · skip
    show own_E p e below _ (T1.setTop (mkF m 5 #[.val (.ref a1), .val (.int (Int32.ofNat a)), .unset] [(.int (-1 : Int32))]))
    refine own_step (fun _ zk => XS.istoreN X1.here hx rfl (hb hby d5_5) rfl (l' := #[.val (.ref a1), .val (.int (Int32.ofNat a)), .val (.int (-1 : Int32))]) rfl zk) ?_
    show own_E p e below _ (T1.setTop (mkF m 6 #[.val (.ref a1), .val (.int (Int32.ofNat a)), .val (.int (-1 : Int32))] []))
    refine own_step (fun _ zk => XS.iloadN X1.here hx rfl (hb hby d5_6) rfl zk) ?_
    show own_E p e below _ (T1.setTop (mkF m 7 #[.val (.ref a1), .val (.int (Int32.ofNat a)), .val (.int (-1 : Int32))] [(.int (-1 : Int32))]))
    refine own_step (fun _ zk => XS.ifNo X1.here hx rfl (hb hby d5_7) rfl ((if0 _ _).trans (tlt (by decide)).2.1) zk) ?_
    show own_E p e below _ (T1.setTop (mkF m 10 #[.val (.ref a1), .val (.int (Int32.ofNat a)), .val (.int (-1 : Int32))] []))
    refine own_step (fun _ zk => XS.aloadN X1.here hx rfl (hb hby d5_10) rfl rfl zk) ?_
    show own_E p e below _ (T1.setTop (mkF m 11 #[.val (.ref a1), .val (.int (Int32.ofNat a)), .val (.int (-1 : Int32))] [(.ref a1)]))
    refine own_step (fun _ zk => XS.iconst X1.here hx rfl (hb hby d5_11) zk) ?_
    show own_E p e below _ (T1.setTop (mkF m 12 #[.val (.ref a1), .val (.int (Int32.ofNat a)), .val (.int (-1 : Int32))] [(.int (0 : Int32)), (.ref a1)]))
    obtain ⟨cq3, q3, q3'⟩ := E.cell
    obtain ⟨_, _, ⟨T3, zL3, zK3, zN3⟩, -, X3, ⟨zLc3, hQ3, zl3, zy3, zz3⟩, st3⟩ := X1.privateBack hx (y := (⟨"com/example/wayfold/wayfold/engine/FilledBuckets", "firstFilledFrom", "(I)I"⟩ : MethodName)) hown (mvT hZ (hw _ (List.mem_of_getElem? (i := 30) rfl))) (mvT hZ (hw _ (List.mem_of_getElem? (i := 31) rfl))) (mvT hZ (Jvm.Kit.selects_private (y := (⟨"com/example/wayfold/wayfold/engine/FilledBuckets", "firstFilledFrom", "(I)I"⟩ : MethodName)) (by decide) (hw _ (List.mem_of_getElem? (i := 1) rfl)) (hw _ (List.mem_of_getElem? (i := 32) rfl)) (hw _ (List.mem_of_getElem? (i := 31) rfl)))) (Cond.privateMethod_at (mvP hZ (hw _ (List.mem_of_getElem? (i := 32) rfl)) (args := #[]))) (mvT hZ (hw _ (List.mem_of_getElem? (i := 33) rfl))) (by decide) (backOf (W := 0) (rm4 l Z a0 hw [] a1 wa sa k 0 W U S h0 n0 Z0 (by omega) hk ⟨E, Fm, Fw, Fs, AW, AU, n1, n2, n3⟩ I) hZ (hw _ (List.mem_of_getElem? (i := 33) rfl)) (hw _ (List.mem_of_getElem? (i := 2) rfl)) (by decide) (by decide)) (g := (mkF m 12 #[.val (.ref a1), .val (.int (Int32.ofNat a)), .val (.int (-1 : Int32))] [(.int (0 : Int32)), (.ref a1)])) rfl (by rw [hml]; rfl) (Steps.refl _) (a := a1) (by rw [e1]; exact q3) q3' (argsL := [(.int (0 : Int32))]) (rest := []) (lenOf pd_5_0 rfl) rfl (by show 2 * 0 + _ ≤ _; exact Nat.le_of_eq rfl) (hb hby d5_12) (fun _ _ => ⟨rfl, e1, (by decide : 0 + 0 ≤ _), (by decide : 0 + 0 ≤ _)⟩)
    dsimp only [Pt.U, Pt.locs, Pt.cells, Pt.slots] at X3 zl3 zy3 zz3 st3 hQ3
    rw [show zK3 = 0 from zy3, show zN3 = 0 from zz3] at X3
    obtain ⟨⟨r3, rfl, hr3⟩, N3q, e3⟩ := hQ3
    have N3 : Fr n0 zL3 := by rw [zl3]; exact Fr.app N1 N3q
    refine own_step (fun _ zk => (st3).trans zk) ?_
    show own_E p e below _ (T3.setTop (mkF m 15 #[.val (.ref a1), .val (.int (Int32.ofNat a)), .val (.int (-1 : Int32))] [(.int r3)]))
    rcases hr3 with ⟨n3, rfl, w0, w2, w3, w4⟩ | ⟨rfl, w1⟩
    · skip
      show own_E p e below _ (T3.setTop (mkF m 15 #[.val (.ref a1), .val (.int (Int32.ofNat a)), .val (.int (-1 : Int32))] [(.int (Int32.ofNat n3))]))
      refine own_step (fun _ zk => XS.istoreN X3.here hx rfl (hb hby d5_15) rfl (l' := #[.val (.ref a1), .val (.int (Int32.ofNat a)), .val (.int (Int32.ofNat n3))]) rfl zk) ?_
      show own_E p e below _ (T3.setTop (mkF m 16 #[.val (.ref a1), .val (.int (Int32.ofNat a)), .val (.int (Int32.ofNat n3))] []))
      refine own_step (fun _ zk => XS.iloadN X3.here hx rfl (hb hby d5_16) rfl zk) ?_
      show own_E p e below _ (T3.setTop (mkF m 17 #[.val (.ref a1), .val (.int (Int32.ofNat a)), .val (.int (Int32.ofNat n3))] [(.int (Int32.ofNat n3))]))
      refine own_step (fun _ zk => XS.ifYes X3.here hx rfl (pc0 := 17) (pc' := 30) rfl (hb hby d5_17) rfl ((if0 _ _).trans (flt (own_nn0 _ (by omega))).2.1) (by decide) (by decide) zk) ?_
      show own_E p e below _ (T3.setTop (mkF m 30 #[.val (.ref a1), .val (.int (Int32.ofNat a)), .val (.int (Int32.ofNat n3))] []))
      refine own_step (fun _ zk => XS.iloadN X3.here hx rfl (hb hby d5_30) rfl zk) ?_
      show own_E p e below _ (T3.setTop (mkF m 31 #[.val (.ref a1), .val (.int (Int32.ofNat a)), .val (.int (Int32.ofNat n3))] [(.int (Int32.ofNat n3))]))
      refine own_step (fun _ zk => XS.iloadN X3.here hx rfl (hb hby d5_31) rfl zk) ?_
      show own_E p e below _ (T3.setTop (mkF m 32 #[.val (.ref a1), .val (.int (Int32.ofNat a)), .val (.int (Int32.ofNat n3))] [(.int (Int32.ofNat a)), (.int (Int32.ofNat n3))]))
      refine own_step (fun _ zk => XS.isub X3.here hx rfl (hb hby d5_32) rfl zk) ?_
      show own_E p e below _ (T3.setTop (mkF m 33 #[.val (.ref a1), .val (.int (Int32.ofNat a)), .val (.int (Int32.ofNat n3))] [(.int ((Int32.ofNat n3) - (Int32.ofNat a)))]))
      refine own_step (fun _ zk => XS.aloadN X3.here hx rfl (hb hby d5_33) rfl rfl zk) ?_
      show own_E p e below _ (T3.setTop (mkF m 34 #[.val (.ref a1), .val (.int (Int32.ofNat a)), .val (.int (Int32.ofNat n3))] [(.ref a1), (.int ((Int32.ofNat n3) - (Int32.ofNat a)))]))
      obtain ⟨T4, X4, e4, st4⟩ := getF X3 hx hZ hown (host := "") (Or.inl (hw _ (List.mem_of_getElem? (i := 9) rfl))) Via.refl e3 Fm (g := (mkF m 34 #[.val (.ref a1), .val (.int (Int32.ofNat a)), .val (.int (Int32.ofNat n3))] [(.ref a1), (.int ((Int32.ofNat n3) - (Int32.ofNat a)))])) rfl rfl (hb hby d5_34)
      refine own_step st4 ?_
      show own_E p e below _ (T4.setTop (mkF m 37 #[.val (.ref a1), .val (.int (Int32.ofNat a)), .val (.int (Int32.ofNat n3))] [(.int (Int32.ofNat (2 ^ k - 1))), (.int ((Int32.ofNat n3) - (Int32.ofNat a)))]))
      refine own_step (fun _ zk => XS.iand X4.here hx rfl (hb hby d5_37) rfl zk) ?_
      show own_E p e below _ (T4.setTop (mkF m 38 #[.val (.ref a1), .val (.int (Int32.ofNat a)), .val (.int (Int32.ofNat n3))] [(.int (((Int32.ofNat n3) - (Int32.ofNat a)) &&& (Int32.ofNat (2 ^ k - 1))))]))
      refine own_ret X4 hlk (v := some (.int (((Int32.ofNat n3) - (Int32.ofNat a)) &&& (Int32.ofNat (2 ^ k - 1))))) (fun h => by rw [Bd.returns] at h; cases h) ?_ (by decide) (by decide) (fun fs hr => retI X4 hx Bd.returns (hb hby d5_38) hr)
      show Q5 Z a1 wa sa k a W U S h0 n0 _ T4.heap _
      rw [e4]
      exact ⟨⟨_, rfl, ⟨by omega, w3, Or.inr ⟨u1, fun j hj => w4 j (by omega) hj⟩⟩⟩, N3, rfl⟩
    · skip
      obtain ⟨j, hj⟩ := hne
      rw [w1 j (by omega)] at hj; cases hj
theorem pd_0_0 : parseMethodDescriptor "(I)V" = some ⟨[.int], none⟩ := by decide +kernel
theorem pd_0_1 : parseMethodDescriptor "(I)I" = some ⟨[.int], some .int⟩ := by decide +kernel
theorem pd_0_2 : parseMethodDescriptor "(II)I" = some ⟨[.int, .int], some .int⟩ := by decide +kernel
theorem pn_0 : plainName "com/example/wayfold/wayfold/engine/FilledBucketsFillPinLaw" = true := by first | (simp [plainName, overriddenIn]; done) | decide +kernel
theorem ef_0 (m : MethodId) (p1 : Int32) (p2 : Int32) (p3 : Int32) (p4 : Int32)  : entryFrame m #[(.int p1), (.int p2), (.int p3), (.int p4)] maxLocals = mkF m 0 #[.val (.int p1), .val (.int p2), .val (.int p3), .val (.int p4), .unset, .unset, .unset, .unset, .unset, .unset, .unset, .unset, .unset, .unset, .unset, .unset, .unset] [] := by first | (simp [entryFrame, mkF, argsToLocals, Value.category, maxLocals]; done) | rfl
def Q0 (Z : State) (p1 : Int32) (p2 : Int32) (p3 : Int32) (p4 : Int32)  (h0 : Heap) (n0 : Nat) (v : Option Value) (h : Heap) (L : List Loc) : Prop := v = some (.int 1) ∧ Fr n0 L
set_option maxRecDepth 65536 in
set_option maxHeartbeats 40000000 in
theorem rm0 (l : Launch) (Z : State) (a0 : Array Value) (hw : ∀ d ∈ tables_1, d.before a0 Z = true) (ws : List Jvm.Cond) (p1 : Int32) (p2 : Int32) (p3 : Int32) (p4 : Int32)  (h0 : Heap) (n0 : Nat) (Z0 : n0 ≤ h0.size)  :
    MetFree l x (head1 (Jvm.Cond.code x code maxLocals ret :: ws) room_1) (fun zA zU => zA = #[(.int p1), (.int p2), (.int p3), (.int p4)] ∧ Z.Warmed39 zU.vm ∧ zU.heap = h0) (fun _ _ _ _ _ => True) (fun _ zU zo zT => ∃ zv zL, zo = .returned zv ∧ Q0 Z p1 p2 p3 p4 h0 n0 zv zT.heap zL ∧ FrameEnd zU zo zT zL room_1.cells room_1.slots) := by
  refine MetFree.of_bodySF (plainFor_of_name pn_0) hisR ?_
  intro p e s m args below meth c s₁ Bd hml0 hP hK
  obtain ⟨rfl, hZ, hh⟩ := hP
  have hx := Bd.exec
  have hby := Bd.bytes
  have hml : c.maxLocals = 17 := hml0
  have hown : s.vm.findClass "com/example/wayfold/wayfold/engine/FilledBucketsFillPinLaw" = some m.cls := findClass_of_methodNamed Bd.named
  have hnm := (name_of_methodNamed Bd.named Bd.method).1
  have hlk : meth.locks = false := Bd.notSynchronized
  have X0 : Stand p l e room_1 s m #[(.int p1), (.int p2), (.int p3), (.int p4)] below meth c s₁ [] 0 0 := Stand.of_body Bd
  have e0 : s₁.heap = h0 := by rw [← hh, Bd.state]; rfl
  have N0 := Fr.nil n0
  refine own_step (p := p) (e := e) (below := below) (U' := s₁.setTop (mkF m 0 #[.val (.int p1), .val (.int p2), .val (.int p3), .val (.int p4), .unset, .unset, .unset, .unset, .unset, .unset, .unset, .unset, .unset, .unset, .unset, .unset, .unset] [])) (fun _ zk => castTop (ef_0 m p1 p2 p3 p4 ) zk) ?_
  have K_0 : Keep h0 h0 [] := Keep.refl _ _
  refine own_step (fun _ zk => XS.iconst X0.here hx rfl (hb hby at_0) zk) ?_
  show own_E p e below _ (s₁.setTop (mkF m 1 #[.val (.int p1), .val (.int p2), .val (.int p3), .val (.int p4), .unset, .unset, .unset, .unset, .unset, .unset, .unset, .unset, .unset, .unset, .unset, .unset, .unset] [(.int (1 : Int32))]))
  refine own_step (fun _ zk => XS.iloadN X0.here hx rfl (hb hby at_1) rfl zk) ?_
  show own_E p e below _ (s₁.setTop (mkF m 2 #[.val (.int p1), .val (.int p2), .val (.int p3), .val (.int p4), .unset, .unset, .unset, .unset, .unset, .unset, .unset, .unset, .unset, .unset, .unset, .unset, .unset] [(.int p1), (.int (1 : Int32))]))
  refine own_step (fun _ zk => XS.bipush X0.here hx rfl (hb hby at_2) zk) ?_
  show own_E p e below _ (s₁.setTop (mkF m 4 #[.val (.int p1), .val (.int p2), .val (.int p3), .val (.int p4), .unset, .unset, .unset, .unset, .unset, .unset, .unset, .unset, .unset, .unset, .unset, .unset, .unset] [(.int (15 : Int32)), (.int p1), (.int (1 : Int32))]))
  refine own_step (fun _ zk => XS.iand X0.here hx rfl (hb hby at_4) rfl zk) ?_
  show own_E p e below _ (s₁.setTop (mkF m 5 #[.val (.int p1), .val (.int p2), .val (.int p3), .val (.int p4), .unset, .unset, .unset, .unset, .unset, .unset, .unset, .unset, .unset, .unset, .unset, .unset, .unset] [(.int (p1 &&& (15 : Int32))), (.int (1 : Int32))]))
  generalize hKB : (p1 &&& (15 : Int32)) = KB
  show own_E p e below _ (s₁.setTop (mkF m 5 #[.val (.int p1), .val (.int p2), .val (.int p3), .val (.int p4), .unset, .unset, .unset, .unset, .unset, .unset, .unset, .unset, .unset, .unset, .unset, .unset, .unset] [(.int KB), (.int (1 : Int32))]))
  obtain ⟨k, hKe, hk⟩ := own_k15 _ _ hKB
  subst hKe
  obtain ⟨z1, z2, z3, z4, z5, z6⟩ := own_sz k hk
  show own_E p e below _ (s₁.setTop (mkF m 5 #[.val (.int p1), .val (.int p2), .val (.int p3), .val (.int p4), .unset, .unset, .unset, .unset, .unset, .unset, .unset, .unset, .unset, .unset, .unset, .unset, .unset] [(.int (Int32.ofNat k)), (.int (1 : Int32))]))
  refine own_step (fun _ zk => Jvm.Free.XT.ishl X0.here hx rfl (hb hby at_5) rfl zk) ?_
  show own_E p e below _ (s₁.setTop (mkF m 6 #[.val (.int p1), .val (.int p2), .val (.int p3), .val (.int p4), .unset, .unset, .unset, .unset, .unset, .unset, .unset, .unset, .unset, .unset, .unset, .unset, .unset] [(.int ((1 : Int32) <<< ((Int32.ofNat k) &&& 31)))]))
  rw [show ((1 : Int32) <<< ((Int32.ofNat k) &&& 31)) = (Int32.ofNat (2 ^ k)) from own_buckets k hk]
  show own_E p e below _ (s₁.setTop (mkF m 6 #[.val (.int p1), .val (.int p2), .val (.int p3), .val (.int p4), .unset, .unset, .unset, .unset, .unset, .unset, .unset, .unset, .unset, .unset, .unset, .unset, .unset] [(.int (Int32.ofNat (2 ^ k)))]))
  refine own_step (fun _ zk => XS.istore X0.here hx rfl (hb hby at_6) rfl (l' := #[.val (.int p1), .val (.int p2), .val (.int p3), .val (.int p4), .val (.int (Int32.ofNat (2 ^ k))), .unset, .unset, .unset, .unset, .unset, .unset, .unset, .unset, .unset, .unset, .unset, .unset]) rfl zk) ?_
  show own_E p e below _ (s₁.setTop (mkF m 8 #[.val (.int p1), .val (.int p2), .val (.int p3), .val (.int p4), .val (.int (Int32.ofNat (2 ^ k))), .unset, .unset, .unset, .unset, .unset, .unset, .unset, .unset, .unset, .unset, .unset, .unset] []))
  refine own_step (fun _ zk => XS.iload X0.here hx rfl (hb hby at_8) rfl zk) ?_
  show own_E p e below _ (s₁.setTop (mkF m 10 #[.val (.int p1), .val (.int p2), .val (.int p3), .val (.int p4), .val (.int (Int32.ofNat (2 ^ k))), .unset, .unset, .unset, .unset, .unset, .unset, .unset, .unset, .unset, .unset, .unset, .unset] [(.int (Int32.ofNat (2 ^ k)))]))
  refine own_step (fun _ zk => XS.iconst X0.here hx rfl (hb hby at_10) zk) ?_
  show own_E p e below _ (s₁.setTop (mkF m 11 #[.val (.int p1), .val (.int p2), .val (.int p3), .val (.int p4), .val (.int (Int32.ofNat (2 ^ k))), .unset, .unset, .unset, .unset, .unset, .unset, .unset, .unset, .unset, .unset, .unset, .unset] [(.int (1 : Int32)), (.int (Int32.ofNat (2 ^ k)))]))
  refine own_step (fun _ zk => XS.isub X0.here hx rfl (hb hby at_11) rfl zk) ?_
  show own_E p e below _ (s₁.setTop (mkF m 12 #[.val (.int p1), .val (.int p2), .val (.int p3), .val (.int p4), .val (.int (Int32.ofNat (2 ^ k))), .unset, .unset, .unset, .unset, .unset, .unset, .unset, .unset, .unset, .unset, .unset, .unset] [(.int ((Int32.ofNat (2 ^ k)) - (1 : Int32)))]))
  rw [show ((Int32.ofNat (2 ^ k)) - (1 : Int32)) = (Int32.ofNat (2 ^ k - 1)) from (own_mask_lit k hk).1]
  show own_E p e below _ (s₁.setTop (mkF m 12 #[.val (.int p1), .val (.int p2), .val (.int p3), .val (.int p4), .val (.int (Int32.ofNat (2 ^ k))), .unset, .unset, .unset, .unset, .unset, .unset, .unset, .unset, .unset, .unset, .unset, .unset] [(.int (Int32.ofNat (2 ^ k - 1)))]))
  refine own_step (fun _ zk => XS.istore X0.here hx rfl (hb hby at_12) rfl (l' := #[.val (.int p1), .val (.int p2), .val (.int p3), .val (.int p4), .val (.int (Int32.ofNat (2 ^ k))), .val (.int (Int32.ofNat (2 ^ k - 1))), .unset, .unset, .unset, .unset, .unset, .unset, .unset, .unset, .unset, .unset, .unset]) rfl zk) ?_
  show own_E p e below _ (s₁.setTop (mkF m 14 #[.val (.int p1), .val (.int p2), .val (.int p3), .val (.int p4), .val (.int (Int32.ofNat (2 ^ k))), .val (.int (Int32.ofNat (2 ^ k - 1))), .unset, .unset, .unset, .unset, .unset, .unset, .unset, .unset, .unset, .unset, .unset] []))
  refine own_step (fun _ zk => XS.iloadN X0.here hx rfl (hb hby at_14) rfl zk) ?_
  show own_E p e below _ (s₁.setTop (mkF m 15 #[.val (.int p1), .val (.int p2), .val (.int p3), .val (.int p4), .val (.int (Int32.ofNat (2 ^ k))), .val (.int (Int32.ofNat (2 ^ k - 1))), .unset, .unset, .unset, .unset, .unset, .unset, .unset, .unset, .unset, .unset, .unset] [(.int p2)]))
  refine own_step (fun _ zk => XS.iload X0.here hx rfl (hb hby at_15) rfl zk) ?_
  show own_E p e below _ (s₁.setTop (mkF m 17 #[.val (.int p1), .val (.int p2), .val (.int p3), .val (.int p4), .val (.int (Int32.ofNat (2 ^ k))), .val (.int (Int32.ofNat (2 ^ k - 1))), .unset, .unset, .unset, .unset, .unset, .unset, .unset, .unset, .unset, .unset, .unset] [(.int (Int32.ofNat (2 ^ k - 1))), (.int p2)]))
  refine own_step (fun _ zk => XS.iand X0.here hx rfl (hb hby at_17) rfl zk) ?_
  show own_E p e below _ (s₁.setTop (mkF m 18 #[.val (.int p1), .val (.int p2), .val (.int p3), .val (.int p4), .val (.int (Int32.ofNat (2 ^ k))), .val (.int (Int32.ofNat (2 ^ k - 1))), .unset, .unset, .unset, .unset, .unset, .unset, .unset, .unset, .unset, .unset, .unset] [(.int (p2 &&& (Int32.ofNat (2 ^ k - 1))))]))
  generalize hXX : (p2 &&& (Int32.ofNat (2 ^ k - 1))) = XX
  show own_E p e below _ (s₁.setTop (mkF m 18 #[.val (.int p1), .val (.int p2), .val (.int p3), .val (.int p4), .val (.int (Int32.ofNat (2 ^ k))), .val (.int (Int32.ofNat (2 ^ k - 1))), .unset, .unset, .unset, .unset, .unset, .unset, .unset, .unset, .unset, .unset, .unset] [(.int XX)]))
  obtain ⟨x, hXXe, hxl⟩ := own_masked _ _ k hk hXX
  subst hXXe
  show own_E p e below _ (s₁.setTop (mkF m 18 #[.val (.int p1), .val (.int p2), .val (.int p3), .val (.int p4), .val (.int (Int32.ofNat (2 ^ k))), .val (.int (Int32.ofNat (2 ^ k - 1))), .unset, .unset, .unset, .unset, .unset, .unset, .unset, .unset, .unset, .unset, .unset] [(.int (Int32.ofNat x))]))
  refine own_step (fun _ zk => XS.istore X0.here hx rfl (hb hby at_18) rfl (l' := #[.val (.int p1), .val (.int p2), .val (.int p3), .val (.int p4), .val (.int (Int32.ofNat (2 ^ k))), .val (.int (Int32.ofNat (2 ^ k - 1))), .val (.int (Int32.ofNat x)), .unset, .unset, .unset, .unset, .unset, .unset, .unset, .unset, .unset, .unset]) rfl zk) ?_
  show own_E p e below _ (s₁.setTop (mkF m 20 #[.val (.int p1), .val (.int p2), .val (.int p3), .val (.int p4), .val (.int (Int32.ofNat (2 ^ k))), .val (.int (Int32.ofNat (2 ^ k - 1))), .val (.int (Int32.ofNat x)), .unset, .unset, .unset, .unset, .unset, .unset, .unset, .unset, .unset, .unset] []))
  refine own_step (fun _ zk => XS.iloadN X0.here hx rfl (hb hby at_20) rfl zk) ?_
  show own_E p e below _ (s₁.setTop (mkF m 21 #[.val (.int p1), .val (.int p2), .val (.int p3), .val (.int p4), .val (.int (Int32.ofNat (2 ^ k))), .val (.int (Int32.ofNat (2 ^ k - 1))), .val (.int (Int32.ofNat x)), .unset, .unset, .unset, .unset, .unset, .unset, .unset, .unset, .unset, .unset] [(.int p3)]))
  refine own_step (fun _ zk => XS.iload X0.here hx rfl (hb hby at_21) rfl zk) ?_
  show own_E p e below _ (s₁.setTop (mkF m 23 #[.val (.int p1), .val (.int p2), .val (.int p3), .val (.int p4), .val (.int (Int32.ofNat (2 ^ k))), .val (.int (Int32.ofNat (2 ^ k - 1))), .val (.int (Int32.ofNat x)), .unset, .unset, .unset, .unset, .unset, .unset, .unset, .unset, .unset, .unset] [(.int (Int32.ofNat (2 ^ k - 1))), (.int p3)]))
  refine own_step (fun _ zk => XS.iand X0.here hx rfl (hb hby at_23) rfl zk) ?_
  show own_E p e below _ (s₁.setTop (mkF m 24 #[.val (.int p1), .val (.int p2), .val (.int p3), .val (.int p4), .val (.int (Int32.ofNat (2 ^ k))), .val (.int (Int32.ofNat (2 ^ k - 1))), .val (.int (Int32.ofNat x)), .unset, .unset, .unset, .unset, .unset, .unset, .unset, .unset, .unset, .unset] [(.int (p3 &&& (Int32.ofNat (2 ^ k - 1))))]))
  generalize hYY : (p3 &&& (Int32.ofNat (2 ^ k - 1))) = YY
  show own_E p e below _ (s₁.setTop (mkF m 24 #[.val (.int p1), .val (.int p2), .val (.int p3), .val (.int p4), .val (.int (Int32.ofNat (2 ^ k))), .val (.int (Int32.ofNat (2 ^ k - 1))), .val (.int (Int32.ofNat x)), .unset, .unset, .unset, .unset, .unset, .unset, .unset, .unset, .unset, .unset] [(.int YY)]))
  obtain ⟨y, hYYe, hyl⟩ := own_masked _ _ k hk hYY
  subst hYYe
  show own_E p e below _ (s₁.setTop (mkF m 24 #[.val (.int p1), .val (.int p2), .val (.int p3), .val (.int p4), .val (.int (Int32.ofNat (2 ^ k))), .val (.int (Int32.ofNat (2 ^ k - 1))), .val (.int (Int32.ofNat x)), .unset, .unset, .unset, .unset, .unset, .unset, .unset, .unset, .unset, .unset] [(.int (Int32.ofNat y))]))
  refine own_step (fun _ zk => XS.istore X0.here hx rfl (hb hby at_24) rfl (l' := #[.val (.int p1), .val (.int p2), .val (.int p3), .val (.int p4), .val (.int (Int32.ofNat (2 ^ k))), .val (.int (Int32.ofNat (2 ^ k - 1))), .val (.int (Int32.ofNat x)), .val (.int (Int32.ofNat y)), .unset, .unset, .unset, .unset, .unset, .unset, .unset, .unset, .unset]) rfl zk) ?_
  show own_E p e below _ (s₁.setTop (mkF m 26 #[.val (.int p1), .val (.int p2), .val (.int p3), .val (.int p4), .val (.int (Int32.ofNat (2 ^ k))), .val (.int (Int32.ofNat (2 ^ k - 1))), .val (.int (Int32.ofNat x)), .val (.int (Int32.ofNat y)), .unset, .unset, .unset, .unset, .unset, .unset, .unset, .unset, .unset] []))
  refine own_step (fun _ zk => XS.iloadN X0.here hx rfl (hb hby at_26) rfl zk) ?_
  show own_E p e below _ (s₁.setTop (mkF m 27 #[.val (.int p1), .val (.int p2), .val (.int p3), .val (.int p4), .val (.int (Int32.ofNat (2 ^ k))), .val (.int (Int32.ofNat (2 ^ k - 1))), .val (.int (Int32.ofNat x)), .val (.int (Int32.ofNat y)), .unset, .unset, .unset, .unset, .unset, .unset, .unset, .unset, .unset] [(.int p4)]))
  refine own_step (fun _ zk => XS.iload X0.here hx rfl (hb hby at_27) rfl zk) ?_
  show own_E p e below _ (s₁.setTop (mkF m 29 #[.val (.int p1), .val (.int p2), .val (.int p3), .val (.int p4), .val (.int (Int32.ofNat (2 ^ k))), .val (.int (Int32.ofNat (2 ^ k - 1))), .val (.int (Int32.ofNat x)), .val (.int (Int32.ofNat y)), .unset, .unset, .unset, .unset, .unset, .unset, .unset, .unset, .unset] [(.int (Int32.ofNat (2 ^ k - 1))), (.int p4)]))
  refine own_step (fun _ zk => XS.iand X0.here hx rfl (hb hby at_29) rfl zk) ?_
  show own_E p e below _ (s₁.setTop (mkF m 30 #[.val (.int p1), .val (.int p2), .val (.int p3), .val (.int p4), .val (.int (Int32.ofNat (2 ^ k))), .val (.int (Int32.ofNat (2 ^ k - 1))), .val (.int (Int32.ofNat x)), .val (.int (Int32.ofNat y)), .unset, .unset, .unset, .unset, .unset, .unset, .unset, .unset, .unset] [(.int (p4 &&& (Int32.ofNat (2 ^ k - 1))))]))
  generalize hQQ : (p4 &&& (Int32.ofNat (2 ^ k - 1))) = QQ
  show own_E p e below _ (s₁.setTop (mkF m 30 #[.val (.int p1), .val (.int p2), .val (.int p3), .val (.int p4), .val (.int (Int32.ofNat (2 ^ k))), .val (.int (Int32.ofNat (2 ^ k - 1))), .val (.int (Int32.ofNat x)), .val (.int (Int32.ofNat y)), .unset, .unset, .unset, .unset, .unset, .unset, .unset, .unset, .unset] [(.int QQ)]))
  obtain ⟨q, hQQe, hql⟩ := own_masked _ _ k hk hQQ
  subst hQQe
  show own_E p e below _ (s₁.setTop (mkF m 30 #[.val (.int p1), .val (.int p2), .val (.int p3), .val (.int p4), .val (.int (Int32.ofNat (2 ^ k))), .val (.int (Int32.ofNat (2 ^ k - 1))), .val (.int (Int32.ofNat x)), .val (.int (Int32.ofNat y)), .unset, .unset, .unset, .unset, .unset, .unset, .unset, .unset, .unset] [(.int (Int32.ofNat q))]))
  refine own_step (fun _ zk => XS.istore X0.here hx rfl (hb hby at_30) rfl (l' := #[.val (.int p1), .val (.int p2), .val (.int p3), .val (.int p4), .val (.int (Int32.ofNat (2 ^ k))), .val (.int (Int32.ofNat (2 ^ k - 1))), .val (.int (Int32.ofNat x)), .val (.int (Int32.ofNat y)), .val (.int (Int32.ofNat q)), .unset, .unset, .unset, .unset, .unset, .unset, .unset, .unset]) rfl zk) ?_
  show own_E p e below _ (s₁.setTop (mkF m 32 #[.val (.int p1), .val (.int p2), .val (.int p3), .val (.int p4), .val (.int (Int32.ofNat (2 ^ k))), .val (.int (Int32.ofNat (2 ^ k - 1))), .val (.int (Int32.ofNat x)), .val (.int (Int32.ofNat y)), .val (.int (Int32.ofNat q)), .unset, .unset, .unset, .unset, .unset, .unset, .unset, .unset] []))
  obtain ⟨T1, h1, X1, e1, E1, A1, D1, -, st1⟩ := newO X0 hx hZ hown (hw _ (List.mem_of_getElem? (i := 0) rfl)) (hw _ (List.mem_of_getElem? (i := 1) rfl)) (hw _ (List.mem_of_getElem? (i := 2) rfl)) e0 (g := (mkF m 32 #[.val (.int p1), .val (.int p2), .val (.int p3), .val (.int p4), .val (.int (Int32.ofNat (2 ^ k))), .val (.int (Int32.ofNat (2 ^ k - 1))), .val (.int (Int32.ofNat x)), .val (.int (Int32.ofNat y)), .val (.int (Int32.ofNat q)), .unset, .unset, .unset, .unset, .unset, .unset, .unset, .unset] [])) rfl (hb hby at_32) (by decide) (by decide)
  obtain ⟨f, g_f⟩ : ∃ z, z = h0.size := ⟨_, rfl⟩
  rw [← g_f] at A1 D1 st1
  have gh_f : h0.size ≤ f := Nat.le_trans K_0.1 (Nat.le_of_eq g_f.symm)
  have ge_f : n0 ≤ f := Nat.le_trans Z0 gh_f
  have K_1 := Keep.ext K_0 E1
  have Fm_1 : Fld Z h1 f "com/example/wayfold/wayfold/engine/FilledBuckets" "mask" "I" (.int 0) := D1 (Or.inr (hw _ (List.mem_of_getElem? (i := 10) rfl))) (ty := .int) (by decide)
  have Fw_1 : Fld Z h1 f "com/example/wayfold/wayfold/engine/FilledBuckets" "words" "[J" .null := D1 (Or.inr (hw _ (List.mem_of_getElem? (i := 17) rfl))) (ty := (.array .long)) (by decide)
  have Fs_1 : Fld Z h1 f "com/example/wayfold/wayfold/engine/FilledBuckets" "summary" "[J" .null := D1 (Or.inr (hw _ (List.mem_of_getElem? (i := 19) rfl))) (ty := (.array .long)) (by decide)
  refine own_step st1 ?_
  show own_E p e below _ (T1.setTop (mkF m 35 #[.val (.int p1), .val (.int p2), .val (.int p3), .val (.int p4), .val (.int (Int32.ofNat (2 ^ k))), .val (.int (Int32.ofNat (2 ^ k - 1))), .val (.int (Int32.ofNat x)), .val (.int (Int32.ofNat y)), .val (.int (Int32.ofNat q)), .unset, .unset, .unset, .unset, .unset, .unset, .unset, .unset] [(.ref f)]))
  refine own_step (fun _ zk => XS.dup X1.here hx rfl (hb hby at_35) rfl rfl zk) ?_
  show own_E p e below _ (T1.setTop (mkF m 36 #[.val (.int p1), .val (.int p2), .val (.int p3), .val (.int p4), .val (.int (Int32.ofNat (2 ^ k))), .val (.int (Int32.ofNat (2 ^ k - 1))), .val (.int (Int32.ofNat x)), .val (.int (Int32.ofNat y)), .val (.int (Int32.ofNat q)), .unset, .unset, .unset, .unset, .unset, .unset, .unset, .unset] [(.ref f), (.ref f)]))
  refine own_step (fun _ zk => XS.iload X1.here hx rfl (hb hby at_36) rfl zk) ?_
  show own_E p e below _ (T1.setTop (mkF m 38 #[.val (.int p1), .val (.int p2), .val (.int p3), .val (.int p4), .val (.int (Int32.ofNat (2 ^ k))), .val (.int (Int32.ofNat (2 ^ k - 1))), .val (.int (Int32.ofNat x)), .val (.int (Int32.ofNat y)), .val (.int (Int32.ofNat q)), .unset, .unset, .unset, .unset, .unset, .unset, .unset, .unset] [(.int (Int32.ofNat (2 ^ k))), (.ref f), (.ref f)]))
  obtain ⟨_, _, ⟨T2, zL2, zK2, zN2⟩, -, X2, ⟨zLc2, hQ2, zl2, zy2, zz2⟩, st2⟩ := X1.specialBack hx (y := (⟨"com/example/wayfold/wayfold/engine/FilledBuckets", "<init>", "(I)V"⟩ : MethodName)) rfl hown (mvT hZ (hw _ (List.mem_of_getElem? (i := 3) rfl))) (mvT hZ (hw _ (List.mem_of_getElem? (i := 4) rfl))) (mvT hZ (hw _ (List.mem_of_getElem? (i := 5) rfl))) (by decide) (backOf (W := 1) (rm1 l Z a0 hw [] f k h1 n0 (Nat.le_trans Z0 K_1.1) hk ge_f A1 Fm_1 Fw_1 Fs_1) hZ (hw _ (List.mem_of_getElem? (i := 5) rfl)) (hw _ (List.mem_of_getElem? (i := 2) rfl)) (by decide) (by decide)) (g := (mkF m 38 #[.val (.int p1), .val (.int p2), .val (.int p3), .val (.int p4), .val (.int (Int32.ofNat (2 ^ k))), .val (.int (Int32.ofNat (2 ^ k - 1))), .val (.int (Int32.ofNat x)), .val (.int (Int32.ofNat y)), .val (.int (Int32.ofNat q)), .unset, .unset, .unset, .unset, .unset, .unset, .unset, .unset] [(.int (Int32.ofNat (2 ^ k))), (.ref f), (.ref f)])) rfl (by rw [hml]; rfl) (Steps.refl _) (a := f) (argsL := [(.int (Int32.ofNat (2 ^ k)))]) (rest := [(.ref f)]) (lenOf pd_0_0 rfl) rfl (by show 2 * 0 + _ ≤ _; exact Nat.le_of_eq rfl) (hb hby at_38) (fun _ _ => ⟨rfl, e1, (by decide : 1 + 2 ≤ _), (by decide : 3 + 520 ≤ _)⟩)
  dsimp only [Pt.U, Pt.locs, Pt.cells, Pt.slots] at X2 zl2 zy2 zz2 st2 hQ2
  rw [show zK2 = 3 from zy2, show zN2 = 523 from zz2] at X2
  generalize e2 : T2.heap = h2 at hQ2
  obtain ⟨rfl, N2q, Kq2, wa, sa, ⟨E2, Fm2, Fw2, Fs2, AW2, AU2, n12, n22, n32⟩, gew2, ges2, ghw2, ghs2⟩ := hQ2
  have K_2 := Keep.trans K_1 Kq2 (allS (Or.inr gh_f) all0)
  have ghw_l := Nat.le_trans K_1.1 ghw2
  have ghs_l := Nat.le_trans K_1.1 ghs2
  have N2 : Fr n0 zL2 := by rw [zl2]; exact Fr.app N0 N2q
  refine own_step (fun _ zk => (st2).trans zk) ?_
  show own_E p e below _ (T2.setTop (mkF m 41 #[.val (.int p1), .val (.int p2), .val (.int p3), .val (.int p4), .val (.int (Int32.ofNat (2 ^ k))), .val (.int (Int32.ofNat (2 ^ k - 1))), .val (.int (Int32.ofNat x)), .val (.int (Int32.ofNat y)), .val (.int (Int32.ofNat q)), .unset, .unset, .unset, .unset, .unset, .unset, .unset, .unset] [(.ref f)]))
  refine own_step (fun _ zk => XS.astore X2.here hx rfl (hb hby at_41) rfl rfl (l' := #[.val (.int p1), .val (.int p2), .val (.int p3), .val (.int p4), .val (.int (Int32.ofNat (2 ^ k))), .val (.int (Int32.ofNat (2 ^ k - 1))), .val (.int (Int32.ofNat x)), .val (.int (Int32.ofNat y)), .val (.int (Int32.ofNat q)), .val (.ref f), .unset, .unset, .unset, .unset, .unset, .unset, .unset]) rfl zk) ?_
  show own_E p e below _ (T2.setTop (mkF m 43 #[.val (.int p1), .val (.int p2), .val (.int p3), .val (.int p4), .val (.int (Int32.ofNat (2 ^ k))), .val (.int (Int32.ofNat (2 ^ k - 1))), .val (.int (Int32.ofNat x)), .val (.int (Int32.ofNat y)), .val (.int (Int32.ofNat q)), .val (.ref f), .unset, .unset, .unset, .unset, .unset, .unset, .unset] []))
  refine own_step (fun _ zk => XS.aload X2.here hx rfl (hb hby at_43) rfl rfl zk) ?_
  show own_E p e below _ (T2.setTop (mkF m 45 #[.val (.int p1), .val (.int p2), .val (.int p3), .val (.int p4), .val (.int (Int32.ofNat (2 ^ k))), .val (.int (Int32.ofNat (2 ^ k - 1))), .val (.int (Int32.ofNat x)), .val (.int (Int32.ofNat y)), .val (.int (Int32.ofNat q)), .val (.ref f), .unset, .unset, .unset, .unset, .unset, .unset, .unset] [(.ref f)]))
  refine own_step (fun _ zk => XS.iload X2.here hx rfl (hb hby at_45) rfl zk) ?_
  show own_E p e below _ (T2.setTop (mkF m 47 #[.val (.int p1), .val (.int p2), .val (.int p3), .val (.int p4), .val (.int (Int32.ofNat (2 ^ k))), .val (.int (Int32.ofNat (2 ^ k - 1))), .val (.int (Int32.ofNat x)), .val (.int (Int32.ofNat y)), .val (.int (Int32.ofNat q)), .val (.ref f), .unset, .unset, .unset, .unset, .unset, .unset, .unset] [(.int (Int32.ofNat x)), (.ref f)]))
  obtain ⟨_, _, qa3, _, qc3⟩ := isOf (T := T2) hZ e2 E2
  obtain ⟨_, _, ⟨T3, zL3, zK3, zN3⟩, -, X3, ⟨zLc3, hQ3, zl3, zy3, zz3⟩, st3⟩ := X2.virtualBack hx (y := (⟨"com/example/wayfold/wayfold/engine/FilledBuckets", "fill", "(I)V"⟩ : MethodName)) (z := (⟨"com/example/wayfold/wayfold/engine/FilledBuckets", "fill", "(I)V"⟩ : MethodName)) hown (mvT hZ (hw _ (List.mem_of_getElem? (i := 20) rfl))) (mvT hZ (hw _ (List.mem_of_getElem? (i := 21) rfl))) (notFace_of_selects (args := #[]) (mvT hZ (hw _ (List.mem_of_getElem? (i := 23) rfl)))) (mvT hZ (hw _ (List.mem_of_getElem? (i := 23) rfl))) (mvT hZ (hw _ (List.mem_of_getElem? (i := 22) rfl))) (by decide) (backOf (W := 0) (rm2 l Z a0 hw [] f wa sa k x (fun _ => (0 : Int64)) (fun _ => (0 : Int64)) h2 n0 (Nat.le_trans Z0 K_2.1) hk hxl gew2 ges2 ⟨E2, Fm2, Fw2, Fs2, AW2, AU2, n12, n22, n32⟩) hZ (hw _ (List.mem_of_getElem? (i := 24) rfl)) (hw _ (List.mem_of_getElem? (i := 2) rfl)) (by decide) (by decide)) qa3 qc3 (g := (mkF m 47 #[.val (.int p1), .val (.int p2), .val (.int p3), .val (.int p4), .val (.int (Int32.ofNat (2 ^ k))), .val (.int (Int32.ofNat (2 ^ k - 1))), .val (.int (Int32.ofNat x)), .val (.int (Int32.ofNat y)), .val (.int (Int32.ofNat q)), .val (.ref f), .unset, .unset, .unset, .unset, .unset, .unset, .unset] [(.int (Int32.ofNat x)), (.ref f)])) rfl (by rw [hml]; rfl) (Steps.refl _) (argsL := [(.int (Int32.ofNat x))]) (rest := []) (lenOf pd_0_0 rfl) rfl (by show 2 * 0 + _ ≤ _; exact Nat.le_of_eq rfl) (hb hby at_47) (fun _ _ => ⟨rfl, e2, (by decide : 3 + 0 ≤ _), (by decide : 523 + 0 ≤ _)⟩)
  dsimp only [Pt.U, Pt.locs, Pt.cells, Pt.slots] at X3 zl3 zy3 zz3 st3 hQ3
  rw [show zK3 = 3 from zy3, show zN3 = 523 from zz3] at X3
  generalize e3 : T3.heap = h3 at hQ3
  obtain ⟨rfl, N3q, Kq3, E3, Fm3, Fw3, Fs3, AW3, AU3, n13, n23, n33⟩ := hQ3
  have K_3 := Keep.trans K_2 Kq3 (allS (Or.inr ghw_l) (allS (Or.inr ghs_l) all0))
  have N3 : Fr n0 zL3 := by rw [zl3]; exact Fr.app N2 N3q
  refine own_step (fun _ zk => (st3).trans zk) ?_
  show own_E p e below _ (T3.setTop (mkF m 50 #[.val (.int p1), .val (.int p2), .val (.int p3), .val (.int p4), .val (.int (Int32.ofNat (2 ^ k))), .val (.int (Int32.ofNat (2 ^ k - 1))), .val (.int (Int32.ofNat x)), .val (.int (Int32.ofNat y)), .val (.int (Int32.ofNat q)), .val (.ref f), .unset, .unset, .unset, .unset, .unset, .unset, .unset] []))
  have I1 := own_inv_fill (own_inv0 (own_NW k) (own_NS k)) x (by omega) z3 (by omega)
  generalize (own_updL (fun _ => (0 : Int64)) (x / 64) ((fun _ => (0 : Int64)) (x / 64) ||| ((1 : Int64) <<< ((Int32.ofNat x).toInt64 &&& 63)))) = W1 at AW3 I1
  generalize (own_updL (fun _ => (0 : Int64)) (x / 4096) ((fun _ => (0 : Int64)) (x / 4096) ||| ((1 : Int64) <<< ((Int32.ofNat (x / 64)).toInt64 &&& 63)))) = U1 at AU3 I1
  refine own_step (fun _ zk => XS.aload X3.here hx rfl (hb hby at_50) rfl rfl zk) ?_
  show own_E p e below _ (T3.setTop (mkF m 52 #[.val (.int p1), .val (.int p2), .val (.int p3), .val (.int p4), .val (.int (Int32.ofNat (2 ^ k))), .val (.int (Int32.ofNat (2 ^ k - 1))), .val (.int (Int32.ofNat x)), .val (.int (Int32.ofNat y)), .val (.int (Int32.ofNat q)), .val (.ref f), .unset, .unset, .unset, .unset, .unset, .unset, .unset] [(.ref f)]))
  refine own_step (fun _ zk => XS.iload X3.here hx rfl (hb hby at_52) rfl zk) ?_
  show own_E p e below _ (T3.setTop (mkF m 54 #[.val (.int p1), .val (.int p2), .val (.int p3), .val (.int p4), .val (.int (Int32.ofNat (2 ^ k))), .val (.int (Int32.ofNat (2 ^ k - 1))), .val (.int (Int32.ofNat x)), .val (.int (Int32.ofNat y)), .val (.int (Int32.ofNat q)), .val (.ref f), .unset, .unset, .unset, .unset, .unset, .unset, .unset] [(.int (Int32.ofNat q)), (.ref f)]))
  obtain ⟨_, _, qa4, _, qc4⟩ := isOf (T := T3) hZ e3 E3
  obtain ⟨_, _, ⟨T4, zL4, zK4, zN4⟩, -, X4, ⟨zLc4, hQ4, zl4, zy4, zz4⟩, st4⟩ := X3.virtualBack hx (y := (⟨"com/example/wayfold/wayfold/engine/FilledBuckets", "stepsToFilled", "(I)I"⟩ : MethodName)) (z := (⟨"com/example/wayfold/wayfold/engine/FilledBuckets", "stepsToFilled", "(I)I"⟩ : MethodName)) hown (mvT hZ (hw _ (List.mem_of_getElem? (i := 25) rfl))) (mvT hZ (hw _ (List.mem_of_getElem? (i := 26) rfl))) (notFace_of_selects (args := #[]) (mvT hZ (hw _ (List.mem_of_getElem? (i := 28) rfl)))) (mvT hZ (hw _ (List.mem_of_getElem? (i := 28) rfl))) (mvT hZ (hw _ (List.mem_of_getElem? (i := 27) rfl))) (by decide) (backOf (W := 0) (rm5 l Z a0 hw [] f wa sa k q W1 U1 (own_add1 (fun _ => false) x) h3 n0 (Nat.le_trans Z0 K_3.1) (by omega) ⟨x, (own_S1 x x).mpr rfl⟩ hk ⟨E3, Fm3, Fw3, Fs3, AW3, AU3, n13, n23, n33⟩ I1) hZ (hw _ (List.mem_of_getElem? (i := 29) rfl)) (hw _ (List.mem_of_getElem? (i := 2) rfl)) (by decide) (by decide)) qa4 qc4 (g := (mkF m 54 #[.val (.int p1), .val (.int p2), .val (.int p3), .val (.int p4), .val (.int (Int32.ofNat (2 ^ k))), .val (.int (Int32.ofNat (2 ^ k - 1))), .val (.int (Int32.ofNat x)), .val (.int (Int32.ofNat y)), .val (.int (Int32.ofNat q)), .val (.ref f), .unset, .unset, .unset, .unset, .unset, .unset, .unset] [(.int (Int32.ofNat q)), (.ref f)])) rfl (by rw [hml]; rfl) (Steps.refl _) (argsL := [(.int (Int32.ofNat q))]) (rest := []) (lenOf pd_0_1 rfl) rfl (by show 2 * 0 + _ ≤ _; exact Nat.le_of_eq rfl) (hb hby at_54) (fun _ _ => ⟨rfl, e3, (by decide : 3 + 0 ≤ _), (by decide : 523 + 0 ≤ _)⟩)
  dsimp only [Pt.U, Pt.locs, Pt.cells, Pt.slots] at X4 zl4 zy4 zz4 st4 hQ4
  rw [show zK4 = 3 from zy4, show zN4 = 523 from zz4] at X4
  obtain ⟨⟨r4, rfl, hr4⟩, N4q, e4⟩ := hQ4
  have N4 : Fr n0 zL4 := by rw [zl4]; exact Fr.app N3 N4q
  refine own_step (fun _ zk => (st4).trans zk) ?_
  show own_E p e below _ (T4.setTop (mkF m 57 #[.val (.int p1), .val (.int p2), .val (.int p3), .val (.int p4), .val (.int (Int32.ofNat (2 ^ k))), .val (.int (Int32.ofNat (2 ^ k - 1))), .val (.int (Int32.ofNat x)), .val (.int (Int32.ofNat y)), .val (.int (Int32.ofNat q)), .val (.ref f), .unset, .unset, .unset, .unset, .unset, .unset, .unset] [(.int (((Int32.ofNat r4) - (Int32.ofNat q)) &&& (Int32.ofNat (2 ^ k - 1))))]))
  have er4 : r4 = x := own_found1 hr4
  rw [er4]
  show own_E p e below _ (T4.setTop (mkF m 57 #[.val (.int p1), .val (.int p2), .val (.int p3), .val (.int p4), .val (.int (Int32.ofNat (2 ^ k))), .val (.int (Int32.ofNat (2 ^ k - 1))), .val (.int (Int32.ofNat x)), .val (.int (Int32.ofNat y)), .val (.int (Int32.ofNat q)), .val (.ref f), .unset, .unset, .unset, .unset, .unset, .unset, .unset] [(.int (((Int32.ofNat x) - (Int32.ofNat q)) &&& (Int32.ofNat (2 ^ k - 1))))]))
  refine own_step (fun _ zk => XS.istore X4.here hx rfl (hb hby at_57) rfl (l' := #[.val (.int p1), .val (.int p2), .val (.int p3), .val (.int p4), .val (.int (Int32.ofNat (2 ^ k))), .val (.int (Int32.ofNat (2 ^ k - 1))), .val (.int (Int32.ofNat x)), .val (.int (Int32.ofNat y)), .val (.int (Int32.ofNat q)), .val (.ref f), .val (.int (((Int32.ofNat x) - (Int32.ofNat q)) &&& (Int32.ofNat (2 ^ k - 1)))), .unset, .unset, .unset, .unset, .unset, .unset]) rfl zk) ?_
  show own_E p e below _ (T4.setTop (mkF m 59 #[.val (.int p1), .val (.int p2), .val (.int p3), .val (.int p4), .val (.int (Int32.ofNat (2 ^ k))), .val (.int (Int32.ofNat (2 ^ k - 1))), .val (.int (Int32.ofNat x)), .val (.int (Int32.ofNat y)), .val (.int (Int32.ofNat q)), .val (.ref f), .val (.int (((Int32.ofNat x) - (Int32.ofNat q)) &&& (Int32.ofNat (2 ^ k - 1)))), .unset, .unset, .unset, .unset, .unset, .unset] []))
  refine own_step (fun _ zk => XS.aload X4.here hx rfl (hb hby at_59) rfl rfl zk) ?_
  show own_E p e below _ (T4.setTop (mkF m 61 #[.val (.int p1), .val (.int p2), .val (.int p3), .val (.int p4), .val (.int (Int32.ofNat (2 ^ k))), .val (.int (Int32.ofNat (2 ^ k - 1))), .val (.int (Int32.ofNat x)), .val (.int (Int32.ofNat y)), .val (.int (Int32.ofNat q)), .val (.ref f), .val (.int (((Int32.ofNat x) - (Int32.ofNat q)) &&& (Int32.ofNat (2 ^ k - 1)))), .unset, .unset, .unset, .unset, .unset, .unset] [(.ref f)]))
  refine own_step (fun _ zk => XS.iload X4.here hx rfl (hb hby at_61) rfl zk) ?_
  show own_E p e below _ (T4.setTop (mkF m 63 #[.val (.int p1), .val (.int p2), .val (.int p3), .val (.int p4), .val (.int (Int32.ofNat (2 ^ k))), .val (.int (Int32.ofNat (2 ^ k - 1))), .val (.int (Int32.ofNat x)), .val (.int (Int32.ofNat y)), .val (.int (Int32.ofNat q)), .val (.ref f), .val (.int (((Int32.ofNat x) - (Int32.ofNat q)) &&& (Int32.ofNat (2 ^ k - 1)))), .unset, .unset, .unset, .unset, .unset, .unset] [(.int (Int32.ofNat x)), (.ref f)]))
  obtain ⟨_, _, qa5, _, qc5⟩ := isOf (T := T4) hZ e4 E3
  obtain ⟨_, _, ⟨T5, zL5, zK5, zN5⟩, -, X5, ⟨zLc5, hQ5, zl5, zy5, zz5⟩, st5⟩ := X4.virtualBack hx (y := (⟨"com/example/wayfold/wayfold/engine/FilledBuckets", "stepsToFilled", "(I)I"⟩ : MethodName)) (z := (⟨"com/example/wayfold/wayfold/engine/FilledBuckets", "stepsToFilled", "(I)I"⟩ : MethodName)) hown (mvT hZ (hw _ (List.mem_of_getElem? (i := 25) rfl))) (mvT hZ (hw _ (List.mem_of_getElem? (i := 26) rfl))) (notFace_of_selects (args := #[]) (mvT hZ (hw _ (List.mem_of_getElem? (i := 28) rfl)))) (mvT hZ (hw _ (List.mem_of_getElem? (i := 28) rfl))) (mvT hZ (hw _ (List.mem_of_getElem? (i := 27) rfl))) (by decide) (backOf (W := 0) (rm5 l Z a0 hw [] f wa sa k x W1 U1 (own_add1 (fun _ => false) x) h3 n0 (Nat.le_trans Z0 K_3.1) (by omega) ⟨x, (own_S1 x x).mpr rfl⟩ hk ⟨E3, Fm3, Fw3, Fs3, AW3, AU3, n13, n23, n33⟩ I1) hZ (hw _ (List.mem_of_getElem? (i := 29) rfl)) (hw _ (List.mem_of_getElem? (i := 2) rfl)) (by decide) (by decide)) qa5 qc5 (g := (mkF m 63 #[.val (.int p1), .val (.int p2), .val (.int p3), .val (.int p4), .val (.int (Int32.ofNat (2 ^ k))), .val (.int (Int32.ofNat (2 ^ k - 1))), .val (.int (Int32.ofNat x)), .val (.int (Int32.ofNat y)), .val (.int (Int32.ofNat q)), .val (.ref f), .val (.int (((Int32.ofNat x) - (Int32.ofNat q)) &&& (Int32.ofNat (2 ^ k - 1)))), .unset, .unset, .unset, .unset, .unset, .unset] [(.int (Int32.ofNat x)), (.ref f)])) rfl (by rw [hml]; rfl) (Steps.refl _) (argsL := [(.int (Int32.ofNat x))]) (rest := []) (lenOf pd_0_1 rfl) rfl (by show 2 * 0 + _ ≤ _; exact Nat.le_of_eq rfl) (hb hby at_63) (fun _ _ => ⟨rfl, e4, (by decide : 3 + 0 ≤ _), (by decide : 523 + 0 ≤ _)⟩)
  dsimp only [Pt.U, Pt.locs, Pt.cells, Pt.slots] at X5 zl5 zy5 zz5 st5 hQ5
  rw [show zK5 = 3 from zy5, show zN5 = 523 from zz5] at X5
  obtain ⟨⟨r5, rfl, hr5⟩, N5q, e5⟩ := hQ5
  have N5 : Fr n0 zL5 := by rw [zl5]; exact Fr.app N4 N5q
  refine own_step (fun _ zk => (st5).trans zk) ?_
  show own_E p e below _ (T5.setTop (mkF m 66 #[.val (.int p1), .val (.int p2), .val (.int p3), .val (.int p4), .val (.int (Int32.ofNat (2 ^ k))), .val (.int (Int32.ofNat (2 ^ k - 1))), .val (.int (Int32.ofNat x)), .val (.int (Int32.ofNat y)), .val (.int (Int32.ofNat q)), .val (.ref f), .val (.int (((Int32.ofNat x) - (Int32.ofNat q)) &&& (Int32.ofNat (2 ^ k - 1)))), .unset, .unset, .unset, .unset, .unset, .unset] [(.int (((Int32.ofNat r5) - (Int32.ofNat x)) &&& (Int32.ofNat (2 ^ k - 1))))]))
  have er5 : r5 = x := own_found1 hr5
  rw [er5]
  show own_E p e below _ (T5.setTop (mkF m 66 #[.val (.int p1), .val (.int p2), .val (.int p3), .val (.int p4), .val (.int (Int32.ofNat (2 ^ k))), .val (.int (Int32.ofNat (2 ^ k - 1))), .val (.int (Int32.ofNat x)), .val (.int (Int32.ofNat y)), .val (.int (Int32.ofNat q)), .val (.ref f), .val (.int (((Int32.ofNat x) - (Int32.ofNat q)) &&& (Int32.ofNat (2 ^ k - 1)))), .unset, .unset, .unset, .unset, .unset, .unset] [(.int (((Int32.ofNat x) - (Int32.ofNat x)) &&& (Int32.ofNat (2 ^ k - 1))))]))
  refine own_step (fun _ zk => XS.istore X5.here hx rfl (hb hby at_66) rfl (l' := #[.val (.int p1), .val (.int p2), .val (.int p3), .val (.int p4), .val (.int (Int32.ofNat (2 ^ k))), .val (.int (Int32.ofNat (2 ^ k - 1))), .val (.int (Int32.ofNat x)), .val (.int (Int32.ofNat y)), .val (.int (Int32.ofNat q)), .val (.ref f), .val (.int (((Int32.ofNat x) - (Int32.ofNat q)) &&& (Int32.ofNat (2 ^ k - 1)))), .val (.int (((Int32.ofNat x) - (Int32.ofNat x)) &&& (Int32.ofNat (2 ^ k - 1)))), .unset, .unset, .unset, .unset, .unset]) rfl zk) ?_
  show own_E p e below _ (T5.setTop (mkF m 68 #[.val (.int p1), .val (.int p2), .val (.int p3), .val (.int p4), .val (.int (Int32.ofNat (2 ^ k))), .val (.int (Int32.ofNat (2 ^ k - 1))), .val (.int (Int32.ofNat x)), .val (.int (Int32.ofNat y)), .val (.int (Int32.ofNat q)), .val (.ref f), .val (.int (((Int32.ofNat x) - (Int32.ofNat q)) &&& (Int32.ofNat (2 ^ k - 1)))), .val (.int (((Int32.ofNat x) - (Int32.ofNat x)) &&& (Int32.ofNat (2 ^ k - 1)))), .unset, .unset, .unset, .unset, .unset] []))
  refine own_step (fun _ zk => XS.aload X5.here hx rfl (hb hby at_68) rfl rfl zk) ?_
  show own_E p e below _ (T5.setTop (mkF m 70 #[.val (.int p1), .val (.int p2), .val (.int p3), .val (.int p4), .val (.int (Int32.ofNat (2 ^ k))), .val (.int (Int32.ofNat (2 ^ k - 1))), .val (.int (Int32.ofNat x)), .val (.int (Int32.ofNat y)), .val (.int (Int32.ofNat q)), .val (.ref f), .val (.int (((Int32.ofNat x) - (Int32.ofNat q)) &&& (Int32.ofNat (2 ^ k - 1)))), .val (.int (((Int32.ofNat x) - (Int32.ofNat x)) &&& (Int32.ofNat (2 ^ k - 1)))), .unset, .unset, .unset, .unset, .unset] [(.ref f)]))
  refine own_step (fun _ zk => XS.iload X5.here hx rfl (hb hby at_70) rfl zk) ?_
  show own_E p e below _ (T5.setTop (mkF m 72 #[.val (.int p1), .val (.int p2), .val (.int p3), .val (.int p4), .val (.int (Int32.ofNat (2 ^ k))), .val (.int (Int32.ofNat (2 ^ k - 1))), .val (.int (Int32.ofNat x)), .val (.int (Int32.ofNat y)), .val (.int (Int32.ofNat q)), .val (.ref f), .val (.int (((Int32.ofNat x) - (Int32.ofNat q)) &&& (Int32.ofNat (2 ^ k - 1)))), .val (.int (((Int32.ofNat x) - (Int32.ofNat x)) &&& (Int32.ofNat (2 ^ k - 1)))), .unset, .unset, .unset, .unset, .unset] [(.int (Int32.ofNat y)), (.ref f)]))
  obtain ⟨_, _, qa6, _, qc6⟩ := isOf (T := T5) hZ e5 E3
  obtain ⟨_, _, ⟨T6, zL6, zK6, zN6⟩, -, X6, ⟨zLc6, hQ6, zl6, zy6, zz6⟩, st6⟩ := X5.virtualBack hx (y := (⟨"com/example/wayfold/wayfold/engine/FilledBuckets", "fill", "(I)V"⟩ : MethodName)) (z := (⟨"com/example/wayfold/wayfold/engine/FilledBuckets", "fill", "(I)V"⟩ : MethodName)) hown (mvT hZ (hw _ (List.mem_of_getElem? (i := 20) rfl))) (mvT hZ (hw _ (List.mem_of_getElem? (i := 21) rfl))) (notFace_of_selects (args := #[]) (mvT hZ (hw _ (List.mem_of_getElem? (i := 23) rfl)))) (mvT hZ (hw _ (List.mem_of_getElem? (i := 23) rfl))) (mvT hZ (hw _ (List.mem_of_getElem? (i := 22) rfl))) (by decide) (backOf (W := 0) (rm2 l Z a0 hw [] f wa sa k y W1 U1 h3 n0 (Nat.le_trans Z0 K_3.1) hk hyl gew2 ges2 ⟨E3, Fm3, Fw3, Fs3, AW3, AU3, n13, n23, n33⟩) hZ (hw _ (List.mem_of_getElem? (i := 24) rfl)) (hw _ (List.mem_of_getElem? (i := 2) rfl)) (by decide) (by decide)) qa6 qc6 (g := (mkF m 72 #[.val (.int p1), .val (.int p2), .val (.int p3), .val (.int p4), .val (.int (Int32.ofNat (2 ^ k))), .val (.int (Int32.ofNat (2 ^ k - 1))), .val (.int (Int32.ofNat x)), .val (.int (Int32.ofNat y)), .val (.int (Int32.ofNat q)), .val (.ref f), .val (.int (((Int32.ofNat x) - (Int32.ofNat q)) &&& (Int32.ofNat (2 ^ k - 1)))), .val (.int (((Int32.ofNat x) - (Int32.ofNat x)) &&& (Int32.ofNat (2 ^ k - 1)))), .unset, .unset, .unset, .unset, .unset] [(.int (Int32.ofNat y)), (.ref f)])) rfl (by rw [hml]; rfl) (Steps.refl _) (argsL := [(.int (Int32.ofNat y))]) (rest := []) (lenOf pd_0_0 rfl) rfl (by show 2 * 0 + _ ≤ _; exact Nat.le_of_eq rfl) (hb hby at_72) (fun _ _ => ⟨rfl, e5, (by decide : 3 + 0 ≤ _), (by decide : 523 + 0 ≤ _)⟩)
  dsimp only [Pt.U, Pt.locs, Pt.cells, Pt.slots] at X6 zl6 zy6 zz6 st6 hQ6
  rw [show zK6 = 3 from zy6, show zN6 = 523 from zz6] at X6
  generalize e6 : T6.heap = h6 at hQ6
  obtain ⟨rfl, N6q, Kq6, E6, Fm6, Fw6, Fs6, AW6, AU6, n16, n26, n36⟩ := hQ6
  have K_6 := Keep.trans K_3 Kq6 (allS (Or.inr ghw_l) (allS (Or.inr ghs_l) all0))
  have N6 : Fr n0 zL6 := by rw [zl6]; exact Fr.app N5 N6q
  refine own_step (fun _ zk => (st6).trans zk) ?_
  show own_E p e below _ (T6.setTop (mkF m 75 #[.val (.int p1), .val (.int p2), .val (.int p3), .val (.int p4), .val (.int (Int32.ofNat (2 ^ k))), .val (.int (Int32.ofNat (2 ^ k - 1))), .val (.int (Int32.ofNat x)), .val (.int (Int32.ofNat y)), .val (.int (Int32.ofNat q)), .val (.ref f), .val (.int (((Int32.ofNat x) - (Int32.ofNat q)) &&& (Int32.ofNat (2 ^ k - 1)))), .val (.int (((Int32.ofNat x) - (Int32.ofNat x)) &&& (Int32.ofNat (2 ^ k - 1)))), .unset, .unset, .unset, .unset, .unset] []))
  have I2 := own_inv_fill I1 y (by omega) z3 (by omega)
  generalize (own_updL W1 (y / 64) (W1 (y / 64) ||| ((1 : Int64) <<< ((Int32.ofNat y).toInt64 &&& 63)))) = W2 at AW6 I2
  generalize (own_updL U1 (y / 4096) (U1 (y / 4096) ||| ((1 : Int64) <<< ((Int32.ofNat (y / 64)).toInt64 &&& 63)))) = U2 at AU6 I2
  refine own_step (fun _ zk => XS.aload X6.here hx rfl (hb hby at_75) rfl rfl zk) ?_
  show own_E p e below _ (T6.setTop (mkF m 77 #[.val (.int p1), .val (.int p2), .val (.int p3), .val (.int p4), .val (.int (Int32.ofNat (2 ^ k))), .val (.int (Int32.ofNat (2 ^ k - 1))), .val (.int (Int32.ofNat x)), .val (.int (Int32.ofNat y)), .val (.int (Int32.ofNat q)), .val (.ref f), .val (.int (((Int32.ofNat x) - (Int32.ofNat q)) &&& (Int32.ofNat (2 ^ k - 1)))), .val (.int (((Int32.ofNat x) - (Int32.ofNat x)) &&& (Int32.ofNat (2 ^ k - 1)))), .unset, .unset, .unset, .unset, .unset] [(.ref f)]))
  refine own_step (fun _ zk => XS.iload X6.here hx rfl (hb hby at_77) rfl zk) ?_
  show own_E p e below _ (T6.setTop (mkF m 79 #[.val (.int p1), .val (.int p2), .val (.int p3), .val (.int p4), .val (.int (Int32.ofNat (2 ^ k))), .val (.int (Int32.ofNat (2 ^ k - 1))), .val (.int (Int32.ofNat x)), .val (.int (Int32.ofNat y)), .val (.int (Int32.ofNat q)), .val (.ref f), .val (.int (((Int32.ofNat x) - (Int32.ofNat q)) &&& (Int32.ofNat (2 ^ k - 1)))), .val (.int (((Int32.ofNat x) - (Int32.ofNat x)) &&& (Int32.ofNat (2 ^ k - 1)))), .unset, .unset, .unset, .unset, .unset] [(.int (Int32.ofNat q)), (.ref f)]))
  obtain ⟨_, _, qa7, _, qc7⟩ := isOf (T := T6) hZ e6 E6
  obtain ⟨_, _, ⟨T7, zL7, zK7, zN7⟩, -, X7, ⟨zLc7, hQ7, zl7, zy7, zz7⟩, st7⟩ := X6.virtualBack hx (y := (⟨"com/example/wayfold/wayfold/engine/FilledBuckets", "stepsToFilled", "(I)I"⟩ : MethodName)) (z := (⟨"com/example/wayfold/wayfold/engine/FilledBuckets", "stepsToFilled", "(I)I"⟩ : MethodName)) hown (mvT hZ (hw _ (List.mem_of_getElem? (i := 25) rfl))) (mvT hZ (hw _ (List.mem_of_getElem? (i := 26) rfl))) (notFace_of_selects (args := #[]) (mvT hZ (hw _ (List.mem_of_getElem? (i := 28) rfl)))) (mvT hZ (hw _ (List.mem_of_getElem? (i := 28) rfl))) (mvT hZ (hw _ (List.mem_of_getElem? (i := 27) rfl))) (by decide) (backOf (W := 0) (rm5 l Z a0 hw [] f wa sa k q W2 U2 (own_add1 (own_add1 (fun _ => false) x) y) h6 n0 (Nat.le_trans Z0 K_6.1) (by omega) ⟨x, (own_S2 x y x).mpr (Or.inl rfl)⟩ hk ⟨E6, Fm6, Fw6, Fs6, AW6, AU6, n16, n26, n36⟩ I2) hZ (hw _ (List.mem_of_getElem? (i := 29) rfl)) (hw _ (List.mem_of_getElem? (i := 2) rfl)) (by decide) (by decide)) qa7 qc7 (g := (mkF m 79 #[.val (.int p1), .val (.int p2), .val (.int p3), .val (.int p4), .val (.int (Int32.ofNat (2 ^ k))), .val (.int (Int32.ofNat (2 ^ k - 1))), .val (.int (Int32.ofNat x)), .val (.int (Int32.ofNat y)), .val (.int (Int32.ofNat q)), .val (.ref f), .val (.int (((Int32.ofNat x) - (Int32.ofNat q)) &&& (Int32.ofNat (2 ^ k - 1)))), .val (.int (((Int32.ofNat x) - (Int32.ofNat x)) &&& (Int32.ofNat (2 ^ k - 1)))), .unset, .unset, .unset, .unset, .unset] [(.int (Int32.ofNat q)), (.ref f)])) rfl (by rw [hml]; rfl) (Steps.refl _) (argsL := [(.int (Int32.ofNat q))]) (rest := []) (lenOf pd_0_1 rfl) rfl (by show 2 * 0 + _ ≤ _; exact Nat.le_of_eq rfl) (hb hby at_79) (fun _ _ => ⟨rfl, e6, (by decide : 3 + 0 ≤ _), (by decide : 523 + 0 ≤ _)⟩)
  dsimp only [Pt.U, Pt.locs, Pt.cells, Pt.slots] at X7 zl7 zy7 zz7 st7 hQ7
  rw [show zK7 = 3 from zy7, show zN7 = 523 from zz7] at X7
  obtain ⟨⟨r7, rfl, hr7⟩, N7q, e7⟩ := hQ7
  have N7 : Fr n0 zL7 := by rw [zl7]; exact Fr.app N6 N7q
  refine own_step (fun _ zk => (st7).trans zk) ?_
  show own_E p e below _ (T7.setTop (mkF m 82 #[.val (.int p1), .val (.int p2), .val (.int p3), .val (.int p4), .val (.int (Int32.ofNat (2 ^ k))), .val (.int (Int32.ofNat (2 ^ k - 1))), .val (.int (Int32.ofNat x)), .val (.int (Int32.ofNat y)), .val (.int (Int32.ofNat q)), .val (.ref f), .val (.int (((Int32.ofNat x) - (Int32.ofNat q)) &&& (Int32.ofNat (2 ^ k - 1)))), .val (.int (((Int32.ofNat x) - (Int32.ofNat x)) &&& (Int32.ofNat (2 ^ k - 1)))), .unset, .unset, .unset, .unset, .unset] [(.int (((Int32.ofNat r7) - (Int32.ofNat q)) &&& (Int32.ofNat (2 ^ k - 1))))]))
  refine own_step (fun _ zk => XS.istore X7.here hx rfl (hb hby at_82) rfl (l' := #[.val (.int p1), .val (.int p2), .val (.int p3), .val (.int p4), .val (.int (Int32.ofNat (2 ^ k))), .val (.int (Int32.ofNat (2 ^ k - 1))), .val (.int (Int32.ofNat x)), .val (.int (Int32.ofNat y)), .val (.int (Int32.ofNat q)), .val (.ref f), .val (.int (((Int32.ofNat x) - (Int32.ofNat q)) &&& (Int32.ofNat (2 ^ k - 1)))), .val (.int (((Int32.ofNat x) - (Int32.ofNat x)) &&& (Int32.ofNat (2 ^ k - 1)))), .val (.int (((Int32.ofNat r7) - (Int32.ofNat q)) &&& (Int32.ofNat (2 ^ k - 1)))), .unset, .unset, .unset, .unset]) rfl zk) ?_
  show own_E p e below _ (T7.setTop (mkF m 84 #[.val (.int p1), .val (.int p2), .val (.int p3), .val (.int p4), .val (.int (Int32.ofNat (2 ^ k))), .val (.int (Int32.ofNat (2 ^ k - 1))), .val (.int (Int32.ofNat x)), .val (.int (Int32.ofNat y)), .val (.int (Int32.ofNat q)), .val (.ref f), .val (.int (((Int32.ofNat x) - (Int32.ofNat q)) &&& (Int32.ofNat (2 ^ k - 1)))), .val (.int (((Int32.ofNat x) - (Int32.ofNat x)) &&& (Int32.ofNat (2 ^ k - 1)))), .val (.int (((Int32.ofNat r7) - (Int32.ofNat q)) &&& (Int32.ofNat (2 ^ k - 1)))), .unset, .unset, .unset, .unset] []))
  refine own_step (fun _ zk => XS.aload X7.here hx rfl (hb hby at_84) rfl rfl zk) ?_
  show own_E p e below _ (T7.setTop (mkF m 86 #[.val (.int p1), .val (.int p2), .val (.int p3), .val (.int p4), .val (.int (Int32.ofNat (2 ^ k))), .val (.int (Int32.ofNat (2 ^ k - 1))), .val (.int (Int32.ofNat x)), .val (.int (Int32.ofNat y)), .val (.int (Int32.ofNat q)), .val (.ref f), .val (.int (((Int32.ofNat x) - (Int32.ofNat q)) &&& (Int32.ofNat (2 ^ k - 1)))), .val (.int (((Int32.ofNat x) - (Int32.ofNat x)) &&& (Int32.ofNat (2 ^ k - 1)))), .val (.int (((Int32.ofNat r7) - (Int32.ofNat q)) &&& (Int32.ofNat (2 ^ k - 1)))), .unset, .unset, .unset, .unset] [(.ref f)]))
  refine own_step (fun _ zk => XS.iload X7.here hx rfl (hb hby at_86) rfl zk) ?_
  show own_E p e below _ (T7.setTop (mkF m 88 #[.val (.int p1), .val (.int p2), .val (.int p3), .val (.int p4), .val (.int (Int32.ofNat (2 ^ k))), .val (.int (Int32.ofNat (2 ^ k - 1))), .val (.int (Int32.ofNat x)), .val (.int (Int32.ofNat y)), .val (.int (Int32.ofNat q)), .val (.ref f), .val (.int (((Int32.ofNat x) - (Int32.ofNat q)) &&& (Int32.ofNat (2 ^ k - 1)))), .val (.int (((Int32.ofNat x) - (Int32.ofNat x)) &&& (Int32.ofNat (2 ^ k - 1)))), .val (.int (((Int32.ofNat r7) - (Int32.ofNat q)) &&& (Int32.ofNat (2 ^ k - 1)))), .unset, .unset, .unset, .unset] [(.int (Int32.ofNat x)), (.ref f)]))
  obtain ⟨_, _, qa8, _, qc8⟩ := isOf (T := T7) hZ e7 E6
  obtain ⟨_, _, ⟨T8, zL8, zK8, zN8⟩, -, X8, ⟨zLc8, hQ8, zl8, zy8, zz8⟩, st8⟩ := X7.virtualBack hx (y := (⟨"com/example/wayfold/wayfold/engine/FilledBuckets", "stepsToFilled", "(I)I"⟩ : MethodName)) (z := (⟨"com/example/wayfold/wayfold/engine/FilledBuckets", "stepsToFilled", "(I)I"⟩ : MethodName)) hown (mvT hZ (hw _ (List.mem_of_getElem? (i := 25) rfl))) (mvT hZ (hw _ (List.mem_of_getElem? (i := 26) rfl))) (notFace_of_selects (args := #[]) (mvT hZ (hw _ (List.mem_of_getElem? (i := 28) rfl)))) (mvT hZ (hw _ (List.mem_of_getElem? (i := 28) rfl))) (mvT hZ (hw _ (List.mem_of_getElem? (i := 27) rfl))) (by decide) (backOf (W := 0) (rm5 l Z a0 hw [] f wa sa k x W2 U2 (own_add1 (own_add1 (fun _ => false) x) y) h6 n0 (Nat.le_trans Z0 K_6.1) (by omega) ⟨x, (own_S2 x y x).mpr (Or.inl rfl)⟩ hk ⟨E6, Fm6, Fw6, Fs6, AW6, AU6, n16, n26, n36⟩ I2) hZ (hw _ (List.mem_of_getElem? (i := 29) rfl)) (hw _ (List.mem_of_getElem? (i := 2) rfl)) (by decide) (by decide)) qa8 qc8 (g := (mkF m 88 #[.val (.int p1), .val (.int p2), .val (.int p3), .val (.int p4), .val (.int (Int32.ofNat (2 ^ k))), .val (.int (Int32.ofNat (2 ^ k - 1))), .val (.int (Int32.ofNat x)), .val (.int (Int32.ofNat y)), .val (.int (Int32.ofNat q)), .val (.ref f), .val (.int (((Int32.ofNat x) - (Int32.ofNat q)) &&& (Int32.ofNat (2 ^ k - 1)))), .val (.int (((Int32.ofNat x) - (Int32.ofNat x)) &&& (Int32.ofNat (2 ^ k - 1)))), .val (.int (((Int32.ofNat r7) - (Int32.ofNat q)) &&& (Int32.ofNat (2 ^ k - 1)))), .unset, .unset, .unset, .unset] [(.int (Int32.ofNat x)), (.ref f)])) rfl (by rw [hml]; rfl) (Steps.refl _) (argsL := [(.int (Int32.ofNat x))]) (rest := []) (lenOf pd_0_1 rfl) rfl (by show 2 * 0 + _ ≤ _; exact Nat.le_of_eq rfl) (hb hby at_88) (fun _ _ => ⟨rfl, e7, (by decide : 3 + 0 ≤ _), (by decide : 523 + 0 ≤ _)⟩)
  dsimp only [Pt.U, Pt.locs, Pt.cells, Pt.slots] at X8 zl8 zy8 zz8 st8 hQ8
  rw [show zK8 = 3 from zy8, show zN8 = 523 from zz8] at X8
  obtain ⟨⟨r8, rfl, hr8⟩, N8q, e8⟩ := hQ8
  have N8 : Fr n0 zL8 := by rw [zl8]; exact Fr.app N7 N8q
  refine own_step (fun _ zk => (st8).trans zk) ?_
  show own_E p e below _ (T8.setTop (mkF m 91 #[.val (.int p1), .val (.int p2), .val (.int p3), .val (.int p4), .val (.int (Int32.ofNat (2 ^ k))), .val (.int (Int32.ofNat (2 ^ k - 1))), .val (.int (Int32.ofNat x)), .val (.int (Int32.ofNat y)), .val (.int (Int32.ofNat q)), .val (.ref f), .val (.int (((Int32.ofNat x) - (Int32.ofNat q)) &&& (Int32.ofNat (2 ^ k - 1)))), .val (.int (((Int32.ofNat x) - (Int32.ofNat x)) &&& (Int32.ofNat (2 ^ k - 1)))), .val (.int (((Int32.ofNat r7) - (Int32.ofNat q)) &&& (Int32.ofNat (2 ^ k - 1)))), .unset, .unset, .unset, .unset] [(.int (((Int32.ofNat r8) - (Int32.ofNat x)) &&& (Int32.ofNat (2 ^ k - 1))))]))
  have er8 : r8 = x := own_foundSelf ((own_S2 x y x).mpr (Or.inl rfl)) hr8
  rw [er8]
  show own_E p e below _ (T8.setTop (mkF m 91 #[.val (.int p1), .val (.int p2), .val (.int p3), .val (.int p4), .val (.int (Int32.ofNat (2 ^ k))), .val (.int (Int32.ofNat (2 ^ k - 1))), .val (.int (Int32.ofNat x)), .val (.int (Int32.ofNat y)), .val (.int (Int32.ofNat q)), .val (.ref f), .val (.int (((Int32.ofNat x) - (Int32.ofNat q)) &&& (Int32.ofNat (2 ^ k - 1)))), .val (.int (((Int32.ofNat x) - (Int32.ofNat x)) &&& (Int32.ofNat (2 ^ k - 1)))), .val (.int (((Int32.ofNat r7) - (Int32.ofNat q)) &&& (Int32.ofNat (2 ^ k - 1)))), .unset, .unset, .unset, .unset] [(.int (((Int32.ofNat x) - (Int32.ofNat x)) &&& (Int32.ofNat (2 ^ k - 1))))]))
  refine own_step (fun _ zk => XS.istore X8.here hx rfl (hb hby at_91) rfl (l' := #[.val (.int p1), .val (.int p2), .val (.int p3), .val (.int p4), .val (.int (Int32.ofNat (2 ^ k))), .val (.int (Int32.ofNat (2 ^ k - 1))), .val (.int (Int32.ofNat x)), .val (.int (Int32.ofNat y)), .val (.int (Int32.ofNat q)), .val (.ref f), .val (.int (((Int32.ofNat x) - (Int32.ofNat q)) &&& (Int32.ofNat (2 ^ k - 1)))), .val (.int (((Int32.ofNat x) - (Int32.ofNat x)) &&& (Int32.ofNat (2 ^ k - 1)))), .val (.int (((Int32.ofNat r7) - (Int32.ofNat q)) &&& (Int32.ofNat (2 ^ k - 1)))), .val (.int (((Int32.ofNat x) - (Int32.ofNat x)) &&& (Int32.ofNat (2 ^ k - 1)))), .unset, .unset, .unset]) rfl zk) ?_
  show own_E p e below _ (T8.setTop (mkF m 93 #[.val (.int p1), .val (.int p2), .val (.int p3), .val (.int p4), .val (.int (Int32.ofNat (2 ^ k))), .val (.int (Int32.ofNat (2 ^ k - 1))), .val (.int (Int32.ofNat x)), .val (.int (Int32.ofNat y)), .val (.int (Int32.ofNat q)), .val (.ref f), .val (.int (((Int32.ofNat x) - (Int32.ofNat q)) &&& (Int32.ofNat (2 ^ k - 1)))), .val (.int (((Int32.ofNat x) - (Int32.ofNat x)) &&& (Int32.ofNat (2 ^ k - 1)))), .val (.int (((Int32.ofNat r7) - (Int32.ofNat q)) &&& (Int32.ofNat (2 ^ k - 1)))), .val (.int (((Int32.ofNat x) - (Int32.ofNat x)) &&& (Int32.ofNat (2 ^ k - 1)))), .unset, .unset, .unset] []))
  refine own_step (fun _ zk => XS.aload X8.here hx rfl (hb hby at_93) rfl rfl zk) ?_
  show own_E p e below _ (T8.setTop (mkF m 95 #[.val (.int p1), .val (.int p2), .val (.int p3), .val (.int p4), .val (.int (Int32.ofNat (2 ^ k))), .val (.int (Int32.ofNat (2 ^ k - 1))), .val (.int (Int32.ofNat x)), .val (.int (Int32.ofNat y)), .val (.int (Int32.ofNat q)), .val (.ref f), .val (.int (((Int32.ofNat x) - (Int32.ofNat q)) &&& (Int32.ofNat (2 ^ k - 1)))), .val (.int (((Int32.ofNat x) - (Int32.ofNat x)) &&& (Int32.ofNat (2 ^ k - 1)))), .val (.int (((Int32.ofNat r7) - (Int32.ofNat q)) &&& (Int32.ofNat (2 ^ k - 1)))), .val (.int (((Int32.ofNat x) - (Int32.ofNat x)) &&& (Int32.ofNat (2 ^ k - 1)))), .unset, .unset, .unset] [(.ref f)]))
  refine own_step (fun _ zk => XS.iload X8.here hx rfl (hb hby at_95) rfl zk) ?_
  show own_E p e below _ (T8.setTop (mkF m 97 #[.val (.int p1), .val (.int p2), .val (.int p3), .val (.int p4), .val (.int (Int32.ofNat (2 ^ k))), .val (.int (Int32.ofNat (2 ^ k - 1))), .val (.int (Int32.ofNat x)), .val (.int (Int32.ofNat y)), .val (.int (Int32.ofNat q)), .val (.ref f), .val (.int (((Int32.ofNat x) - (Int32.ofNat q)) &&& (Int32.ofNat (2 ^ k - 1)))), .val (.int (((Int32.ofNat x) - (Int32.ofNat x)) &&& (Int32.ofNat (2 ^ k - 1)))), .val (.int (((Int32.ofNat r7) - (Int32.ofNat q)) &&& (Int32.ofNat (2 ^ k - 1)))), .val (.int (((Int32.ofNat x) - (Int32.ofNat x)) &&& (Int32.ofNat (2 ^ k - 1)))), .unset, .unset, .unset] [(.int (Int32.ofNat y)), (.ref f)]))
  obtain ⟨_, _, qa9, _, qc9⟩ := isOf (T := T8) hZ e8 E6
  obtain ⟨_, _, ⟨T9, zL9, zK9, zN9⟩, -, X9, ⟨zLc9, hQ9, zl9, zy9, zz9⟩, st9⟩ := X8.virtualBack hx (y := (⟨"com/example/wayfold/wayfold/engine/FilledBuckets", "stepsToFilled", "(I)I"⟩ : MethodName)) (z := (⟨"com/example/wayfold/wayfold/engine/FilledBuckets", "stepsToFilled", "(I)I"⟩ : MethodName)) hown (mvT hZ (hw _ (List.mem_of_getElem? (i := 25) rfl))) (mvT hZ (hw _ (List.mem_of_getElem? (i := 26) rfl))) (notFace_of_selects (args := #[]) (mvT hZ (hw _ (List.mem_of_getElem? (i := 28) rfl)))) (mvT hZ (hw _ (List.mem_of_getElem? (i := 28) rfl))) (mvT hZ (hw _ (List.mem_of_getElem? (i := 27) rfl))) (by decide) (backOf (W := 0) (rm5 l Z a0 hw [] f wa sa k y W2 U2 (own_add1 (own_add1 (fun _ => false) x) y) h6 n0 (Nat.le_trans Z0 K_6.1) (by omega) ⟨x, (own_S2 x y x).mpr (Or.inl rfl)⟩ hk ⟨E6, Fm6, Fw6, Fs6, AW6, AU6, n16, n26, n36⟩ I2) hZ (hw _ (List.mem_of_getElem? (i := 29) rfl)) (hw _ (List.mem_of_getElem? (i := 2) rfl)) (by decide) (by decide)) qa9 qc9 (g := (mkF m 97 #[.val (.int p1), .val (.int p2), .val (.int p3), .val (.int p4), .val (.int (Int32.ofNat (2 ^ k))), .val (.int (Int32.ofNat (2 ^ k - 1))), .val (.int (Int32.ofNat x)), .val (.int (Int32.ofNat y)), .val (.int (Int32.ofNat q)), .val (.ref f), .val (.int (((Int32.ofNat x) - (Int32.ofNat q)) &&& (Int32.ofNat (2 ^ k - 1)))), .val (.int (((Int32.ofNat x) - (Int32.ofNat x)) &&& (Int32.ofNat (2 ^ k - 1)))), .val (.int (((Int32.ofNat r7) - (Int32.ofNat q)) &&& (Int32.ofNat (2 ^ k - 1)))), .val (.int (((Int32.ofNat x) - (Int32.ofNat x)) &&& (Int32.ofNat (2 ^ k - 1)))), .unset, .unset, .unset] [(.int (Int32.ofNat y)), (.ref f)])) rfl (by rw [hml]; rfl) (Steps.refl _) (argsL := [(.int (Int32.ofNat y))]) (rest := []) (lenOf pd_0_1 rfl) rfl (by show 2 * 0 + _ ≤ _; exact Nat.le_of_eq rfl) (hb hby at_97) (fun _ _ => ⟨rfl, e8, (by decide : 3 + 0 ≤ _), (by decide : 523 + 0 ≤ _)⟩)
  dsimp only [Pt.U, Pt.locs, Pt.cells, Pt.slots] at X9 zl9 zy9 zz9 st9 hQ9
  rw [show zK9 = 3 from zy9, show zN9 = 523 from zz9] at X9
  obtain ⟨⟨r9, rfl, hr9⟩, N9q, e9⟩ := hQ9
  have N9 : Fr n0 zL9 := by rw [zl9]; exact Fr.app N8 N9q
  refine own_step (fun _ zk => (st9).trans zk) ?_
  show own_E p e below _ (T9.setTop (mkF m 100 #[.val (.int p1), .val (.int p2), .val (.int p3), .val (.int p4), .val (.int (Int32.ofNat (2 ^ k))), .val (.int (Int32.ofNat (2 ^ k - 1))), .val (.int (Int32.ofNat x)), .val (.int (Int32.ofNat y)), .val (.int (Int32.ofNat q)), .val (.ref f), .val (.int (((Int32.ofNat x) - (Int32.ofNat q)) &&& (Int32.ofNat (2 ^ k - 1)))), .val (.int (((Int32.ofNat x) - (Int32.ofNat x)) &&& (Int32.ofNat (2 ^ k - 1)))), .val (.int (((Int32.ofNat r7) - (Int32.ofNat q)) &&& (Int32.ofNat (2 ^ k - 1)))), .val (.int (((Int32.ofNat x) - (Int32.ofNat x)) &&& (Int32.ofNat (2 ^ k - 1)))), .unset, .unset, .unset] [(.int (((Int32.ofNat r9) - (Int32.ofNat y)) &&& (Int32.ofNat (2 ^ k - 1))))]))
  have er9 : r9 = y := own_foundSelf ((own_S2 x y y).mpr (Or.inr rfl)) hr9
  rw [er9]
  show own_E p e below _ (T9.setTop (mkF m 100 #[.val (.int p1), .val (.int p2), .val (.int p3), .val (.int p4), .val (.int (Int32.ofNat (2 ^ k))), .val (.int (Int32.ofNat (2 ^ k - 1))), .val (.int (Int32.ofNat x)), .val (.int (Int32.ofNat y)), .val (.int (Int32.ofNat q)), .val (.ref f), .val (.int (((Int32.ofNat x) - (Int32.ofNat q)) &&& (Int32.ofNat (2 ^ k - 1)))), .val (.int (((Int32.ofNat x) - (Int32.ofNat x)) &&& (Int32.ofNat (2 ^ k - 1)))), .val (.int (((Int32.ofNat r7) - (Int32.ofNat q)) &&& (Int32.ofNat (2 ^ k - 1)))), .val (.int (((Int32.ofNat x) - (Int32.ofNat x)) &&& (Int32.ofNat (2 ^ k - 1)))), .unset, .unset, .unset] [(.int (((Int32.ofNat y) - (Int32.ofNat y)) &&& (Int32.ofNat (2 ^ k - 1))))]))
  refine own_step (fun _ zk => XS.istore X9.here hx rfl (hb hby at_100) rfl (l' := #[.val (.int p1), .val (.int p2), .val (.int p3), .val (.int p4), .val (.int (Int32.ofNat (2 ^ k))), .val (.int (Int32.ofNat (2 ^ k - 1))), .val (.int (Int32.ofNat x)), .val (.int (Int32.ofNat y)), .val (.int (Int32.ofNat q)), .val (.ref f), .val (.int (((Int32.ofNat x) - (Int32.ofNat q)) &&& (Int32.ofNat (2 ^ k - 1)))), .val (.int (((Int32.ofNat x) - (Int32.ofNat x)) &&& (Int32.ofNat (2 ^ k - 1)))), .val (.int (((Int32.ofNat r7) - (Int32.ofNat q)) &&& (Int32.ofNat (2 ^ k - 1)))), .val (.int (((Int32.ofNat x) - (Int32.ofNat x)) &&& (Int32.ofNat (2 ^ k - 1)))), .val (.int (((Int32.ofNat y) - (Int32.ofNat y)) &&& (Int32.ofNat (2 ^ k - 1)))), .unset, .unset]) rfl zk) ?_
  show own_E p e below _ (T9.setTop (mkF m 102 #[.val (.int p1), .val (.int p2), .val (.int p3), .val (.int p4), .val (.int (Int32.ofNat (2 ^ k))), .val (.int (Int32.ofNat (2 ^ k - 1))), .val (.int (Int32.ofNat x)), .val (.int (Int32.ofNat y)), .val (.int (Int32.ofNat q)), .val (.ref f), .val (.int (((Int32.ofNat x) - (Int32.ofNat q)) &&& (Int32.ofNat (2 ^ k - 1)))), .val (.int (((Int32.ofNat x) - (Int32.ofNat x)) &&& (Int32.ofNat (2 ^ k - 1)))), .val (.int (((Int32.ofNat r7) - (Int32.ofNat q)) &&& (Int32.ofNat (2 ^ k - 1)))), .val (.int (((Int32.ofNat x) - (Int32.ofNat x)) &&& (Int32.ofNat (2 ^ k - 1)))), .val (.int (((Int32.ofNat y) - (Int32.ofNat y)) &&& (Int32.ofNat (2 ^ k - 1)))), .unset, .unset] []))
  refine own_step (fun _ zk => XS.iload X9.here hx rfl (hb hby at_102) rfl zk) ?_
  show own_E p e below _ (T9.setTop (mkF m 104 #[.val (.int p1), .val (.int p2), .val (.int p3), .val (.int p4), .val (.int (Int32.ofNat (2 ^ k))), .val (.int (Int32.ofNat (2 ^ k - 1))), .val (.int (Int32.ofNat x)), .val (.int (Int32.ofNat y)), .val (.int (Int32.ofNat q)), .val (.ref f), .val (.int (((Int32.ofNat x) - (Int32.ofNat q)) &&& (Int32.ofNat (2 ^ k - 1)))), .val (.int (((Int32.ofNat x) - (Int32.ofNat x)) &&& (Int32.ofNat (2 ^ k - 1)))), .val (.int (((Int32.ofNat r7) - (Int32.ofNat q)) &&& (Int32.ofNat (2 ^ k - 1)))), .val (.int (((Int32.ofNat x) - (Int32.ofNat x)) &&& (Int32.ofNat (2 ^ k - 1)))), .val (.int (((Int32.ofNat y) - (Int32.ofNat y)) &&& (Int32.ofNat (2 ^ k - 1)))), .unset, .unset] [(.int (Int32.ofNat x))]))
  refine own_step (fun _ zk => XS.iload X9.here hx rfl (hb hby at_104) rfl zk) ?_
  show own_E p e below _ (T9.setTop (mkF m 106 #[.val (.int p1), .val (.int p2), .val (.int p3), .val (.int p4), .val (.int (Int32.ofNat (2 ^ k))), .val (.int (Int32.ofNat (2 ^ k - 1))), .val (.int (Int32.ofNat x)), .val (.int (Int32.ofNat y)), .val (.int (Int32.ofNat q)), .val (.ref f), .val (.int (((Int32.ofNat x) - (Int32.ofNat q)) &&& (Int32.ofNat (2 ^ k - 1)))), .val (.int (((Int32.ofNat x) - (Int32.ofNat x)) &&& (Int32.ofNat (2 ^ k - 1)))), .val (.int (((Int32.ofNat r7) - (Int32.ofNat q)) &&& (Int32.ofNat (2 ^ k - 1)))), .val (.int (((Int32.ofNat x) - (Int32.ofNat x)) &&& (Int32.ofNat (2 ^ k - 1)))), .val (.int (((Int32.ofNat y) - (Int32.ofNat y)) &&& (Int32.ofNat (2 ^ k - 1)))), .unset, .unset] [(.int (Int32.ofNat q)), (.int (Int32.ofNat x))]))
  refine own_step (fun _ zk => XS.isub X9.here hx rfl (hb hby at_106) rfl zk) ?_
  show own_E p e below _ (T9.setTop (mkF m 107 #[.val (.int p1), .val (.int p2), .val (.int p3), .val (.int p4), .val (.int (Int32.ofNat (2 ^ k))), .val (.int (Int32.ofNat (2 ^ k - 1))), .val (.int (Int32.ofNat x)), .val (.int (Int32.ofNat y)), .val (.int (Int32.ofNat q)), .val (.ref f), .val (.int (((Int32.ofNat x) - (Int32.ofNat q)) &&& (Int32.ofNat (2 ^ k - 1)))), .val (.int (((Int32.ofNat x) - (Int32.ofNat x)) &&& (Int32.ofNat (2 ^ k - 1)))), .val (.int (((Int32.ofNat r7) - (Int32.ofNat q)) &&& (Int32.ofNat (2 ^ k - 1)))), .val (.int (((Int32.ofNat x) - (Int32.ofNat x)) &&& (Int32.ofNat (2 ^ k - 1)))), .val (.int (((Int32.ofNat y) - (Int32.ofNat y)) &&& (Int32.ofNat (2 ^ k - 1)))), .unset, .unset] [(.int ((Int32.ofNat x) - (Int32.ofNat q)))]))
  refine own_step (fun _ zk => XS.iload X9.here hx rfl (hb hby at_107) rfl zk) ?_
  show own_E p e below _ (T9.setTop (mkF m 109 #[.val (.int p1), .val (.int p2), .val (.int p3), .val (.int p4), .val (.int (Int32.ofNat (2 ^ k))), .val (.int (Int32.ofNat (2 ^ k - 1))), .val (.int (Int32.ofNat x)), .val (.int (Int32.ofNat y)), .val (.int (Int32.ofNat q)), .val (.ref f), .val (.int (((Int32.ofNat x) - (Int32.ofNat q)) &&& (Int32.ofNat (2 ^ k - 1)))), .val (.int (((Int32.ofNat x) - (Int32.ofNat x)) &&& (Int32.ofNat (2 ^ k - 1)))), .val (.int (((Int32.ofNat r7) - (Int32.ofNat q)) &&& (Int32.ofNat (2 ^ k - 1)))), .val (.int (((Int32.ofNat x) - (Int32.ofNat x)) &&& (Int32.ofNat (2 ^ k - 1)))), .val (.int (((Int32.ofNat y) - (Int32.ofNat y)) &&& (Int32.ofNat (2 ^ k - 1)))), .unset, .unset] [(.int (Int32.ofNat (2 ^ k - 1))), (.int ((Int32.ofNat x) - (Int32.ofNat q)))]))
  refine own_step (fun _ zk => XS.iand X9.here hx rfl (hb hby at_109) rfl zk) ?_
  show own_E p e below _ (T9.setTop (mkF m 110 #[.val (.int p1), .val (.int p2), .val (.int p3), .val (.int p4), .val (.int (Int32.ofNat (2 ^ k))), .val (.int (Int32.ofNat (2 ^ k - 1))), .val (.int (Int32.ofNat x)), .val (.int (Int32.ofNat y)), .val (.int (Int32.ofNat q)), .val (.ref f), .val (.int (((Int32.ofNat x) - (Int32.ofNat q)) &&& (Int32.ofNat (2 ^ k - 1)))), .val (.int (((Int32.ofNat x) - (Int32.ofNat x)) &&& (Int32.ofNat (2 ^ k - 1)))), .val (.int (((Int32.ofNat r7) - (Int32.ofNat q)) &&& (Int32.ofNat (2 ^ k - 1)))), .val (.int (((Int32.ofNat x) - (Int32.ofNat x)) &&& (Int32.ofNat (2 ^ k - 1)))), .val (.int (((Int32.ofNat y) - (Int32.ofNat y)) &&& (Int32.ofNat (2 ^ k - 1)))), .unset, .unset] [(.int (((Int32.ofNat x) - (Int32.ofNat q)) &&& (Int32.ofNat (2 ^ k - 1))))]))
  refine own_step (fun _ zk => XS.istore X9.here hx rfl (hb hby at_110) rfl (l' := #[.val (.int p1), .val (.int p2), .val (.int p3), .val (.int p4), .val (.int (Int32.ofNat (2 ^ k))), .val (.int (Int32.ofNat (2 ^ k - 1))), .val (.int (Int32.ofNat x)), .val (.int (Int32.ofNat y)), .val (.int (Int32.ofNat q)), .val (.ref f), .val (.int (((Int32.ofNat x) - (Int32.ofNat q)) &&& (Int32.ofNat (2 ^ k - 1)))), .val (.int (((Int32.ofNat x) - (Int32.ofNat x)) &&& (Int32.ofNat (2 ^ k - 1)))), .val (.int (((Int32.ofNat r7) - (Int32.ofNat q)) &&& (Int32.ofNat (2 ^ k - 1)))), .val (.int (((Int32.ofNat x) - (Int32.ofNat x)) &&& (Int32.ofNat (2 ^ k - 1)))), .val (.int (((Int32.ofNat y) - (Int32.ofNat y)) &&& (Int32.ofNat (2 ^ k - 1)))), .val (.int (((Int32.ofNat x) - (Int32.ofNat q)) &&& (Int32.ofNat (2 ^ k - 1)))), .unset]) rfl zk) ?_
  show own_E p e below _ (T9.setTop (mkF m 112 #[.val (.int p1), .val (.int p2), .val (.int p3), .val (.int p4), .val (.int (Int32.ofNat (2 ^ k))), .val (.int (Int32.ofNat (2 ^ k - 1))), .val (.int (Int32.ofNat x)), .val (.int (Int32.ofNat y)), .val (.int (Int32.ofNat q)), .val (.ref f), .val (.int (((Int32.ofNat x) - (Int32.ofNat q)) &&& (Int32.ofNat (2 ^ k - 1)))), .val (.int (((Int32.ofNat x) - (Int32.ofNat x)) &&& (Int32.ofNat (2 ^ k - 1)))), .val (.int (((Int32.ofNat r7) - (Int32.ofNat q)) &&& (Int32.ofNat (2 ^ k - 1)))), .val (.int (((Int32.ofNat x) - (Int32.ofNat x)) &&& (Int32.ofNat (2 ^ k - 1)))), .val (.int (((Int32.ofNat y) - (Int32.ofNat y)) &&& (Int32.ofNat (2 ^ k - 1)))), .val (.int (((Int32.ofNat x) - (Int32.ofNat q)) &&& (Int32.ofNat (2 ^ k - 1)))), .unset] []))
  refine own_step (fun _ zk => XS.iload X9.here hx rfl (hb hby at_112) rfl zk) ?_
  show own_E p e below _ (T9.setTop (mkF m 114 #[.val (.int p1), .val (.int p2), .val (.int p3), .val (.int p4), .val (.int (Int32.ofNat (2 ^ k))), .val (.int (Int32.ofNat (2 ^ k - 1))), .val (.int (Int32.ofNat x)), .val (.int (Int32.ofNat y)), .val (.int (Int32.ofNat q)), .val (.ref f), .val (.int (((Int32.ofNat x) - (Int32.ofNat q)) &&& (Int32.ofNat (2 ^ k - 1)))), .val (.int (((Int32.ofNat x) - (Int32.ofNat x)) &&& (Int32.ofNat (2 ^ k - 1)))), .val (.int (((Int32.ofNat r7) - (Int32.ofNat q)) &&& (Int32.ofNat (2 ^ k - 1)))), .val (.int (((Int32.ofNat x) - (Int32.ofNat x)) &&& (Int32.ofNat (2 ^ k - 1)))), .val (.int (((Int32.ofNat y) - (Int32.ofNat y)) &&& (Int32.ofNat (2 ^ k - 1)))), .val (.int (((Int32.ofNat x) - (Int32.ofNat q)) &&& (Int32.ofNat (2 ^ k - 1)))), .unset] [(.int (Int32.ofNat y))]))
  refine own_step (fun _ zk => XS.iload X9.here hx rfl (hb hby at_114) rfl zk) ?_
  show own_E p e below _ (T9.setTop (mkF m 116 #[.val (.int p1), .val (.int p2), .val (.int p3), .val (.int p4), .val (.int (Int32.ofNat (2 ^ k))), .val (.int (Int32.ofNat (2 ^ k - 1))), .val (.int (Int32.ofNat x)), .val (.int (Int32.ofNat y)), .val (.int (Int32.ofNat q)), .val (.ref f), .val (.int (((Int32.ofNat x) - (Int32.ofNat q)) &&& (Int32.ofNat (2 ^ k - 1)))), .val (.int (((Int32.ofNat x) - (Int32.ofNat x)) &&& (Int32.ofNat (2 ^ k - 1)))), .val (.int (((Int32.ofNat r7) - (Int32.ofNat q)) &&& (Int32.ofNat (2 ^ k - 1)))), .val (.int (((Int32.ofNat x) - (Int32.ofNat x)) &&& (Int32.ofNat (2 ^ k - 1)))), .val (.int (((Int32.ofNat y) - (Int32.ofNat y)) &&& (Int32.ofNat (2 ^ k - 1)))), .val (.int (((Int32.ofNat x) - (Int32.ofNat q)) &&& (Int32.ofNat (2 ^ k - 1)))), .unset] [(.int (Int32.ofNat q)), (.int (Int32.ofNat y))]))
  refine own_step (fun _ zk => XS.isub X9.here hx rfl (hb hby at_116) rfl zk) ?_
  show own_E p e below _ (T9.setTop (mkF m 117 #[.val (.int p1), .val (.int p2), .val (.int p3), .val (.int p4), .val (.int (Int32.ofNat (2 ^ k))), .val (.int (Int32.ofNat (2 ^ k - 1))), .val (.int (Int32.ofNat x)), .val (.int (Int32.ofNat y)), .val (.int (Int32.ofNat q)), .val (.ref f), .val (.int (((Int32.ofNat x) - (Int32.ofNat q)) &&& (Int32.ofNat (2 ^ k - 1)))), .val (.int (((Int32.ofNat x) - (Int32.ofNat x)) &&& (Int32.ofNat (2 ^ k - 1)))), .val (.int (((Int32.ofNat r7) - (Int32.ofNat q)) &&& (Int32.ofNat (2 ^ k - 1)))), .val (.int (((Int32.ofNat x) - (Int32.ofNat x)) &&& (Int32.ofNat (2 ^ k - 1)))), .val (.int (((Int32.ofNat y) - (Int32.ofNat y)) &&& (Int32.ofNat (2 ^ k - 1)))), .val (.int (((Int32.ofNat x) - (Int32.ofNat q)) &&& (Int32.ofNat (2 ^ k - 1)))), .unset] [(.int ((Int32.ofNat y) - (Int32.ofNat q)))]))
  refine own_step (fun _ zk => XS.iload X9.here hx rfl (hb hby at_117) rfl zk) ?_
  show own_E p e below _ (T9.setTop (mkF m 119 #[.val (.int p1), .val (.int p2), .val (.int p3), .val (.int p4), .val (.int (Int32.ofNat (2 ^ k))), .val (.int (Int32.ofNat (2 ^ k - 1))), .val (.int (Int32.ofNat x)), .val (.int (Int32.ofNat y)), .val (.int (Int32.ofNat q)), .val (.ref f), .val (.int (((Int32.ofNat x) - (Int32.ofNat q)) &&& (Int32.ofNat (2 ^ k - 1)))), .val (.int (((Int32.ofNat x) - (Int32.ofNat x)) &&& (Int32.ofNat (2 ^ k - 1)))), .val (.int (((Int32.ofNat r7) - (Int32.ofNat q)) &&& (Int32.ofNat (2 ^ k - 1)))), .val (.int (((Int32.ofNat x) - (Int32.ofNat x)) &&& (Int32.ofNat (2 ^ k - 1)))), .val (.int (((Int32.ofNat y) - (Int32.ofNat y)) &&& (Int32.ofNat (2 ^ k - 1)))), .val (.int (((Int32.ofNat x) - (Int32.ofNat q)) &&& (Int32.ofNat (2 ^ k - 1)))), .unset] [(.int (Int32.ofNat (2 ^ k - 1))), (.int ((Int32.ofNat y) - (Int32.ofNat q)))]))
  refine own_step (fun _ zk => XS.iand X9.here hx rfl (hb hby at_119) rfl zk) ?_
  show own_E p e below _ (T9.setTop (mkF m 120 #[.val (.int p1), .val (.int p2), .val (.int p3), .val (.int p4), .val (.int (Int32.ofNat (2 ^ k))), .val (.int (Int32.ofNat (2 ^ k - 1))), .val (.int (Int32.ofNat x)), .val (.int (Int32.ofNat y)), .val (.int (Int32.ofNat q)), .val (.ref f), .val (.int (((Int32.ofNat x) - (Int32.ofNat q)) &&& (Int32.ofNat (2 ^ k - 1)))), .val (.int (((Int32.ofNat x) - (Int32.ofNat x)) &&& (Int32.ofNat (2 ^ k - 1)))), .val (.int (((Int32.ofNat r7) - (Int32.ofNat q)) &&& (Int32.ofNat (2 ^ k - 1)))), .val (.int (((Int32.ofNat x) - (Int32.ofNat x)) &&& (Int32.ofNat (2 ^ k - 1)))), .val (.int (((Int32.ofNat y) - (Int32.ofNat y)) &&& (Int32.ofNat (2 ^ k - 1)))), .val (.int (((Int32.ofNat x) - (Int32.ofNat q)) &&& (Int32.ofNat (2 ^ k - 1)))), .unset] [(.int (((Int32.ofNat y) - (Int32.ofNat q)) &&& (Int32.ofNat (2 ^ k - 1))))]))
  refine own_step (fun _ zk => XS.istore X9.here hx rfl (hb hby at_120) rfl (l' := #[.val (.int p1), .val (.int p2), .val (.int p3), .val (.int p4), .val (.int (Int32.ofNat (2 ^ k))), .val (.int (Int32.ofNat (2 ^ k - 1))), .val (.int (Int32.ofNat x)), .val (.int (Int32.ofNat y)), .val (.int (Int32.ofNat q)), .val (.ref f), .val (.int (((Int32.ofNat x) - (Int32.ofNat q)) &&& (Int32.ofNat (2 ^ k - 1)))), .val (.int (((Int32.ofNat x) - (Int32.ofNat x)) &&& (Int32.ofNat (2 ^ k - 1)))), .val (.int (((Int32.ofNat r7) - (Int32.ofNat q)) &&& (Int32.ofNat (2 ^ k - 1)))), .val (.int (((Int32.ofNat x) - (Int32.ofNat x)) &&& (Int32.ofNat (2 ^ k - 1)))), .val (.int (((Int32.ofNat y) - (Int32.ofNat y)) &&& (Int32.ofNat (2 ^ k - 1)))), .val (.int (((Int32.ofNat x) - (Int32.ofNat q)) &&& (Int32.ofNat (2 ^ k - 1)))), .val (.int (((Int32.ofNat y) - (Int32.ofNat q)) &&& (Int32.ofNat (2 ^ k - 1))))]) rfl zk) ?_
  show own_E p e below _ (T9.setTop (mkF m 122 #[.val (.int p1), .val (.int p2), .val (.int p3), .val (.int p4), .val (.int (Int32.ofNat (2 ^ k))), .val (.int (Int32.ofNat (2 ^ k - 1))), .val (.int (Int32.ofNat x)), .val (.int (Int32.ofNat y)), .val (.int (Int32.ofNat q)), .val (.ref f), .val (.int (((Int32.ofNat x) - (Int32.ofNat q)) &&& (Int32.ofNat (2 ^ k - 1)))), .val (.int (((Int32.ofNat x) - (Int32.ofNat x)) &&& (Int32.ofNat (2 ^ k - 1)))), .val (.int (((Int32.ofNat r7) - (Int32.ofNat q)) &&& (Int32.ofNat (2 ^ k - 1)))), .val (.int (((Int32.ofNat x) - (Int32.ofNat x)) &&& (Int32.ofNat (2 ^ k - 1)))), .val (.int (((Int32.ofNat y) - (Int32.ofNat y)) &&& (Int32.ofNat (2 ^ k - 1)))), .val (.int (((Int32.ofNat x) - (Int32.ofNat q)) &&& (Int32.ofNat (2 ^ k - 1)))), .val (.int (((Int32.ofNat y) - (Int32.ofNat q)) &&& (Int32.ofNat (2 ^ k - 1))))] []))
  refine own_step (fun _ zk => XS.iload X9.here hx rfl (hb hby at_122) rfl zk) ?_
  show own_E p e below _ (T9.setTop (mkF m 124 #[.val (.int p1), .val (.int p2), .val (.int p3), .val (.int p4), .val (.int (Int32.ofNat (2 ^ k))), .val (.int (Int32.ofNat (2 ^ k - 1))), .val (.int (Int32.ofNat x)), .val (.int (Int32.ofNat y)), .val (.int (Int32.ofNat q)), .val (.ref f), .val (.int (((Int32.ofNat x) - (Int32.ofNat q)) &&& (Int32.ofNat (2 ^ k - 1)))), .val (.int (((Int32.ofNat x) - (Int32.ofNat x)) &&& (Int32.ofNat (2 ^ k - 1)))), .val (.int (((Int32.ofNat r7) - (Int32.ofNat q)) &&& (Int32.ofNat (2 ^ k - 1)))), .val (.int (((Int32.ofNat x) - (Int32.ofNat x)) &&& (Int32.ofNat (2 ^ k - 1)))), .val (.int (((Int32.ofNat y) - (Int32.ofNat y)) &&& (Int32.ofNat (2 ^ k - 1)))), .val (.int (((Int32.ofNat x) - (Int32.ofNat q)) &&& (Int32.ofNat (2 ^ k - 1)))), .val (.int (((Int32.ofNat y) - (Int32.ofNat q)) &&& (Int32.ofNat (2 ^ k - 1))))] [(.int (((Int32.ofNat x) - (Int32.ofNat q)) &&& (Int32.ofNat (2 ^ k - 1))))]))
  refine own_step (fun _ zk => XS.iload X9.here hx rfl (hb hby at_124) rfl zk) ?_
  show own_E p e below _ (T9.setTop (mkF m 126 #[.val (.int p1), .val (.int p2), .val (.int p3), .val (.int p4), .val (.int (Int32.ofNat (2 ^ k))), .val (.int (Int32.ofNat (2 ^ k - 1))), .val (.int (Int32.ofNat x)), .val (.int (Int32.ofNat y)), .val (.int (Int32.ofNat q)), .val (.ref f), .val (.int (((Int32.ofNat x) - (Int32.ofNat q)) &&& (Int32.ofNat (2 ^ k - 1)))), .val (.int (((Int32.ofNat x) - (Int32.ofNat x)) &&& (Int32.ofNat (2 ^ k - 1)))), .val (.int (((Int32.ofNat r7) - (Int32.ofNat q)) &&& (Int32.ofNat (2 ^ k - 1)))), .val (.int (((Int32.ofNat x) - (Int32.ofNat x)) &&& (Int32.ofNat (2 ^ k - 1)))), .val (.int (((Int32.ofNat y) - (Int32.ofNat y)) &&& (Int32.ofNat (2 ^ k - 1)))), .val (.int (((Int32.ofNat x) - (Int32.ofNat q)) &&& (Int32.ofNat (2 ^ k - 1)))), .val (.int (((Int32.ofNat y) - (Int32.ofNat q)) &&& (Int32.ofNat (2 ^ k - 1))))] [(.int (((Int32.ofNat x) - (Int32.ofNat q)) &&& (Int32.ofNat (2 ^ k - 1)))), (.int (((Int32.ofNat x) - (Int32.ofNat q)) &&& (Int32.ofNat (2 ^ k - 1))))]))
  refine own_step (fun _ zk => XS.icmpNo X9.here hx rfl (hb hby at_126) rfl (teq rfl).2 zk) ?_
  show own_E p e below _ (T9.setTop (mkF m 129 #[.val (.int p1), .val (.int p2), .val (.int p3), .val (.int p4), .val (.int (Int32.ofNat (2 ^ k))), .val (.int (Int32.ofNat (2 ^ k - 1))), .val (.int (Int32.ofNat x)), .val (.int (Int32.ofNat y)), .val (.int (Int32.ofNat q)), .val (.ref f), .val (.int (((Int32.ofNat x) - (Int32.ofNat q)) &&& (Int32.ofNat (2 ^ k - 1)))), .val (.int (((Int32.ofNat x) - (Int32.ofNat x)) &&& (Int32.ofNat (2 ^ k - 1)))), .val (.int (((Int32.ofNat r7) - (Int32.ofNat q)) &&& (Int32.ofNat (2 ^ k - 1)))), .val (.int (((Int32.ofNat x) - (Int32.ofNat x)) &&& (Int32.ofNat (2 ^ k - 1)))), .val (.int (((Int32.ofNat y) - (Int32.ofNat y)) &&& (Int32.ofNat (2 ^ k - 1)))), .val (.int (((Int32.ofNat x) - (Int32.ofNat q)) &&& (Int32.ofNat (2 ^ k - 1)))), .val (.int (((Int32.ofNat y) - (Int32.ofNat q)) &&& (Int32.ofNat (2 ^ k - 1))))] []))
  refine own_step (fun _ zk => XS.iload X9.here hx rfl (hb hby at_129) rfl zk) ?_
  show own_E p e below _ (T9.setTop (mkF m 131 #[.val (.int p1), .val (.int p2), .val (.int p3), .val (.int p4), .val (.int (Int32.ofNat (2 ^ k))), .val (.int (Int32.ofNat (2 ^ k - 1))), .val (.int (Int32.ofNat x)), .val (.int (Int32.ofNat y)), .val (.int (Int32.ofNat q)), .val (.ref f), .val (.int (((Int32.ofNat x) - (Int32.ofNat q)) &&& (Int32.ofNat (2 ^ k - 1)))), .val (.int (((Int32.ofNat x) - (Int32.ofNat x)) &&& (Int32.ofNat (2 ^ k - 1)))), .val (.int (((Int32.ofNat r7) - (Int32.ofNat q)) &&& (Int32.ofNat (2 ^ k - 1)))), .val (.int (((Int32.ofNat x) - (Int32.ofNat x)) &&& (Int32.ofNat (2 ^ k - 1)))), .val (.int (((Int32.ofNat y) - (Int32.ofNat y)) &&& (Int32.ofNat (2 ^ k - 1)))), .val (.int (((Int32.ofNat x) - (Int32.ofNat q)) &&& (Int32.ofNat (2 ^ k - 1)))), .val (.int (((Int32.ofNat y) - (Int32.ofNat q)) &&& (Int32.ofNat (2 ^ k - 1))))] [(.int (((Int32.ofNat x) - (Int32.ofNat x)) &&& (Int32.ofNat (2 ^ k - 1))))]))
  refine own_step (fun _ zk => XS.ifNo X9.here hx rfl (hb hby at_131) rfl ((if0 _ _).trans (teq (own_self0 _ _)).2) zk) ?_
  show own_E p e below _ (T9.setTop (mkF m 134 #[.val (.int p1), .val (.int p2), .val (.int p3), .val (.int p4), .val (.int (Int32.ofNat (2 ^ k))), .val (.int (Int32.ofNat (2 ^ k - 1))), .val (.int (Int32.ofNat x)), .val (.int (Int32.ofNat y)), .val (.int (Int32.ofNat q)), .val (.ref f), .val (.int (((Int32.ofNat x) - (Int32.ofNat q)) &&& (Int32.ofNat (2 ^ k - 1)))), .val (.int (((Int32.ofNat x) - (Int32.ofNat x)) &&& (Int32.ofNat (2 ^ k - 1)))), .val (.int (((Int32.ofNat r7) - (Int32.ofNat q)) &&& (Int32.ofNat (2 ^ k - 1)))), .val (.int (((Int32.ofNat x) - (Int32.ofNat x)) &&& (Int32.ofNat (2 ^ k - 1)))), .val (.int (((Int32.ofNat y) - (Int32.ofNat y)) &&& (Int32.ofNat (2 ^ k - 1)))), .val (.int (((Int32.ofNat x) - (Int32.ofNat q)) &&& (Int32.ofNat (2 ^ k - 1)))), .val (.int (((Int32.ofNat y) - (Int32.ofNat q)) &&& (Int32.ofNat (2 ^ k - 1))))] []))
  refine own_step (fun _ zk => XS.iload X9.here hx rfl (hb hby at_134) rfl zk) ?_
  show own_E p e below _ (T9.setTop (mkF m 136 #[.val (.int p1), .val (.int p2), .val (.int p3), .val (.int p4), .val (.int (Int32.ofNat (2 ^ k))), .val (.int (Int32.ofNat (2 ^ k - 1))), .val (.int (Int32.ofNat x)), .val (.int (Int32.ofNat y)), .val (.int (Int32.ofNat q)), .val (.ref f), .val (.int (((Int32.ofNat x) - (Int32.ofNat q)) &&& (Int32.ofNat (2 ^ k - 1)))), .val (.int (((Int32.ofNat x) - (Int32.ofNat x)) &&& (Int32.ofNat (2 ^ k - 1)))), .val (.int (((Int32.ofNat r7) - (Int32.ofNat q)) &&& (Int32.ofNat (2 ^ k - 1)))), .val (.int (((Int32.ofNat x) - (Int32.ofNat x)) &&& (Int32.ofNat (2 ^ k - 1)))), .val (.int (((Int32.ofNat y) - (Int32.ofNat y)) &&& (Int32.ofNat (2 ^ k - 1)))), .val (.int (((Int32.ofNat x) - (Int32.ofNat q)) &&& (Int32.ofNat (2 ^ k - 1)))), .val (.int (((Int32.ofNat y) - (Int32.ofNat q)) &&& (Int32.ofNat (2 ^ k - 1))))] [(.int (((Int32.ofNat r7) - (Int32.ofNat q)) &&& (Int32.ofNat (2 ^ k - 1))))]))
  refine own_step (fun _ zk => XS.iload X9.here hx rfl (hb hby at_136) rfl zk) ?_
  show own_E p e below _ (T9.setTop (mkF m 138 #[.val (.int p1), .val (.int p2), .val (.int p3), .val (.int p4), .val (.int (Int32.ofNat (2 ^ k))), .val (.int (Int32.ofNat (2 ^ k - 1))), .val (.int (Int32.ofNat x)), .val (.int (Int32.ofNat y)), .val (.int (Int32.ofNat q)), .val (.ref f), .val (.int (((Int32.ofNat x) - (Int32.ofNat q)) &&& (Int32.ofNat (2 ^ k - 1)))), .val (.int (((Int32.ofNat x) - (Int32.ofNat x)) &&& (Int32.ofNat (2 ^ k - 1)))), .val (.int (((Int32.ofNat r7) - (Int32.ofNat q)) &&& (Int32.ofNat (2 ^ k - 1)))), .val (.int (((Int32.ofNat x) - (Int32.ofNat x)) &&& (Int32.ofNat (2 ^ k - 1)))), .val (.int (((Int32.ofNat y) - (Int32.ofNat y)) &&& (Int32.ofNat (2 ^ k - 1)))), .val (.int (((Int32.ofNat x) - (Int32.ofNat q)) &&& (Int32.ofNat (2 ^ k - 1)))), .val (.int (((Int32.ofNat y) - (Int32.ofNat q)) &&& (Int32.ofNat (2 ^ k - 1))))] [(.int (((Int32.ofNat x) - (Int32.ofNat q)) &&& (Int32.ofNat (2 ^ k - 1)))), (.int (((Int32.ofNat r7) - (Int32.ofNat q)) &&& (Int32.ofNat (2 ^ k - 1))))]))
  refine own_step (fun _ zk => XS.iload X9.here hx rfl (hb hby at_138) rfl zk) ?_
  show own_E p e below _ (T9.setTop (mkF m 140 #[.val (.int p1), .val (.int p2), .val (.int p3), .val (.int p4), .val (.int (Int32.ofNat (2 ^ k))), .val (.int (Int32.ofNat (2 ^ k - 1))), .val (.int (Int32.ofNat x)), .val (.int (Int32.ofNat y)), .val (.int (Int32.ofNat q)), .val (.ref f), .val (.int (((Int32.ofNat x) - (Int32.ofNat q)) &&& (Int32.ofNat (2 ^ k - 1)))), .val (.int (((Int32.ofNat x) - (Int32.ofNat x)) &&& (Int32.ofNat (2 ^ k - 1)))), .val (.int (((Int32.ofNat r7) - (Int32.ofNat q)) &&& (Int32.ofNat (2 ^ k - 1)))), .val (.int (((Int32.ofNat x) - (Int32.ofNat x)) &&& (Int32.ofNat (2 ^ k - 1)))), .val (.int (((Int32.ofNat y) - (Int32.ofNat y)) &&& (Int32.ofNat (2 ^ k - 1)))), .val (.int (((Int32.ofNat x) - (Int32.ofNat q)) &&& (Int32.ofNat (2 ^ k - 1)))), .val (.int (((Int32.ofNat y) - (Int32.ofNat q)) &&& (Int32.ofNat (2 ^ k - 1))))] [(.int (((Int32.ofNat y) - (Int32.ofNat q)) &&& (Int32.ofNat (2 ^ k - 1)))), (.int (((Int32.ofNat x) - (Int32.ofNat q)) &&& (Int32.ofNat (2 ^ k - 1)))), (.int (((Int32.ofNat r7) - (Int32.ofNat q)) &&& (Int32.ofNat (2 ^ k - 1))))]))
  obtain ⟨_, _, ⟨T10, zL10, zK10, zN10⟩, -, X10, ⟨⟨rfl, e10'⟩, zl10, zy10, zz10⟩, st10⟩ := Jvm.LawKit.callS X9 hx (y := (⟨"java/lang/Math", "min", "(II)I"⟩ : MethodName)) hown (mvT hZ (hw _ (List.mem_of_getElem? (i := 43) rfl))) (mvT hZ (hw _ (List.mem_of_getElem? (i := 44) rfl))) (mvT hZ (hw _ (List.mem_of_getElem? (i := 13) rfl))) (mvT hZ (hw _ (List.mem_of_getElem? (i := 45) rfl))) (by decide) (W := 1) (Jvm.Free.JP.Math_min_II.pays (((Int32.ofNat x) - (Int32.ofNat q)) &&& (Int32.ofNat (2 ^ k - 1))) (((Int32.ofNat y) - (Int32.ofNat q)) &&& (Int32.ofNat (2 ^ k - 1))) (own_tab_min hZ hw) (by decide) (by decide)) (g := (mkF m 140 #[.val (.int p1), .val (.int p2), .val (.int p3), .val (.int p4), .val (.int (Int32.ofNat (2 ^ k))), .val (.int (Int32.ofNat (2 ^ k - 1))), .val (.int (Int32.ofNat x)), .val (.int (Int32.ofNat y)), .val (.int (Int32.ofNat q)), .val (.ref f), .val (.int (((Int32.ofNat x) - (Int32.ofNat q)) &&& (Int32.ofNat (2 ^ k - 1)))), .val (.int (((Int32.ofNat x) - (Int32.ofNat x)) &&& (Int32.ofNat (2 ^ k - 1)))), .val (.int (((Int32.ofNat r7) - (Int32.ofNat q)) &&& (Int32.ofNat (2 ^ k - 1)))), .val (.int (((Int32.ofNat x) - (Int32.ofNat x)) &&& (Int32.ofNat (2 ^ k - 1)))), .val (.int (((Int32.ofNat y) - (Int32.ofNat y)) &&& (Int32.ofNat (2 ^ k - 1)))), .val (.int (((Int32.ofNat x) - (Int32.ofNat q)) &&& (Int32.ofNat (2 ^ k - 1)))), .val (.int (((Int32.ofNat y) - (Int32.ofNat q)) &&& (Int32.ofNat (2 ^ k - 1))))] [(.int (((Int32.ofNat y) - (Int32.ofNat q)) &&& (Int32.ofNat (2 ^ k - 1)))), (.int (((Int32.ofNat x) - (Int32.ofNat q)) &&& (Int32.ofNat (2 ^ k - 1)))), (.int (((Int32.ofNat r7) - (Int32.ofNat q)) &&& (Int32.ofNat (2 ^ k - 1))))])) rfl (by rw [hml]; rfl) (argsL := [(.int (((Int32.ofNat x) - (Int32.ofNat q)) &&& (Int32.ofNat (2 ^ k - 1)))), (.int (((Int32.ofNat y) - (Int32.ofNat q)) &&& (Int32.ofNat (2 ^ k - 1))))]) (rest := [(.int (((Int32.ofNat r7) - (Int32.ofNat q)) &&& (Int32.ofNat (2 ^ k - 1))))]) (lenOf pd_0_2 rfl) rfl (by show 2 * 0 + _ ≤ _; exact Nat.le_of_eq rfl) (hb hby at_140) (fun _ _ => ⟨(by decide : 3 + 0 ≤ _), (by decide : 523 + 0 ≤ _), rfl, trivial⟩)
  dsimp only [Pt.U, Pt.locs, Pt.cells, Pt.slots] at X10 zl10 zy10 zz10 st10 e10'
  rw [show zK10 = 3 from zy10, show zN10 = 523 from zz10] at X10
  have e10 : T10.heap = h6 := e10'.trans e9
  have N10 : Fr n0 zL10 := by rw [zl10]; exact Fr.app N9 (Fr.nil n0)
  refine own_step (st10) ?_
  show own_E p e below _ (T10.setTop (mkF m 143 #[.val (.int p1), .val (.int p2), .val (.int p3), .val (.int p4), .val (.int (Int32.ofNat (2 ^ k))), .val (.int (Int32.ofNat (2 ^ k - 1))), .val (.int (Int32.ofNat x)), .val (.int (Int32.ofNat y)), .val (.int (Int32.ofNat q)), .val (.ref f), .val (.int (((Int32.ofNat x) - (Int32.ofNat q)) &&& (Int32.ofNat (2 ^ k - 1)))), .val (.int (((Int32.ofNat x) - (Int32.ofNat x)) &&& (Int32.ofNat (2 ^ k - 1)))), .val (.int (((Int32.ofNat r7) - (Int32.ofNat q)) &&& (Int32.ofNat (2 ^ k - 1)))), .val (.int (((Int32.ofNat x) - (Int32.ofNat x)) &&& (Int32.ofNat (2 ^ k - 1)))), .val (.int (((Int32.ofNat y) - (Int32.ofNat y)) &&& (Int32.ofNat (2 ^ k - 1)))), .val (.int (((Int32.ofNat x) - (Int32.ofNat q)) &&& (Int32.ofNat (2 ^ k - 1)))), .val (.int (((Int32.ofNat y) - (Int32.ofNat q)) &&& (Int32.ofNat (2 ^ k - 1))))] [(.int (Jvm.Free.JP.Math_min_II.val (((Int32.ofNat x) - (Int32.ofNat q)) &&& (Int32.ofNat (2 ^ k - 1))) (((Int32.ofNat y) - (Int32.ofNat q)) &&& (Int32.ofNat (2 ^ k - 1))))), (.int (((Int32.ofNat r7) - (Int32.ofNat q)) &&& (Int32.ofNat (2 ^ k - 1))))]))
  refine own_step (fun _ zk => XS.icmpNo X10.here hx rfl (hb hby at_143) rfl (teq (own_two hk hxl hyl hql hr7)).2 zk) ?_
  show own_E p e below _ (T10.setTop (mkF m 146 #[.val (.int p1), .val (.int p2), .val (.int p3), .val (.int p4), .val (.int (Int32.ofNat (2 ^ k))), .val (.int (Int32.ofNat (2 ^ k - 1))), .val (.int (Int32.ofNat x)), .val (.int (Int32.ofNat y)), .val (.int (Int32.ofNat q)), .val (.ref f), .val (.int (((Int32.ofNat x) - (Int32.ofNat q)) &&& (Int32.ofNat (2 ^ k - 1)))), .val (.int (((Int32.ofNat x) - (Int32.ofNat x)) &&& (Int32.ofNat (2 ^ k - 1)))), .val (.int (((Int32.ofNat r7) - (Int32.ofNat q)) &&& (Int32.ofNat (2 ^ k - 1)))), .val (.int (((Int32.ofNat x) - (Int32.ofNat x)) &&& (Int32.ofNat (2 ^ k - 1)))), .val (.int (((Int32.ofNat y) - (Int32.ofNat y)) &&& (Int32.ofNat (2 ^ k - 1)))), .val (.int (((Int32.ofNat x) - (Int32.ofNat q)) &&& (Int32.ofNat (2 ^ k - 1)))), .val (.int (((Int32.ofNat y) - (Int32.ofNat q)) &&& (Int32.ofNat (2 ^ k - 1))))] []))
  refine own_step (fun _ zk => XS.iload X10.here hx rfl (hb hby at_146) rfl zk) ?_
  show own_E p e below _ (T10.setTop (mkF m 148 #[.val (.int p1), .val (.int p2), .val (.int p3), .val (.int p4), .val (.int (Int32.ofNat (2 ^ k))), .val (.int (Int32.ofNat (2 ^ k - 1))), .val (.int (Int32.ofNat x)), .val (.int (Int32.ofNat y)), .val (.int (Int32.ofNat q)), .val (.ref f), .val (.int (((Int32.ofNat x) - (Int32.ofNat q)) &&& (Int32.ofNat (2 ^ k - 1)))), .val (.int (((Int32.ofNat x) - (Int32.ofNat x)) &&& (Int32.ofNat (2 ^ k - 1)))), .val (.int (((Int32.ofNat r7) - (Int32.ofNat q)) &&& (Int32.ofNat (2 ^ k - 1)))), .val (.int (((Int32.ofNat x) - (Int32.ofNat x)) &&& (Int32.ofNat (2 ^ k - 1)))), .val (.int (((Int32.ofNat y) - (Int32.ofNat y)) &&& (Int32.ofNat (2 ^ k - 1)))), .val (.int (((Int32.ofNat x) - (Int32.ofNat q)) &&& (Int32.ofNat (2 ^ k - 1)))), .val (.int (((Int32.ofNat y) - (Int32.ofNat q)) &&& (Int32.ofNat (2 ^ k - 1))))] [(.int (((Int32.ofNat x) - (Int32.ofNat x)) &&& (Int32.ofNat (2 ^ k - 1))))]))
  refine own_step (fun _ zk => XS.ifNo X10.here hx rfl (hb hby at_148) rfl ((if0 _ _).trans (teq (own_self0 _ _)).2) zk) ?_
  show own_E p e below _ (T10.setTop (mkF m 151 #[.val (.int p1), .val (.int p2), .val (.int p3), .val (.int p4), .val (.int (Int32.ofNat (2 ^ k))), .val (.int (Int32.ofNat (2 ^ k - 1))), .val (.int (Int32.ofNat x)), .val (.int (Int32.ofNat y)), .val (.int (Int32.ofNat q)), .val (.ref f), .val (.int (((Int32.ofNat x) - (Int32.ofNat q)) &&& (Int32.ofNat (2 ^ k - 1)))), .val (.int (((Int32.ofNat x) - (Int32.ofNat x)) &&& (Int32.ofNat (2 ^ k - 1)))), .val (.int (((Int32.ofNat r7) - (Int32.ofNat q)) &&& (Int32.ofNat (2 ^ k - 1)))), .val (.int (((Int32.ofNat x) - (Int32.ofNat x)) &&& (Int32.ofNat (2 ^ k - 1)))), .val (.int (((Int32.ofNat y) - (Int32.ofNat y)) &&& (Int32.ofNat (2 ^ k - 1)))), .val (.int (((Int32.ofNat x) - (Int32.ofNat q)) &&& (Int32.ofNat (2 ^ k - 1)))), .val (.int (((Int32.ofNat y) - (Int32.ofNat q)) &&& (Int32.ofNat (2 ^ k - 1))))] []))
  refine own_step (fun _ zk => XS.iload X10.here hx rfl (hb hby at_151) rfl zk) ?_
  show own_E p e below _ (T10.setTop (mkF m 153 #[.val (.int p1), .val (.int p2), .val (.int p3), .val (.int p4), .val (.int (Int32.ofNat (2 ^ k))), .val (.int (Int32.ofNat (2 ^ k - 1))), .val (.int (Int32.ofNat x)), .val (.int (Int32.ofNat y)), .val (.int (Int32.ofNat q)), .val (.ref f), .val (.int (((Int32.ofNat x) - (Int32.ofNat q)) &&& (Int32.ofNat (2 ^ k - 1)))), .val (.int (((Int32.ofNat x) - (Int32.ofNat x)) &&& (Int32.ofNat (2 ^ k - 1)))), .val (.int (((Int32.ofNat r7) - (Int32.ofNat q)) &&& (Int32.ofNat (2 ^ k - 1)))), .val (.int (((Int32.ofNat x) - (Int32.ofNat x)) &&& (Int32.ofNat (2 ^ k - 1)))), .val (.int (((Int32.ofNat y) - (Int32.ofNat y)) &&& (Int32.ofNat (2 ^ k - 1)))), .val (.int (((Int32.ofNat x) - (Int32.ofNat q)) &&& (Int32.ofNat (2 ^ k - 1)))), .val (.int (((Int32.ofNat y) - (Int32.ofNat q)) &&& (Int32.ofNat (2 ^ k - 1))))] [(.int (((Int32.ofNat y) - (Int32.ofNat y)) &&& (Int32.ofNat (2 ^ k - 1))))]))
  refine own_step (fun _ zk => XS.ifNo X10.here hx rfl (hb hby at_153) rfl ((if0 _ _).trans (teq (own_self0 _ _)).2) zk) ?_
  show own_E p e below _ (T10.setTop (mkF m 156 #[.val (.int p1), .val (.int p2), .val (.int p3), .val (.int p4), .val (.int (Int32.ofNat (2 ^ k))), .val (.int (Int32.ofNat (2 ^ k - 1))), .val (.int (Int32.ofNat x)), .val (.int (Int32.ofNat y)), .val (.int (Int32.ofNat q)), .val (.ref f), .val (.int (((Int32.ofNat x) - (Int32.ofNat q)) &&& (Int32.ofNat (2 ^ k - 1)))), .val (.int (((Int32.ofNat x) - (Int32.ofNat x)) &&& (Int32.ofNat (2 ^ k - 1)))), .val (.int (((Int32.ofNat r7) - (Int32.ofNat q)) &&& (Int32.ofNat (2 ^ k - 1)))), .val (.int (((Int32.ofNat x) - (Int32.ofNat x)) &&& (Int32.ofNat (2 ^ k - 1)))), .val (.int (((Int32.ofNat y) - (Int32.ofNat y)) &&& (Int32.ofNat (2 ^ k - 1)))), .val (.int (((Int32.ofNat x) - (Int32.ofNat q)) &&& (Int32.ofNat (2 ^ k - 1)))), .val (.int (((Int32.ofNat y) - (Int32.ofNat q)) &&& (Int32.ofNat (2 ^ k - 1))))] []))
  refine own_step (fun _ zk => XS.iconst X10.here hx rfl (hb hby at_156) zk) ?_
  show own_E p e below _ (T10.setTop (mkF m 157 #[.val (.int p1), .val (.int p2), .val (.int p3), .val (.int p4), .val (.int (Int32.ofNat (2 ^ k))), .val (.int (Int32.ofNat (2 ^ k - 1))), .val (.int (Int32.ofNat x)), .val (.int (Int32.ofNat y)), .val (.int (Int32.ofNat q)), .val (.ref f), .val (.int (((Int32.ofNat x) - (Int32.ofNat q)) &&& (Int32.ofNat (2 ^ k - 1)))), .val (.int (((Int32.ofNat x) - (Int32.ofNat x)) &&& (Int32.ofNat (2 ^ k - 1)))), .val (.int (((Int32.ofNat r7) - (Int32.ofNat q)) &&& (Int32.ofNat (2 ^ k - 1)))), .val (.int (((Int32.ofNat x) - (Int32.ofNat x)) &&& (Int32.ofNat (2 ^ k - 1)))), .val (.int (((Int32.ofNat y) - (Int32.ofNat y)) &&& (Int32.ofNat (2 ^ k - 1)))), .val (.int (((Int32.ofNat x) - (Int32.ofNat q)) &&& (Int32.ofNat (2 ^ k - 1)))), .val (.int (((Int32.ofNat y) - (Int32.ofNat q)) &&& (Int32.ofNat (2 ^ k - 1))))] [(.int (1 : Int32))]))
  refine own_step (fun _ zk => XS.goto X10.here hx rfl (pc0 := 157) (pc' := 161) rfl (hb hby at_157) (by decide) (by decide) zk) ?_
  show own_E p e below _ (T10.setTop (mkF m 161 #[.val (.int p1), .val (.int p2), .val (.int p3), .val (.int p4), .val (.int (Int32.ofNat (2 ^ k))), .val (.int (Int32.ofNat (2 ^ k - 1))), .val (.int (Int32.ofNat x)), .val (.int (Int32.ofNat y)), .val (.int (Int32.ofNat q)), .val (.ref f), .val (.int (((Int32.ofNat x) - (Int32.ofNat q)) &&& (Int32.ofNat (2 ^ k - 1)))), .val (.int (((Int32.ofNat x) - (Int32.ofNat x)) &&& (Int32.ofNat (2 ^ k - 1)))), .val (.int (((Int32.ofNat r7) - (Int32.ofNat q)) &&& (Int32.ofNat (2 ^ k - 1)))), .val (.int (((Int32.ofNat x) - (Int32.ofNat x)) &&& (Int32.ofNat (2 ^ k - 1)))), .val (.int (((Int32.ofNat y) - (Int32.ofNat y)) &&& (Int32.ofNat (2 ^ k - 1)))), .val (.int (((Int32.ofNat x) - (Int32.ofNat q)) &&& (Int32.ofNat (2 ^ k - 1)))), .val (.int (((Int32.ofNat y) - (Int32.ofNat q)) &&& (Int32.ofNat (2 ^ k - 1))))] [(.int (1 : Int32))]))
  refine own_ret X10 hlk (v := some (.int (nar .boolean (1 : Int32)))) (fun h => by rw [Bd.returns] at h; cases h) ?_ (by decide) (by decide) (fun fs hr => retN X10 hx (t := .boolean) Bd.returns (by simp) (hb hby at_161) hr)
  show Q0 Z p1 p2 p3 p4 h0 n0 _ T10.heap _
  rw [e10]
  exact ⟨by decide, N10⟩
set_option maxRecDepth 65536 in
set_option maxHeartbeats 40000000 in
theorem comes_1 {Post : Tables → Env → Array Value → State → Outcome → State → Prop} (hpost : ∀ tb e args s v u, (limb_1_1.after args s (.returned v) u = true ∧ limb_1_2.after args s (.returned v) u = true ∧ True) → FrameEnd s (.returned v) u (Jvm.fieldLocs frame_1_writes args s ++ Jvm.arrayLocs frame_1_arrays args s ++ Jvm.staticLocs frame_1_statics s) 16 1152 → Post tb e args s (.returned v) u) :
    ArmFor flags0 classFile x code maxLocals ret World_1 tables_1 room_1 Calls_1 rest_1 Pre_1 Post := by
  intro l hfl _ _ p e ha hc hk s m args below hf hA hF happ hP
  obtain ⟨hcalls, hrest, hpre⟩ := hP
  obtain ⟨-, -, -, hnamed, -, -, -, hat⟩ := (Spec.applies_iff hf).mp happ
  obtain ⟨hg, hn⟩ := and_e (Cond.before_iff.mp (show (Jvm.Cond.and given_1 narrow_1).before args s = true from hpre))
  obtain ⟨gc, gr0⟩ := and_e hg
  obtain ⟨gi0, gr1⟩ := and_e gr0
  obtain ⟨gi1, gr2⟩ := and_e gr1
  obtain ⟨gi2, gr3⟩ := and_e gr2
  have gi3 := gr3
  obtain ⟨w0, w1, w2, w3, rfl⟩ : ∃ w0 w1 w2 w3 : Value, args = #[w0, w1, w2, w3] := by
    have hs : args.size = 4 := by simpa [Cond.value, given_1] using gc
    obtain ⟨L⟩ := args
    match L, hs with
    | [w0, w1, w2, w3], _ => exact ⟨w0, w1, w2, w3, rfl⟩
  have hw := fun d (hd : d ∈ tables_1) => atoms_spec (ws := Jvm.Cond.code x code maxLocals ret :: tables_1) hat d (List.mem_cons_of_mem _ hd)
  obtain ⟨i0, ei0⟩ := is_v gi0
  obtain rfl : w0 = (.int i0) := Option.some.inj ei0
  obtain ⟨i1, ei1⟩ := is_v gi1
  obtain rfl : w1 = (.int i1) := Option.some.inj ei1
  obtain ⟨i2, ei2⟩ := is_v gi2
  obtain rfl : w2 = (.int i2) := Option.some.inj ei2
  obtain ⟨i3, ei3⟩ := is_v gi3
  obtain rfl : w3 = (.int i3) := Option.some.inj ei3
  obtain ⟨n, o, h1, h2, h3, _, L, rfl, ⟨rfl, N⟩, hq⟩ := rm0 l s _ hw tables_1 i0 i1 i2 i3 s.heap s.heap.size (Nat.le_refl _) p e ha hc hk s m _ below hf ((Spec.applies_iff_loose hf).mp happ).1 ⟨rfl, State.Warmed39.refl s, rfl⟩ trivial
  refine ⟨n, _, h1, h2, h3, hpost _ _ _ _ _ _ ⟨Cond.after_iff.mpr rfl, Cond.after_iff.mpr (eq_i res_at (Term.int_eval (1)) rfl), trivial⟩ ⟨hq.1, hq.2.1, (hq.2.2.sift fun y hy => Or.inr (N y hy)).mono (by decide) (by decide)⟩⟩
theorem main_1_1 : Claimed_1_1 := comes_1 fun _ _ _ _ _ _ h hF => ⟨h.1, hF⟩
theorem main_1_2 : Claimed_1_2 := comes_1 fun _ _ _ _ _ _ h hF => ⟨h.2.1, hF⟩
end Jvm.Pilot.@@N@@
namespace Jvm.Pilot.@@N@@
open Jvm Jvm.ClassFile Sem Op Lib Jvm.Free Jvm.Stand Jvm.Pilot.@@N@@.Jvm.D
/-! MADE BY PROGRAM (witnessworld.py) out of the Statement's table words and the real class files: 18 classes; the members and pool entries that the words name. The judged class is class 1, her method 1. -/
namespace start1
open Jvm.ClassFile
def u (s : String) : CpInfo := .utf8 (stringToUtf16 s)
/-- a pool by its gaps: so many unusable entries, then the entry; so many at the end -/
def gap : Nat → List CpInfo → List CpInfo
  | 0, r => r
  | n + 1, r => .unusable :: gap n r
def poolList (es : List (Nat × CpInfo)) (last : Nat) : List CpInfo := es.foldr (fun e r => gap e.1 (e.2 :: r)) (gap last [])
def pool (es : List (Nat × CpInfo)) (last : Nat) : Array CpInfo := ⟨poolList es last⟩
def fileOf (pool : Array CpInfo) (this : Nat) (attrs : Array Attribute := #[]) (ms : Array MethodInfo := #[]) (fl : Nat := 33) (sup : Nat := 0) (ifs : Array Nat := #[]) (fds : Array FieldInfo := #[]) : ClassFile where
  minorVersion := 0
  majorVersion := 65
  constantPool := pool
  accessFlags := fl
  thisClass := this
  superClass := sup
  interfaces := ifs
  fields := fds
  methods := ms
  attributes := attrs
def plain (name : String) (sup : Option ClassId) : Class where
  name := name
  kind := .ordinary
  loader := none
  accessFlags := 33
  super := sup
  interfaces := #[]
  cf := none
  fields := #[]
  methods := #[]
  instanceTypes := #[]
  staticTypes := #[]
  resolved := #[]
  callSites := []
  init := .initialized
  statics := none
  mirror := none

def pool0 : Array CpInfo := pool [(5, u "<init>"), (0, u "()V"), (1, .class_ 10), (1, u "java/lang/Object")] 113

def k0c0 : Code := { maxStack := 0, maxLocals := 1, code := object_method_1_code, exceptionTable := #[], attributes := #[] }
def k0m0 : Method := { name := "<init>", desc := "()V", sig := { parameters := [], returnType := none }, accessFlags := 1, code := some k0c0 }
/-- java/lang/Object -/
def k0 : Class := { plain "java/lang/Object" none with
  accessFlags := 33
  interfaces := #[]
  cf := some (fileOf pool0 8 #[] #[{ accessFlags := 1, nameIndex := 5, descriptorIndex := 6, attributes := #[] }] 33 0 #[] #[])
  fields := #[]
  methods := #[k0m0]
  instanceTypes := #[]
  staticTypes := #[]
  resolved := Array.replicate 124 none
  statics := none }

def pool1 : Array CpInfo := pool [(2, .class_ 4), (1, u "java/lang/Object"), (0, u "<init>"), (0, u "()V"), (0, .class_ 8), (0, u "com/example/wayfold/wayfold/engine/FilledBuckets"), (0, .methodref 7 10), (0, .nameAndType 5 11), (0, u "(I)V"), (0, .methodref 7 13), (0, .nameAndType 14 11), (0, u "fill"), (0, .methodref 7 16), (0, .nameAndType 17 18), (0, u "stepsToFilled"), (0, u "(I)I"), (0, .methodref 20 21), (0, .class_ 22), (0, .nameAndType 23 24), (0, u "java/lang/Math"), (0, u "min"), (0, u "(II)I"), (0, .class_ 26), (0, u "com/example/wayfold/wayfold/engine/FilledBucketsFillPinLaw"), (2, u "law"), (0, u "(IIII)Z")] 3

def k1m0 : Method := { name := "<init>", desc := "()V", sig := { parameters := [], returnType := none }, accessFlags := 1, code := none }
def k1c1 : Code := { maxStack := 3, maxLocals := 17, code := code, exceptionTable := #[], attributes := #[] }
def k1m1 : Method := { name := "law", desc := "(IIII)Z", sig := { parameters := [.int, .int, .int, .int], returnType := some .boolean }, accessFlags := 9, code := some k1c1 }
/-- com/example/wayfold/wayfold/engine/FilledBucketsFillPinLaw -/
def k1 : Class := { plain "com/example/wayfold/wayfold/engine/FilledBucketsFillPinLaw" (some 0) with
  accessFlags := 49
  interfaces := #[]
  cf := some (fileOf pool1 25 #[] #[{ accessFlags := 1, nameIndex := 5, descriptorIndex := 6, attributes := #[] }, { accessFlags := 9, nameIndex := 29, descriptorIndex := 30, attributes := #[] }] 49 2 #[] #[])
  fields := #[]
  methods := #[k1m0, k1m1]
  instanceTypes := #[]
  staticTypes := #[]
  resolved := Array.replicate 34 none
  statics := none }

def pool2 : Array CpInfo := pool [(1, .methodref 2 3), (0, .class_ 4), (0, .nameAndType 5 6), (0, u "java/lang/Object"), (0, u "<init>"), (0, u "()V"), (0, .fieldref 8 9), (0, .class_ 10), (0, .nameAndType 11 12), (0, u "com/example/wayfold/wayfold/engine/FilledBuckets"), (0, u "mask"), (0, u "I"), (0, .methodref 14 15), (0, .class_ 16), (0, .nameAndType 17 18), (0, u "java/lang/Math"), (0, u "max"), (0, u "(II)I"), (0, .fieldref 8 20), (0, .nameAndType 21 22), (0, u "words"), (0, u "[J"), (0, .fieldref 8 24), (0, .nameAndType 25 22), (0, u "summary"), (0, .long 18446744073709551615), (5, u "fill"), (1, .methodref 8 35), (0, .nameAndType 36 37), (0, u "firstFilledFrom"), (0, u "(I)I"), (7, .methodref 8 46), (0, .nameAndType 47 37), (0, u "firstFilledWordAfter"), (0, .methodref 49 50), (0, .class_ 51), (0, .nameAndType 52 53), (0, u "java/lang/Long"), (0, u "numberOfTrailingZeros"), (0, u "(J)I"), (0, u "(I)V"), (5, u "stepsToFilled")] 2

def k2c0 : Code := { maxStack := 4, maxLocals := 2, code := prog_18_method_1_code, exceptionTable := #[], attributes := #[] }
def k2m0 : Method := { name := "<init>", desc := "(I)V", sig := { parameters := [.int], returnType := none }, accessFlags := 0, code := some k2c0 }
def k2c1 : Code := { maxStack := 8, maxLocals := 2, code := prog_18_method_2_code, exceptionTable := #[], attributes := #[] }
def k2m1 : Method := { name := "fill", desc := "(I)V", sig := { parameters := [.int], returnType := none }, accessFlags := 0, code := some k2c1 }
def k2c2 : Code := { maxStack := 3, maxLocals := 3, code := prog_18_method_5_code, exceptionTable := #[], attributes := #[] }
def k2m2 : Method := { name := "stepsToFilled", desc := "(I)I", sig := { parameters := [.int], returnType := some .int }, accessFlags := 0, code := some k2c2 }
def k2c3 : Code := { maxStack := 5, maxLocals := 5, code := prog_18_method_6_code, exceptionTable := #[], attributes := #[] }
def k2m3 : Method := { name := "firstFilledFrom", desc := "(I)I", sig := { parameters := [.int], returnType := some .int }, accessFlags := 2, code := some k2c3 }
def k2c4 : Code := { maxStack := 5, maxLocals := 6, code := prog_18_method_7_code, exceptionTable := #[], attributes := #[] }
def k2m4 : Method := { name := "firstFilledWordAfter", desc := "(I)I", sig := { parameters := [.int], returnType := some .int }, accessFlags := 2, code := some k2c4 }
/-- com/example/wayfold/wayfold/engine/FilledBuckets -/
def k2 : Class := { plain "com/example/wayfold/wayfold/engine/FilledBuckets" (some 0) with
  accessFlags := 48
  interfaces := #[]
  cf := some (fileOf pool2 8 #[] #[{ accessFlags := 0, nameIndex := 5, descriptorIndex := 54, attributes := #[] }, { accessFlags := 0, nameIndex := 32, descriptorIndex := 54, attributes := #[] }, { accessFlags := 0, nameIndex := 60, descriptorIndex := 37, attributes := #[] }, { accessFlags := 2, nameIndex := 36, descriptorIndex := 37, attributes := #[] }, { accessFlags := 2, nameIndex := 47, descriptorIndex := 37, attributes := #[] }] 48 2 #[] #[{ accessFlags := 18, nameIndex := 11, descriptorIndex := 12, attributes := #[] }, { accessFlags := 18, nameIndex := 21, descriptorIndex := 22, attributes := #[] }, { accessFlags := 18, nameIndex := 25, descriptorIndex := 22, attributes := #[] }])
  fields := #[{ name := "mask", type := .int, accessFlags := 18, slot := 0, constantValue := 0 }, { name := "words", type := (.array .long), accessFlags := 18, slot := 1, constantValue := 0 }, { name := "summary", type := (.array .long), accessFlags := 18, slot := 2, constantValue := 0 }]
  methods := #[k2m0, k2m1, k2m2, k2m3, k2m4]
  instanceTypes := #[.int, (.array .long), (.array .long)]
  staticTypes := #[]
  resolved := Array.replicate 63 none
  statics := none }

def pool3 : Array CpInfo := pool [(1, .class_ 2), (0, u "java/lang/Math"), (1, .class_ 6), (1, u "java/lang/Object"), (0, u "<init>"), (0, u "()V"), (89, .class_ 100), (1, u "java/lang/Math$RandomNumberGeneratorHolder"), (71, u "negativeZeroFloatBits"), (0, u "J"), (2, u "negativeZeroDoubleBits"), (21, u "max"), (2, u "min"), (43, u "$assertionsDisabled"), (0, u "Z"), (88, u "(II)I"), (2, u "twoToTheDoubleScaleDown"), (0, u "D"), (4, u "twoToTheDoubleScaleUp"), (9, u "E"), (3, u "PI"), (2, u "TAU"), (2, u "DEGREES_TO_RADIANS"), (0, u "RADIANS_TO_DEGREES")] 94

def k3m0 : Method := { name := "<init>", desc := "()V", sig := { parameters := [], returnType := none }, accessFlags := 2, code := none }
def k3c1 : Code := { maxStack := 2, maxLocals := 2, code := jdk_29_method_65_code, exceptionTable := #[], attributes := #[] }
def k3m1 : Method := { name := "max", desc := "(II)I", sig := { parameters := [.int, .int], returnType := some .int }, accessFlags := 9, code := some k3c1 }
def k3c2 : Code := { maxStack := 2, maxLocals := 2, code := jdk_29_method_69_code, exceptionTable := #[], attributes := #[] }
def k3m2 : Method := { name := "min", desc := "(II)I", sig := { parameters := [.int, .int], returnType := some .int }, accessFlags := 9, code := some k3c2 }
/-- java/lang/Math -/
def k3 : Class := { plain "java/lang/Math" (some 0) with
  accessFlags := 49
  interfaces := #[]
  cf := some (fileOf pool3 1 #[.nestMembers #[98]] #[{ accessFlags := 2, nameIndex := 7, descriptorIndex := 8, attributes := #[] }, { accessFlags := 9, nameIndex := 198, descriptorIndex := 335, attributes := #[] }, { accessFlags := 9, nameIndex := 201, descriptorIndex := 335, attributes := #[] }] 49 4 #[] #[{ accessFlags := 25, nameIndex := 354, descriptorIndex := 339, attributes := #[] }, { accessFlags := 25, nameIndex := 358, descriptorIndex := 339, attributes := #[] }, { accessFlags := 25, nameIndex := 361, descriptorIndex := 339, attributes := #[] }, { accessFlags := 26, nameIndex := 364, descriptorIndex := 339, attributes := #[] }, { accessFlags := 26, nameIndex := 365, descriptorIndex := 339, attributes := #[] }, { accessFlags := 26, nameIndex := 172, descriptorIndex := 173, attributes := #[] }, { accessFlags := 26, nameIndex := 176, descriptorIndex := 173, attributes := #[] }, { accessFlags := 8, nameIndex := 344, descriptorIndex := 339, attributes := #[] }, { accessFlags := 8, nameIndex := 338, descriptorIndex := 339, attributes := #[] }, { accessFlags := 4120, nameIndex := 245, descriptorIndex := 246, attributes := #[] }])
  fields := #[{ name := "E", type := .double, accessFlags := 25, slot := 0, constantValue := 0 }, { name := "PI", type := .double, accessFlags := 25, slot := 1, constantValue := 0 }, { name := "TAU", type := .double, accessFlags := 25, slot := 2, constantValue := 0 }, { name := "DEGREES_TO_RADIANS", type := .double, accessFlags := 26, slot := 3, constantValue := 0 }, { name := "RADIANS_TO_DEGREES", type := .double, accessFlags := 26, slot := 4, constantValue := 0 }, { name := "negativeZeroFloatBits", type := .long, accessFlags := 26, slot := 5, constantValue := 0 }, { name := "negativeZeroDoubleBits", type := .long, accessFlags := 26, slot := 6, constantValue := 0 }, { name := "twoToTheDoubleScaleUp", type := .double, accessFlags := 8, slot := 7, constantValue := 0 }, { name := "twoToTheDoubleScaleDown", type := .double, accessFlags := 8, slot := 8, constantValue := 0 }, { name := "$assertionsDisabled", type := .boolean, accessFlags := 4120, slot := 9, constantValue := 0 }]
  methods := #[k3m0, k3m1, k3m2]
  instanceTypes := #[]
  staticTypes := #[.double, .double, .double, .double, .double, .long, .long, .double, .double, .boolean]
  resolved := Array.replicate 460 none
  statics := none }

def pool4 : Array CpInfo := pool [(1, .class_ 2), (0, u "java/io/Serializable"), (0, .class_ 4), (0, u "java/lang/Object")] 2

/-- java/io/Serializable -/
def k4 : Class := { plain "java/io/Serializable" (some 0) with
  accessFlags := 1537
  interfaces := #[]
  cf := some (fileOf pool4 1 #[] #[] 1537 3 #[] #[])
  fields := #[]
  methods := #[]
  instanceTypes := #[]
  staticTypes := #[]
  resolved := Array.replicate 7 none
  statics := none }

def pool5 : Array CpInfo := pool [(2, .class_ 4), (1, u "java/lang/Object"), (0, u "<init>"), (0, u "()V"), (1, .class_ 10), (1, u "java/lang/Number"), (2, .class_ 14), (0, u "java/io/Serializable"), (0, u "serialVersionUID"), (0, u "J")] 20

def k5m0 : Method := { name := "<init>", desc := "()V", sig := { parameters := [], returnType := none }, accessFlags := 1, code := none }
/-- java/lang/Number -/
def k5 : Class := { plain "java/lang/Number" (some 0) with
  accessFlags := 1057
  interfaces := #[4]
  cf := some (fileOf pool5 8 #[] #[{ accessFlags := 1, nameIndex := 5, descriptorIndex := 6, attributes := #[] }] 1057 2 #[13] #[{ accessFlags := 26, nameIndex := 15, descriptorIndex := 16, attributes := #[] }])
  fields := #[{ name := "serialVersionUID", type := .long, accessFlags := 26, slot := 0, constantValue := 0 }]
  methods := #[k5m0]
  instanceTypes := #[]
  staticTypes := #[.long]
  resolved := Array.replicate 37 none
  statics := none }

def pool6 : Array CpInfo := pool [(1, .class_ 2), (0, u "java/lang/Comparable"), (0, .class_ 4), (0, u "java/lang/Object")] 7

/-- java/lang/Comparable -/
def k6 : Class := { plain "java/lang/Comparable" (some 0) with
  accessFlags := 1537
  interfaces := #[]
  cf := some (fileOf pool6 1 #[] #[] 1537 3 #[] #[])
  fields := #[]
  methods := #[]
  instanceTypes := #[]
  staticTypes := #[]
  resolved := Array.replicate 12 none
  statics := none }

def pool7 : Array CpInfo := pool [(1, .class_ 2), (0, u "java/lang/constant/Constable"), (0, .class_ 4), (0, u "java/lang/Object")] 6

/-- java/lang/constant/Constable -/
def k7 : Class := { plain "java/lang/constant/Constable" (some 0) with
  accessFlags := 1537
  interfaces := #[]
  cf := some (fileOf pool7 1 #[] #[] 1537 3 #[] #[])
  fields := #[]
  methods := #[]
  instanceTypes := #[]
  staticTypes := #[]
  resolved := Array.replicate 11 none
  statics := none }

def pool8 : Array CpInfo := pool [(1, .class_ 2), (0, u "java/lang/constant/ConstantDesc"), (0, .class_ 4), (0, u "java/lang/Object")] 32

/-- java/lang/constant/ConstantDesc -/
def k8 : Class := { plain "java/lang/constant/ConstantDesc" (some 0) with
  accessFlags := 1537
  interfaces := #[]
  cf := some (fileOf pool8 1 #[] #[] 1537 3 #[] #[])
  fields := #[]
  methods := #[]
  instanceTypes := #[]
  staticTypes := #[]
  resolved := Array.replicate 37 none
  statics := none }

def pool9 : Array CpInfo := pool [(1, .class_ 2), (0, u "java/lang/Long"), (15, .class_ 20), (1, u "java/lang/Integer"), (80, u "(J)I"), (133, .class_ 237), (1, u "java/lang/Long$LongCache"), (33, .class_ 272), (0, u "java/lang/Number"), (2, u "value"), (0, u "J"), (33, u "(I)I"), (0, .methodref 18 312), (0, .nameAndType 313 310), (0, u "numberOfTrailingZeros"), (47, u "TYPE"), (0, u "Ljava/lang/Class;"), (0, .class_ 364), (0, u "java/lang/Comparable"), (0, .class_ 366), (0, u "java/lang/constant/Constable"), (0, .class_ 368), (0, u "java/lang/constant/ConstantDesc"), (0, u "MIN_VALUE"), (1, u "MAX_VALUE"), (4, u "SIZE"), (0, u "I"), (1, u "BYTES"), (1, u "serialVersionUID")] 142

def k9c0 : Code := { maxStack := 4, maxLocals := 3, code := jdk_35_method_49_code, exceptionTable := #[], attributes := #[] }
def k9m0 : Method := { name := "numberOfTrailingZeros", desc := "(J)I", sig := { parameters := [.long], returnType := some .int }, accessFlags := 9, code := some k9c0 }
/-- java/lang/Long -/
def k9 : Class := { plain "java/lang/Long" (some 5) with
  accessFlags := 49
  interfaces := #[6, 7, 8]
  cf := some (fileOf pool9 1 #[.nestMembers #[235]] #[{ accessFlags := 9, nameIndex := 313, descriptorIndex := 101, attributes := #[] }] 49 271 #[363, 365, 367] #[{ accessFlags := 25, nameIndex := 369, descriptorIndex := 276, attributes := #[] }, { accessFlags := 25, nameIndex := 371, descriptorIndex := 276, attributes := #[] }, { accessFlags := 25, nameIndex := 361, descriptorIndex := 362, attributes := #[] }, { accessFlags := 18, nameIndex := 275, descriptorIndex := 276, attributes := #[] }, { accessFlags := 25, nameIndex := 376, descriptorIndex := 377, attributes := #[] }, { accessFlags := 25, nameIndex := 379, descriptorIndex := 377, attributes := #[] }, { accessFlags := 26, nameIndex := 381, descriptorIndex := 276, attributes := #[] }])
  fields := #[{ name := "MIN_VALUE", type := .long, accessFlags := 25, slot := 0, constantValue := 0 }, { name := "MAX_VALUE", type := .long, accessFlags := 25, slot := 1, constantValue := 0 }, { name := "TYPE", type := (.object "java/lang/Class"), accessFlags := 25, slot := 2, constantValue := 0 }, { name := "value", type := .long, accessFlags := 18, slot := 0, constantValue := 0 }, { name := "SIZE", type := .int, accessFlags := 25, slot := 3, constantValue := 0 }, { name := "BYTES", type := .int, accessFlags := 25, slot := 4, constantValue := 0 }, { name := "serialVersionUID", type := .long, accessFlags := 26, slot := 5, constantValue := 0 }]
  methods := #[k9m0]
  instanceTypes := #[.long]
  staticTypes := #[.long, .long, (.object "java/lang/Class"), .int, .int, .long]
  resolved := Array.replicate 524 none
  statics := none }

def pool10 : Array CpInfo := pool [(1, .class_ 2), (0, u "java/lang/Integer"), (16, u "digits"), (0, u "[C"), (33, u "(I)I"), (30, u "DigitOnes"), (0, u "[B"), (2, u "DigitTens"), (99, .class_ 190), (0, u "java/lang/Integer$IntegerCache"), (3, u "I"), (8, .class_ 204), (0, u "java/lang/Number"), (2, u "value"), (56, .integer 65536), (37, u "TYPE"), (0, u "Ljava/lang/Class;"), (0, .class_ 305), (0, u "java/lang/Comparable"), (0, .class_ 307), (0, u "java/lang/constant/Constable"), (0, .class_ 309), (0, u "java/lang/constant/ConstantDesc"), (0, u "MIN_VALUE"), (1, u "MAX_VALUE"), (3, u "SIZE"), (1, u "BYTES"), (1, u "serialVersionUID"), (0, u "J"), (84, u "numberOfTrailingZeros")] 46

def k10c0 : Code := { maxStack := 3, maxLocals := 2, code := jdk_33_method_48_code, exceptionTable := #[], attributes := #[] }
def k10m0 : Method := { name := "numberOfTrailingZeros", desc := "(I)I", sig := { parameters := [.int], returnType := some .int }, accessFlags := 9, code := some k10c0 }
/-- java/lang/Integer -/
def k10 : Class := { plain "java/lang/Integer" (some 5) with
  accessFlags := 49
  interfaces := #[6, 7, 8]
  cf := some (fileOf pool10 1 #[.nestMembers #[189]] #[{ accessFlags := 9, nameIndex := 406, descriptorIndex := 54, attributes := #[] }] 49 203 #[304, 306, 308] #[{ accessFlags := 25, nameIndex := 310, descriptorIndex := 194, attributes := #[] }, { accessFlags := 25, nameIndex := 312, descriptorIndex := 194, attributes := #[] }, { accessFlags := 25, nameIndex := 302, descriptorIndex := 303, attributes := #[] }, { accessFlags := 24, nameIndex := 19, descriptorIndex := 20, attributes := #[] }, { accessFlags := 24, nameIndex := 89, descriptorIndex := 86, attributes := #[] }, { accessFlags := 24, nameIndex := 85, descriptorIndex := 86, attributes := #[] }, { accessFlags := 18, nameIndex := 207, descriptorIndex := 194, attributes := #[] }, { accessFlags := 25, nameIndex := 316, descriptorIndex := 194, attributes := #[] }, { accessFlags := 25, nameIndex := 318, descriptorIndex := 194, attributes := #[] }, { accessFlags := 26, nameIndex := 320, descriptorIndex := 321, attributes := #[] }])
  fields := #[{ name := "MIN_VALUE", type := .int, accessFlags := 25, slot := 0, constantValue := 0 }, { name := "MAX_VALUE", type := .int, accessFlags := 25, slot := 1, constantValue := 0 }, { name := "TYPE", type := (.object "java/lang/Class"), accessFlags := 25, slot := 2, constantValue := 0 }, { name := "digits", type := (.array .char), accessFlags := 24, slot := 3, constantValue := 0 }, { name := "DigitTens", type := (.array .byte), accessFlags := 24, slot := 4, constantValue := 0 }, { name := "DigitOnes", type := (.array .byte), accessFlags := 24, slot := 5, constantValue := 0 }, { name := "value", type := .int, accessFlags := 18, slot := 0, constantValue := 0 }, { name := "SIZE", type := .int, accessFlags := 25, slot := 6, constantValue := 0 }, { name := "BYTES", type := .int, accessFlags := 25, slot := 7, constantValue := 0 }, { name := "serialVersionUID", type := .long, accessFlags := 26, slot := 8, constantValue := 0 }]
  methods := #[k10m0]
  instanceTypes := #[.int]
  staticTypes := #[.int, .int, (.object "java/lang/Class"), (.array .char), (.array .byte), (.array .byte), .int, .int, .long]
  resolved := Array.replicate 453 none
  statics := none }

def pool11 : Array CpInfo := pool [(1, u "java/lang/Cloneable"), (0, .class_ 1), (0, u "java/lang/Object"), (0, .class_ 3)] 3

/-- java/lang/Cloneable -/
def k11 : Class := { plain "java/lang/Cloneable" (some 0) with
  accessFlags := 1537
  interfaces := #[]
  cf := some (fileOf pool11 2 #[] #[] 1537 4 #[] #[])
  fields := #[]
  methods := #[]
  instanceTypes := #[]
  staticTypes := #[]
  resolved := Array.replicate 8 none
  statics := none }

/-- the primitive byte -/
def k12 : Class := { plain "byte" none with kind := .primitive 'B', accessFlags := 0x411 }
/-- [B -/
def k13 : Class := { plain "[B" (some 0) with kind := .array 12 .byte, interfaces := #[11, 4], accessFlags := 1041 }

/-- the primitive int -/
def k14 : Class := { plain "int" none with kind := .primitive 'I', accessFlags := 0x411 }
/-- [I -/
def k15 : Class := { plain "[I" (some 0) with kind := .array 14 .int, interfaces := #[11, 4], accessFlags := 1041 }

/-- the primitive long -/
def k16 : Class := { plain "long" none with kind := .primitive 'J', accessFlags := 0x411 }
/-- [J -/
def k17 : Class := { plain "[J" (some 0) with kind := .array 16 .long, interfaces := #[11, 4], accessFlags := 1041 }

def heap : Heap := #[]
def classes : Array Class := #[k0, k1, k2, k3, k4, k5, k6, k7, k8, k9, k10, k11, k12, k13, k14, k15, k16, k17]
def interned : List (Array UInt16 × Addr) := []
def slotsUsed : Nat := 0
def theMethod : MethodId := ⟨1, 1⟩
def args0 : Array Value := #[.int 7, .int 9, .int 4, .int 3]
def aboutOver (below : List Frame) : State where
  vm := { classes := classes, interned := interned.toArray }
  heap := heap
  slotsUsed := slotsUsed
  threads := #[{ frames := .invoking theMethod args0 :: below }]
def below0 : List Frame := [.native { method := ⟨0, 0⟩, args := #[] }]
def about1 : State := aboutOver below0
def p0 : Program := .bare "" "" ""
def e0 : Env := launch0.env 0 0 0
theorem w_frames : about1.frames = Frame.invoking theMethod args0 :: below0 := rfl
set_option maxRecDepth 65536 in
theorem w_args : argsFit about1.vm theMethod args0 = true := by decide +kernel
set_option maxRecDepth 65536 in
theorem w_heap : heapFits about1 = true := by decide +kernel
set_option maxRecDepth 65536 in
theorem w_runnable : about1.curStatus? = some .runnable := by decide +kernel
set_option maxRecDepth 65536 in
theorem w_alone : about1.alone = true := by decide +kernel
set_option maxRecDepth 65536 in
theorem w_named : about1.methodNamed? x = some theMethod := by decide +kernel
set_option maxRecDepth 65536 in
theorem w_hears : about1.hears theMethod below0 = true := by decide +kernel
set_option maxRecDepth 65536 in
theorem w_ripe : about1.ripe theMethod args0 below0 = true := by decide +kernel
theorem w_running : about1.status = .running := rfl
set_option maxRecDepth 65536 in
theorem w_room : about1.hasRoom e0.platform room_1 = true :=
  launch0.hasRoom_least _ room_1 (by decide +kernel) (by decide +kernel) (by decide +kernel) (by decide +kernel) (by decide +kernel) (by decide +kernel)
theorem allAtoms_all (ts : List Jvm.Cond) (a : Array Jvm.Value) (st : Jvm.State) : (allAtoms ts).before a st = ts.all (fun c => c.before a st) := by
  induction ts with
  | nil => rfl
  | cons c t ih =>
    show (Jvm.Cond.and c (allAtoms t)).before a st = _
    rw [Jvm.Cond.before_and, ih, List.all_cons]
def words1 : List Jvm.Cond := Jvm.Cond.code x code maxLocals ret :: tables_1
/-- a 'code' word, met by the world's own term for the bytes: nothing is compared byte by byte -/
theorem code_word {y : MethodName} {bytes : ByteArray} {mx : Nat} {rt : Option FieldType} {a : Array Value} {s : State} {m : MethodId} {meth : Method} {c : Code} (h1 : s.methodNamed? y = some m) (h2 : s.vm.method? m = some meth) (h3 : meth.code = some c) (h4 : c.code = bytes)
    (h5 : (c.maxLocals == mx && c.exceptionTable.isEmpty && decide (c.maxStack ≤ mostOperands) && decide (meth.sig.returnType = rt) && !meth.locks && decide (parseMethodDescriptor y.desc = some meth.sig)) = true) : (Jvm.Cond.code y bytes mx rt).before a s = true := by
  simp only [Bool.and_eq_true, beq_iff_eq, Bool.not_eq_true', decide_eq_true_eq] at h5
  obtain ⟨⟨⟨⟨⟨g1, g2⟩, g3⟩, g4⟩, g5⟩, g6⟩ := h5
  simp [Cond.before, Cond.holds, Cond.value, h1, h2, h3, h4, g1, g2, g3, g4, g5, g6]
def isCode : Jvm.Cond → Bool
  | .code _ _ _ _ => true
  | _ => false
theorem all_split {L : List Jvm.Cond} {P : Jvm.Cond → Bool} (h1 : L.all (fun c => isCode c || P c) = true) (h2 : ∀ c ∈ L.filter isCode, P c = true) : L.all P = true := by
  refine List.all_eq_true.mpr fun c hc => ?_
  have h := List.all_eq_true.mp h1 c hc
  rcases Bool.eq_false_or_eq_true (isCode c) with hi | hi
  · exact h2 c (List.mem_filter.mpr ⟨hc, hi⟩)
  · simpa [hi] using h
set_option maxRecDepth 65536 in
theorem w_c0 : (Jvm.Cond.code x code maxLocals ret).before args0 about1 = true := code_word (m := ⟨1, 1⟩) (meth := k1m1) (c := k1c1) (by decide +kernel) rfl rfl rfl (by decide +kernel)
set_option maxRecDepth 65536 in
theorem w_c1 : (Jvm.Cond.code ({ cls := "com/example/wayfold/wayfold/engine/FilledBuckets", name := "<init>", desc := "(I)V" } : Jvm.MethodName) prog_18_method_1_code (2 : Nat) (Option.none : Option Jvm.ClassFile.FieldType)).before args0 about1 = true := code_word (m := ⟨2, 0⟩) (meth := k2m0) (c := k2c0) (by decide +kernel) rfl rfl rfl (by decide +kernel)
set_option maxRecDepth 65536 in
theorem w_c2 : (Jvm.Cond.code ({ cls := "java/lang/Object", name := "<init>", desc := "()V" } : Jvm.MethodName) object_method_1_code (1 : Nat) (Option.none : Option Jvm.ClassFile.FieldType)).before args0 about1 = true := code_word (m := ⟨0, 0⟩) (meth := k0m0) (c := k0c0) (by decide +kernel) rfl rfl rfl (by decide +kernel)
set_option maxRecDepth 65536 in
theorem w_c3 : (Jvm.Cond.code ({ cls := "java/lang/Math", name := "max", desc := "(II)I" } : Jvm.MethodName) jdk_29_method_65_code (2 : Nat) (Option.some Jvm.ClassFile.FieldType.int)).before args0 about1 = true := code_word (m := ⟨3, 1⟩) (meth := k3m1) (c := k3c1) (by decide +kernel) rfl rfl rfl (by decide +kernel)
set_option maxRecDepth 65536 in
theorem w_c4 : (Jvm.Cond.code ({ cls := "com/example/wayfold/wayfold/engine/FilledBuckets", name := "fill", desc := "(I)V" } : Jvm.MethodName) prog_18_method_2_code (2 : Nat) (Option.none : Option Jvm.ClassFile.FieldType)).before args0 about1 = true := code_word (m := ⟨2, 1⟩) (meth := k2m1) (c := k2c1) (by decide +kernel) rfl rfl rfl (by decide +kernel)
set_option maxRecDepth 65536 in
theorem w_c5 : (Jvm.Cond.code ({ cls := "com/example/wayfold/wayfold/engine/FilledBuckets", name := "stepsToFilled", desc := "(I)I" } : Jvm.MethodName) prog_18_method_5_code (3 : Nat) (Option.some Jvm.ClassFile.FieldType.int)).before args0 about1 = true := code_word (m := ⟨2, 2⟩) (meth := k2m2) (c := k2c2) (by decide +kernel) rfl rfl rfl (by decide +kernel)
set_option maxRecDepth 65536 in
theorem w_c6 : (Jvm.Cond.code ({ cls := "com/example/wayfold/wayfold/engine/FilledBuckets", name := "firstFilledFrom", desc := "(I)I" } : Jvm.MethodName) prog_18_method_6_code (5 : Nat) (Option.some Jvm.ClassFile.FieldType.int)).before args0 about1 = true := code_word (m := ⟨2, 3⟩) (meth := k2m3) (c := k2c3) (by decide +kernel) rfl rfl rfl (by decide +kernel)
set_option maxRecDepth 65536 in
theorem w_c7 : (Jvm.Cond.code ({ cls := "java/lang/Long", name := "numberOfTrailingZeros", desc := "(J)I" } : Jvm.MethodName) jdk_35_method_49_code (3 : Nat) (Option.some Jvm.ClassFile.FieldType.int)).before args0 about1 = true := code_word (m := ⟨9, 0⟩) (meth := k9m0) (c := k9c0) (by decide +kernel) rfl rfl rfl (by decide +kernel)
set_option maxRecDepth 65536 in
theorem w_c8 : (Jvm.Cond.code ({ cls := "java/lang/Integer", name := "numberOfTrailingZeros", desc := "(I)I" } : Jvm.MethodName) jdk_33_method_48_code (2 : Nat) (Option.some Jvm.ClassFile.FieldType.int)).before args0 about1 = true := code_word (m := ⟨10, 0⟩) (meth := k10m0) (c := k10c0) (by decide +kernel) rfl rfl rfl (by decide +kernel)
set_option maxRecDepth 65536 in
theorem w_c9 : (Jvm.Cond.code ({ cls := "java/lang/Math", name := "min", desc := "(II)I" } : Jvm.MethodName) jdk_29_method_69_code (2 : Nat) (Option.some Jvm.ClassFile.FieldType.int)).before args0 about1 = true := code_word (m := ⟨3, 2⟩) (meth := k3m2) (c := k3c2) (by decide +kernel) rfl rfl rfl (by decide +kernel)
set_option maxRecDepth 65536 in
theorem w_c10 : (Jvm.Cond.code ({ cls := "com/example/wayfold/wayfold/engine/FilledBuckets", name := "firstFilledWordAfter", desc := "(I)I" } : Jvm.MethodName) prog_18_method_7_code (6 : Nat) (Option.some Jvm.ClassFile.FieldType.int)).before args0 about1 = true := code_word (m := ⟨2, 4⟩) (meth := k2m4) (c := k2c4) (by decide +kernel) rfl rfl rfl (by decide +kernel)
def codes1 : List Jvm.Cond := [Jvm.Cond.code x code maxLocals ret, Jvm.Cond.code ({ cls := "com/example/wayfold/wayfold/engine/FilledBuckets", name := "<init>", desc := "(I)V" } : Jvm.MethodName) prog_18_method_1_code (2 : Nat) (Option.none : Option Jvm.ClassFile.FieldType), Jvm.Cond.code ({ cls := "java/lang/Object", name := "<init>", desc := "()V" } : Jvm.MethodName) object_method_1_code (1 : Nat) (Option.none : Option Jvm.ClassFile.FieldType), Jvm.Cond.code ({ cls := "java/lang/Math", name := "max", desc := "(II)I" } : Jvm.MethodName) jdk_29_method_65_code (2 : Nat) (Option.some Jvm.ClassFile.FieldType.int), Jvm.Cond.code ({ cls := "com/example/wayfold/wayfold/engine/FilledBuckets", name := "fill", desc := "(I)V" } : Jvm.MethodName) prog_18_method_2_code (2 : Nat) (Option.none : Option Jvm.ClassFile.FieldType), Jvm.Cond.code ({ cls := "com/example/wayfold/wayfold/engine/FilledBuckets", name := "stepsToFilled", desc := "(I)I" } : Jvm.MethodName) prog_18_method_5_code (3 : Nat) (Option.some Jvm.ClassFile.FieldType.int), Jvm.Cond.code ({ cls := "com/example/wayfold/wayfold/engine/FilledBuckets", name := "firstFilledFrom", desc := "(I)I" } : Jvm.MethodName) prog_18_method_6_code (5 : Nat) (Option.some Jvm.ClassFile.FieldType.int), Jvm.Cond.code ({ cls := "java/lang/Long", name := "numberOfTrailingZeros", desc := "(J)I" } : Jvm.MethodName) jdk_35_method_49_code (3 : Nat) (Option.some Jvm.ClassFile.FieldType.int), Jvm.Cond.code ({ cls := "java/lang/Integer", name := "numberOfTrailingZeros", desc := "(I)I" } : Jvm.MethodName) jdk_33_method_48_code (2 : Nat) (Option.some Jvm.ClassFile.FieldType.int), Jvm.Cond.code ({ cls := "java/lang/Math", name := "min", desc := "(II)I" } : Jvm.MethodName) jdk_29_method_69_code (2 : Nat) (Option.some Jvm.ClassFile.FieldType.int), Jvm.Cond.code ({ cls := "com/example/wayfold/wayfold/engine/FilledBuckets", name := "firstFilledWordAfter", desc := "(I)I" } : Jvm.MethodName) prog_18_method_7_code (6 : Nat) (Option.some Jvm.ClassFile.FieldType.int)]
set_option maxRecDepth 65536 in
theorem codes_eq : words1.filter isCode = codes1 := rfl
theorem w_codes : ∀ c ∈ words1.filter isCode, c.before args0 about1 = true := by
  rw [codes_eq]
  intro c hc
  simp only [codes1, List.mem_cons, List.not_mem_nil, or_false] at hc
  rcases hc with rfl | rfl | rfl | rfl | rfl | rfl | rfl | rfl | rfl | rfl | rfl
  · exact w_c0
  · exact w_c1
  · exact w_c2
  · exact w_c3
  · exact w_c4
  · exact w_c5
  · exact w_c6
  · exact w_c7
  · exact w_c8
  · exact w_c9
  · exact w_c10
set_option maxRecDepth 65536 in
theorem w_t1 : (words1.take 24).all (fun c => isCode c || c.before args0 about1) = true := by decide +kernel
set_option maxRecDepth 65536 in
theorem w_t2 : ((words1.drop 24).take 24).all (fun c => isCode c || c.before args0 about1) = true := by decide +kernel
set_option maxRecDepth 65536 in
theorem w_t3 : ((words1.drop 24).drop 24).all (fun c => isCode c || c.before args0 about1) = true := by decide +kernel
theorem w_tables : (allAtoms (Jvm.Cond.code x code maxLocals ret :: tables_1)).before args0 about1 = true := by
  rw [allAtoms_all]
  show words1.all (fun c => c.before args0 about1) = true
  refine all_split ?_ w_codes
  rw [← List.take_append_drop 24 words1, List.all_append, w_t1, ← List.take_append_drop 24 (words1.drop 24), List.all_append, w_t2, w_t3]
  rfl
set_option maxRecDepth 65536 in
theorem w_case : (Jvm.Cond.and given_1 narrow_1).before args0 about1 = true := by decide +kernel
theorem w_applies : (headSpec (Jvm.Cond.code x code maxLocals ret :: tables_1) room_1).applies x e0.platform about1 = true :=
  (Spec.applies_iff w_frames).mpr ⟨w_running, w_runnable, w_alone, w_named, w_hears, w_ripe, w_room, w_tables⟩
theorem atStart : AtStart classFile x code maxLocals ret World_1 tables_1 room_1 Calls_1 rest_1 Pre_1 launch0 p0 e0 about1 theMethod args0 below0 :=
  ⟨lists_1, trivial, launch0.admits_env _ _ _, launch0.least_env, fairChoices_fair.cas, fairChoices_fair.clock, w_frames, w_args, w_heap, w_applies, trivial, trivial, w_case⟩
end start1
theorem witness_1 : WitnessClaimed_1 := ⟨start1.p0, start1.e0, start1.about1, start1.theMethod, start1.args0, start1.below0, start1.atStart⟩
end Jvm.Pilot.@@N@@
