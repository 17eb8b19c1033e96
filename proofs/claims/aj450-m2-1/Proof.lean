import JvmDerived
import JvmDerived.Pilot.@@N@@Statement
import JvmDerived.Pilot.@@N@@Code
set_option linter.unusedVariables false
set_option linter.unusedSimpArgs false
@@BLOCK:NumsL.lean.txt@@
namespace Jvm.RoadKit
open Sem ClassFile Op Lib Jvm.Stand Jvm.Free Jvm.LawKit
section New
variable {p : Program} {l : Launch} {e : Env} {R : Room} {s : State} {m : MethodId} {args : Array Value} {below : List Frame} {meth : Method} {c : Code} {T : State} {locs : List Loc} {cells slots : Nat}
theorem retI (X : Stand p l e R s m args below meth c T locs cells slots) (hx : p.tables.exec = Jvm.exec) {pc : Nat} {Ls : Array Slot} {z : Int32} {rest : List Value} (hret : meth.sig.returnType = some .int) (hd : decode c.code pc = .ok (.ireturn, 1)) {fs : List Frame}
    (hl : ∀ (f : JFrame) (acts : List Action), f.method = m → f.locked = none → f.entered = [] → (doReturn e (T.setTop f) acts (some (.int z))).1 = T.setFrames fs) : Steps p.tables e below (T.setTop (mkF m pc Ls (.int z :: rest))) (T.setFrames fs) := by
  have hm' : T.vm.method? m = some meth := X.method'
  have hn : narrow .int (.int z) = .int z := rfl
  show Steps p.tables e below (T.setTop { method := m, pc := pc, locals := Ls, stack := _ :: rest, locked := none }) _
  jvm_step X.here [X.here.top, hx, hd, hm', hret, hn]
  first | (intro acts; rw [hl _ acts rfl rfl rfl]) | rw [hl _ _ rfl rfl rfl]
  exact Steps.refl _
end New
end Jvm.RoadKit
namespace Jvm.Pilot.@@N@@
open Jvm Jvm.ClassFile Sem Op Lib Jvm.Free Jvm.Stand Jvm.LawKit Jvm.RoadKit Bundle Jvm.Pilot.@@N@@.Jvm.D

/-! the road's own words: where a run ends, by steps taken one after the other -/
def own_E (p : Program) (e : Env) (below : List Frame) (G : State → Outcome → Prop) (U : State) : Prop := ∃ s₂ o, Steps p.tables e below U s₂ ∧ s₂.status = .running ∧ Ended s₂ below o ∧ G s₂ o
theorem own_step {p : Program} {e : Env} {below : List Frame} {G : State → Outcome → Prop} {U U' : State} (h : ∀ t, Steps p.tables e below U' t → Steps p.tables e below U t) (k : own_E p e below G U') : own_E p e below G U :=
  let ⟨a, b, c, d⟩ := k; ⟨a, b, h _ c, d⟩
theorem own_ret {p : Program} {l : Launch} {e : Env} {R : Room} {s : State} {m : MethodId} {args : Array Value} {below : List Frame} {meth : Method} {c : Code} {T : State} {locs : List Loc} {cells slots C S : Nat} {Q : Option Value → Heap → List Loc → Prop} {U : State}
    (X : Stand p l e R s m args below meth c T locs cells slots) (hlk : meth.locks = false) {v : Option Value} (hv : meth.sig.returnType = none → v = none) (hq : Q v T.heap locs) (hc : cells ≤ C) (hs : slots ≤ S)
    (hst : ∀ fs, (∀ (f : JFrame) (acts : List Action), f.method = m → f.locked = none → f.entered = [] → (doReturn e (T.setTop f) acts v).1 = T.setFrames fs) → Steps p.tables e below U (T.setFrames fs)) :
    own_E p e below (fun U' o => ∃ v L, o = .returned v ∧ Q v U'.heap L ∧ FrameEnd s o U' L C S) U := by
  obtain ⟨fs, hr, hrun, hended, hW, hsame⟩ := X.leave (v := v) hv hlk
  exact ⟨_, _, hst fs hr, hrun, hended, v, locs, rfl, hq, ⟨_, rfl⟩, hW, hsame.mono hc hs⟩
theorem own_lc_gt_t {x y : Int64} (h : y < x) : ifCond.holds .gt (Jvm.Free.XT.cmpL x y) = true := by delta Jvm.Free.XT.cmpL; rw [if_pos h]; decide
theorem own_lc_gt_f {x y : Int64} (h : ¬ y < x) : ifCond.holds .gt (Jvm.Free.XT.cmpL x y) = false := by delta Jvm.Free.XT.cmpL; rw [if_neg h]; split <;> decide
theorem own_lc_le_f {x y : Int64} (h : y < x) : ifCond.holds .le (Jvm.Free.XT.cmpL x y) = false := by delta Jvm.Free.XT.cmpL; rw [if_pos h]; decide
theorem own_lc_le_t {x y : Int64} (h : ¬ y < x) : ifCond.holds .le (Jvm.Free.XT.cmpL x y) = true := by delta Jvm.Free.XT.cmpL; rw [if_neg h]; split <;> decide
theorem own_lt3 {x y : Int64} (h : x < y) : Jvm.Free.XT.cmpL x y = -1 := by
  delta Jvm.Free.XT.cmpL
  rw [if_neg (by rw [Int64.lt_iff_toInt_lt] at *; omega), if_neg (by intro e; subst e; rw [Int64.lt_iff_toInt_lt] at h; omega)]
theorem own_ge3 {x y : Int64} (h : ¬ x < y) : Jvm.Free.XT.cmpL x y = 1 ∨ Jvm.Free.XT.cmpL x y = 0 := by
  delta Jvm.Free.XT.cmpL
  by_cases h1 : y < x
  · rw [if_pos h1]; exact Or.inl rfl
  · rw [if_neg h1, if_pos (by rw [Int64.lt_iff_toInt_lt] at h h1; exact Int64.toInt_inj.mp (by omega))]; exact Or.inr rfl
theorem own_lc_lt_t {x y : Int64} (h : x < y) : ifCond.holds .lt (Jvm.Free.XT.cmpL x y) = true := by rw [own_lt3 h]; decide
theorem own_lc_lt_f {x y : Int64} (h : ¬ x < y) : ifCond.holds .lt (Jvm.Free.XT.cmpL x y) = false := by rcases own_ge3 h with e | e <;> rw [e] <;> decide
theorem own_lc_ge_f {x y : Int64} (h : x < y) : ifCond.holds .ge (Jvm.Free.XT.cmpL x y) = false := by rw [own_lt3 h]; decide
theorem own_lc_ge_t {x y : Int64} (h : ¬ x < y) : ifCond.holds .ge (Jvm.Free.XT.cmpL x y) = true := by rcases own_ge3 h with e | e <;> rw [e] <;> decide
theorem own_eq3 {x y : Int64} (h : x = y) : Jvm.Free.XT.cmpL x y = 0 := by
  subst h; delta Jvm.Free.XT.cmpL; rw [if_neg (by rw [Int64.lt_iff_toInt_lt]; omega), if_pos rfl]
theorem own_ne3 {x y : Int64} (h : ¬ x = y) : Jvm.Free.XT.cmpL x y = 1 ∨ Jvm.Free.XT.cmpL x y = -1 := by
  delta Jvm.Free.XT.cmpL
  by_cases h1 : y < x
  · rw [if_pos h1]; exact Or.inl rfl
  · rw [if_neg h1, if_neg h]; exact Or.inr rfl
theorem own_lc_eq_t {x y : Int64} (h : x = y) : ifCond.holds .eq (Jvm.Free.XT.cmpL x y) = true := by rw [own_eq3 h]; decide
theorem own_lc_eq_f {x y : Int64} (h : ¬ x = y) : ifCond.holds .eq (Jvm.Free.XT.cmpL x y) = false := by rcases own_ne3 h with e | e <;> rw [e] <;> decide
theorem own_lc_ne_f {x y : Int64} (h : x = y) : ifCond.holds .ne (Jvm.Free.XT.cmpL x y) = false := by rw [own_eq3 h]; decide
theorem own_lc_ne_t {x y : Int64} (h : ¬ x = y) : ifCond.holds .ne (Jvm.Free.XT.cmpL x y) = true := by rcases own_ne3 h with e | e <;> rw [e] <;> decide
theorem own_i32_rem (x y : Int32) : (x - (x / y) * y).toInt = x.toInt.tmod y.toInt := by
  have a := (x % y).toInt_lt; have b := (x % y).le_toInt
  rw [Int32.toInt_mod] at a b
  rw [Int32.toInt_sub, Int32.toInt_mul, Int32.toInt_div, Int.bmod_mul_bmod, Int.sub_bmod_bmod, Int.mul_comm, ← Int.tmod_def]
  exact Jvm.Kit.bmod32 b a
/-- (x & MAX) % n for a positive n -/
theorem own_pick (x n : Int32) (hn : 0 < n.toInt) : ((x &&& (2147483647 : Int32)) - ((x &&& (2147483647 : Int32)) / n) * n).toInt = (x.toInt % 2 ^ 31) % n.toInt := by
  rw [own_i32_rem, Jvm.Kit.i32_mask x 2147483647 (k := 31) (by decide) (by decide), Int.tmod_eq_emod_of_nonneg (Int.emod_nonneg _ (by decide))]
theorem own_ofNat (x : Int32) (h : 0 ≤ x.toInt) : ∃ k : Nat, x = Int32.ofNat k ∧ (k : Int) = x.toInt := by
  refine ⟨x.toInt.toNat, ?_, by omega⟩
  have := x.toInt_lt
  apply Int32.toInt_inj.mp
  rw [Int32.toInt_ofNat_of_lt (by omega)]; omega

/-! arrays: how many places, and what each holds -/
def own_A (Z : State) (h : Heap) (a : Addr) (ty : FieldType) (n : Nat) (f : Nat → Value) : Prop := ∃ c : Cell, Arr Z h a c ty ∧ c.slots.size = n ∧ ∀ j, j < n → c.slots[j]? = some (f j)
section OwnA
variable {p : Program} {l : Launch} {e : Env} {R : Room} {s : State} {m : MethodId} {args : Array Value} {below : List Frame} {meth : Method} {c : Code} {T : State} {locs : List Loc} {cells slots : Nat} {Z : State} {h h' : Heap} {a b : Addr} {ty : FieldType} {n : Nat} {f f' : Nat → Value} {sl : Nat} {v : Value}
theorem own_A_lt (F : own_A Z h a ty n f) : a < h.size := by obtain ⟨c, A, -⟩ := F; exact A.lt
theorem own_A_ext (E : Ext h h') (F : own_A Z h a ty n f) : own_A Z h' a ty n f := by obtain ⟨c, A, r⟩ := F; exact ⟨c, A.ext E, r⟩
theorem own_A_keep {ws : List Addr} (K : Keep h h' ws) (q : a ∉ ws) (F : own_A Z h a ty n f) : own_A Z h' a ty n f := by obtain ⟨c, A, r⟩ := F; exact ⟨c, ⟨K.2.1 a c A.1 q, A.2⟩, r⟩
theorem own_A_other (W : Wr h h' b sl v) (q : a ≠ b) (F : own_A Z h a ty n f) : own_A Z h' a ty n f := by obtain ⟨c, A, r⟩ := F; exact ⟨c, A.other W q, r⟩
theorem own_A_new {k : ClassId} {z : Int32} (A : Arr Z h a (newA k ty z) ty) (hz : z.toNatClampNeg = n) : own_A Z h a ty n (fun _ => defaultValue ty) :=
  ⟨_, A, (sz_new _ _ _).trans hz, fun j hj => by simp [newA, hz, hj]⟩
theorem own_A_set (W : Wr h h' a sl v) (F : own_A Z h a ty n f) : own_A Z h' a ty n (fun j => if j = sl then v else f j) := by
  obtain ⟨c, A, S, H⟩ := F
  refine ⟨_, A.same W, (sz_set _ _ _).trans S, fun j hj => ?_⟩
  show (c.slots.setIfInBounds sl v)[j]? = some (if j = sl then v else f j)
  by_cases u : j = sl
  · subst u; rw [if_pos rfl, Array.getElem?_setIfInBounds_self_of_lt (by rw [S]; exact hj)]
  · rw [if_neg u, Array.getElem?_setIfInBounds_ne (Ne.symm u)]; exact H j hj
theorem own_A_eq (F : own_A Z h a ty n f) (q : ∀ j, j < n → f j = f' j) : own_A Z h a ty n f' := by
  obtain ⟨c, A, S, H⟩ := F; exact ⟨c, A, S, fun j hj => by rw [H j hj, q j hj]⟩
/-- the place j is the number i -/
theorem own_clamp {j : Int32} {i : Nat} (hj : j.toInt = (i : Int)) : j.toNatClampNeg = i := by
  show j.toInt.toNat = i; omega
theorem own_in {j : Int32} {i : Nat} (hj : j.toInt = (i : Int)) (hi : i < n) {k : Nat} (hk : k = n) : ¬ (j < 0 ∨ k ≤ j.toNatClampNeg) := by
  rw [own_clamp hj]
  rintro (q | q)
  · rw [Int32.lt_iff_toInt_lt, hj] at q
    have : (0 : Int32).toInt = 0 := rfl
    omega
  · omega
theorem own_ldI (X : Stand p l e R s m args below meth c T locs cells slots) (hx : p.tables.exec = Jvm.exec) (hZ : Z.Warmed39 s.vm) (eT : T.heap = h) (F : own_A Z h a .int n f) {j : Int32} (i : Nat) (hj : j.toInt = (i : Int)) (hi : i < n) {g : JFrame} (hg : g.method = m) {rest : List Value} (hs : g.stack = .int j :: .ref a :: rest) (hd : decode c.code g.pc = .ok (.iaload, 1)) {target : State}
    (hr : Steps p.tables e below (T.setTop { g with pc := g.pc + 1, stack := f i :: rest }) target) : Steps p.tables e below (T.setTop g) target := by
  obtain ⟨cl, A, S, H⟩ := F
  exact X.iaload hx (by rw [eT]; exact A.1) (State.isArrayOf_alike hZ.alike A.2.1) A.2.2 (own_in hj hi S) (by rw [own_clamp hj]; exact H i hi) hg hs hd _ hr
theorem own_ldJ (X : Stand p l e R s m args below meth c T locs cells slots) (hx : p.tables.exec = Jvm.exec) (hZ : Z.Warmed39 s.vm) (eT : T.heap = h) (F : own_A Z h a .long n f) {j : Int32} (i : Nat) (hj : j.toInt = (i : Int)) (hi : i < n) {g : JFrame} (hg : g.method = m) {rest : List Value} (hs : g.stack = .int j :: .ref a :: rest) (hd : decode c.code g.pc = .ok (.laload, 1)) {target : State}
    (hr : Steps p.tables e below (T.setTop { g with pc := g.pc + 1, stack := f i :: rest }) target) : Steps p.tables e below (T.setTop g) target := by
  obtain ⟨cl, A, S, H⟩ := F
  exact X.laload hx (by rw [eT]; exact A.1) (State.isArrayOf_alike hZ.alike A.2.1) A.2.2 (own_in hj hi S) (by rw [own_clamp hj]; exact H i hi) hg hs hd _ hr
theorem own_ldB (X : Stand p l e R s m args below meth c T locs cells slots) (hx : p.tables.exec = Jvm.exec) (hZ : Z.Warmed39 s.vm) (eT : T.heap = h) (F : own_A Z h a .byte n f) {j : Int32} (i : Nat) (hj : j.toInt = (i : Int)) (hi : i < n) {g : JFrame} (hg : g.method = m) {rest : List Value} (hs : g.stack = .int j :: .ref a :: rest) (hd : decode c.code g.pc = .ok (.baload, 1)) {target : State}
    (hr : Steps p.tables e below (T.setTop { g with pc := g.pc + 1, stack := f i :: rest }) target) : Steps p.tables e below (T.setTop g) target := by
  obtain ⟨cl, A, S, H⟩ := F
  exact X.baloadBytes hx (by rw [eT]; exact A.1) (State.isArrayOf_alike hZ.alike A.2.1) A.2.2 (own_in hj hi S) (by rw [own_clamp hj]; exact H i hi) hg hs hd _ hr
theorem own_len (X : Stand p l e R s m args below meth c T locs cells slots) (hx : p.tables.exec = Jvm.exec) (hZ : Z.Warmed39 s.vm) (eT : T.heap = h) (F : own_A Z h a ty n f) {g : JFrame} (hg : g.method = m) {rest : List Value} (hs : g.stack = .ref a :: rest) (hd : decode c.code g.pc = .ok (.arraylength, 1)) {target : State}
    (hr : Steps p.tables e below (T.setTop { g with pc := g.pc + 1, stack := .int (Int32.ofNat n) :: rest }) target) : Steps p.tables e below (T.setTop g) target := by
  obtain ⟨cl, A, S, H⟩ := F
  refine X.arraylength hx (by rw [eT]; exact A.1) (State.isArrayOf_alike hZ.alike A.2.1) hg hs hd _ ?_
  rw [S]; exact hr
theorem own_stI (X : Stand p l e R s m args below meth c T locs cells slots) (hx : p.tables.exec = Jvm.exec) (hZ : Z.Warmed39 s.vm) (eT : T.heap = h) (F : own_A Z h a .int n f) {j x : Int32} (i : Nat) (hj : j.toInt = (i : Int)) (hi : i < n) {g : JFrame} (hg : g.method = m) {rest : List Value} (hs : g.stack = .int x :: .int j :: .ref a :: rest) (hd : decode c.code g.pc = .ok (.iastore, 1)) :
    ∃ T' h', Stand p l e R s m args below meth c T' (locs ++ [⟨a, i⟩]) cells slots ∧ T'.heap = h' ∧ Wr h h' a i (.int x) ∧ ∀ target, Steps p.tables e below (T'.setTop { g with pc := g.pc + 1, stack := rest }) target → Steps p.tables e below (T.setTop g) target := by
  obtain ⟨cl, A, S, H⟩ := F
  have r := stI X hx hZ eT A (own_in hj hi S) hg hs hd
  rwa [own_clamp hj] at r
theorem own_stJ (X : Stand p l e R s m args below meth c T locs cells slots) (hx : p.tables.exec = Jvm.exec) (hZ : Z.Warmed39 s.vm) (eT : T.heap = h) (F : own_A Z h a .long n f) {j : Int32} {x : Int64} (i : Nat) (hj : j.toInt = (i : Int)) (hi : i < n) {g : JFrame} (hg : g.method = m) {rest : List Value} (hs : g.stack = .long x :: .int j :: .ref a :: rest) (hd : decode c.code g.pc = .ok (.lastore, 1)) :
    ∃ T' h', Stand p l e R s m args below meth c T' (locs ++ [⟨a, i⟩]) cells slots ∧ T'.heap = h' ∧ Wr h h' a i (.long x) ∧ ∀ target, Steps p.tables e below (T'.setTop { g with pc := g.pc + 1, stack := rest }) target → Steps p.tables e below (T.setTop g) target := by
  obtain ⟨cl, A, S, H⟩ := F
  have r := stJ X hx hZ eT A (own_in hj hi S) hg hs hd
  rwa [own_clamp hj] at r
theorem own_stB (X : Stand p l e R s m args below meth c T locs cells slots) (hx : p.tables.exec = Jvm.exec) (hZ : Z.Warmed39 s.vm) (eT : T.heap = h) (F : own_A Z h a .byte n f) {j x : Int32} (i : Nat) (hj : j.toInt = (i : Int)) (hi : i < n) {g : JFrame} (hg : g.method = m) {rest : List Value} (hs : g.stack = .int x :: .int j :: .ref a :: rest) (hd : decode c.code g.pc = .ok (.bastore, 1)) :
    ∃ T' h', Stand p l e R s m args below meth c T' (locs ++ [⟨a, i⟩]) cells slots ∧ T'.heap = h' ∧ Wr h h' a i (.int (nar .byte x)) ∧ ∀ target, Steps p.tables e below (T'.setTop { g with pc := g.pc + 1, stack := rest }) target → Steps p.tables e below (T.setTop g) target := by
  obtain ⟨cl, A, S, H⟩ := F
  have r := stB X hx hZ eT A (own_in hj hi S) hg hs hd
  rwa [own_clamp hj] at r
end OwnA
/-! numbers -/
theorem own_toInt (k : Nat) (h : k < 2147483648) : (Int32.ofNat k).toInt = (k : Int) := Int32.toInt_ofNat_of_lt (by omega)
theorem own_cnt (p B : Int32) (h : ((p &&& (2147483647 : Int32)) - ((p &&& (2147483647 : Int32)) / (32 : Int32)) * (32 : Int32)) = B) : ∃ n : Nat, B = Int32.ofNat n ∧ n ≤ 31 := by
  have e : ((p &&& (2147483647 : Int32)) - ((p &&& (2147483647 : Int32)) / (32 : Int32)) * (32 : Int32)).toInt = (p.toInt % 2 ^ 31) % 32 := own_pick p 32 (by decide)
  rw [h] at e
  obtain ⟨k, h1, h2⟩ := own_ofNat B (by omega)
  exact ⟨k, h1, by omega⟩
theorem own_pos (p B : Int32) (h : (p &&& (7 : Int32)) = B) : ∃ n : Nat, B = Int32.ofNat n ∧ n ≤ 7 := by
  have e : (p &&& (7 : Int32)).toInt = p.toInt % 2 ^ 3 := Jvm.Kit.i32_mask p 7 (k := 3) (by decide) (by decide)
  rw [h] at e
  obtain ⟨k, h1, h2⟩ := own_ofNat B (by omega)
  exact ⟨k, h1, by omega⟩
/-- the lowest k bits -/
def own_low (v : Int64) (k : Nat) : Int64 := Int64.ofBitVec (BitVec.ofNat 64 (v.toBitVec.toNat % 2 ^ k))
theorem own_low_nat (v : Int64) (k : Nat) (hk : k ≤ 31) : (own_low v k).toBitVec.toNat = v.toBitVec.toNat % 2 ^ k := by
  show (BitVec.ofNat 64 (v.toBitVec.toNat % 2 ^ k)).toNat = _
  rw [BitVec.toNat_ofNat]
  refine Nat.mod_eq_of_lt (Nat.lt_of_lt_of_le (Nat.mod_lt _ (Nat.pow_pos (by decide))) (Nat.pow_le_pow_right (by decide) (by omega)))
theorem own_i64_ext {x y : Int64} (h : x.toBitVec.toNat = y.toBitVec.toNat) : x = y := Int64.toBitVec_inj.mp (BitVec.eq_of_toNat_eq h)
theorem own_m_lit : ∀ k : Nat, k < 32 → (((1 : Int64) <<< ((Int32.ofNat k).toInt64 &&& 63)) - 1).toBitVec.toNat = 2 ^ k - 1 := by decide
theorem own_low_w (v : Int64) {c : Int32} {k : Nat} (hc : c = Int32.ofNat k) (hk : k ≤ 31) : ((0 : Int64) ||| ((v &&& (((1 : Int64) <<< (c.toInt64 &&& 63)) - (1 : Int64))) <<< ((0 : Int32).toInt64 &&& 63))) = own_low v k := by
  subst hc
  have z : ∀ y : Int64, ((0 : Int64) ||| (y <<< ((0 : Int32).toInt64 &&& 63))) = y := fun y => by
    apply Int64.toBitVec_inj.mp
    show (BitVec.ofNat 64 0) ||| (y.toBitVec <<< (((0 : Int32).toInt64 &&& 63).toBitVec.smod (BitVec.ofNat 64 64))) = y.toBitVec
    rw [show (((0 : Int32).toInt64 &&& 63).toBitVec.smod (BitVec.ofNat 64 64)) = (BitVec.ofNat 64 0) by decide]
    simp
  rw [z]
  apply own_i64_ext
  rw [own_low_nat v k hk]
  show (v.toBitVec &&& (((1 : Int64) <<< ((Int32.ofNat k).toInt64 &&& 63)) - (1 : Int64)).toBitVec).toNat = _
  rw [BitVec.toNat_and, own_m_lit k (by omega), Nat.and_two_pow_sub_one_eq_mod]
theorem own_ushrL_nat (x : Int64) (y : Int32) (s : Nat) (hs : (y.toInt64.toUInt64 &&& Int64.toUInt64 63).toBitVec.toNat = s) (h64 : s < 64) : (Jvm.Free.XT.ushrL x y).toBitVec.toNat = x.toBitVec.toNat / 2 ^ s := by
  delta Jvm.Free.XT.ushrL
  show (x.toBitVec >>> ((y.toInt64.toUInt64 &&& Int64.toUInt64 63).toBitVec % (BitVec.ofNat 64 64))).toNat = _
  rw [BitVec.ushiftRight_eq', BitVec.toNat_umod, hs, BitVec.toNat_ushiftRight, Nat.shiftRight_eq_div_pow]
  have : s % ((BitVec.ofNat 64 64)).toNat = s := Nat.mod_eq_of_lt h64
  rw [this]
theorem own_sh_lit : ∀ s : Nat, s < 64 → ((Int32.ofNat s).toInt64.toUInt64 &&& Int64.toUInt64 63).toBitVec.toNat = s := by decide
theorem own_sh64_lit : ∀ k : Nat, k < 32 → 1 ≤ k → (((64 : Int32) - Int32.ofNat k).toInt64.toUInt64 &&& Int64.toUInt64 63).toBitVec.toNat = 64 - k := by decide
theorem own_shl64_lit : ∀ k : Nat, k < 32 → 1 ≤ k → (((((64 : Int32) - Int32.ofNat k)).toInt64 &&& 63).toBitVec.smod (BitVec.ofNat 64 64)).toNat = 64 - k := by decide
theorem own_nz_lit : ∀ k : Nat, k < 32 → 1 ≤ k → ¬ Int32.ofNat k = 0 := by decide
theorem own_low_f (v : Int64) {c : Int32} {k : Nat} (hc : c = Int32.ofNat k) (hk : k ≤ 31) (h0 : ¬ c = (0 : Int32)) : (Jvm.Free.XT.ushrL (v <<< (((64 : Int32) - c).toInt64 &&& 63)) ((64 : Int32) - c)) = own_low v k := by
  subst hc
  have h1 : 1 ≤ k := by rcases Nat.eq_zero_or_pos k with e | e; subst e; exact absurd rfl h0; exact e
  apply own_i64_ext
  rw [own_ushrL_nat _ _ (64 - k) (own_sh64_lit k (by omega) h1) (by omega), own_low_nat v k hk]
  show (v.toBitVec <<< ((((64 : Int32) - Int32.ofNat k).toInt64 &&& 63).toBitVec.smod (BitVec.ofNat 64 64))).toNat / _ = _
  rw [BitVec.shiftLeft_eq', own_shl64_lit k (by omega) h1, BitVec.toNat_shiftLeft, Nat.shiftLeft_eq]
  have e : (2 : Nat) ^ 64 = 2 ^ k * 2 ^ (64 - k) := by rw [← Nat.pow_add]; congr 1; omega
  rw [e, Nat.mul_mod_mul_right, Nat.mul_div_cancel _ (Nat.pow_pos (by decide))]
theorem own_low_z (v : Int64) {c : Int32} {k : Nat} (hc : c = Int32.ofNat k) (hk : k ≤ 31) (h0 : c = (0 : Int32)) : (0 : Int64) = own_low v k := by
  have h1 : k = 0 := by
    rcases Nat.eq_zero_or_pos k with e | e
    · exact e
    · exact absurd (hc.symm.trans h0) (own_nz_lit k (by omega) e)
  subst h1
  apply own_i64_ext
  rw [own_low_nat v 0 (by omega)]
  simp [Nat.mod_one]
/-- shifted to the right by t bytes -/
def own_shr (M : Int64) (t : Nat) : Int64 := Jvm.Free.XT.ushrL M (Int32.ofNat (8 * t))
theorem own_shr_nat (M : Int64) (t : Nat) (ht : t < 8) : (own_shr M t).toBitVec.toNat = M.toBitVec.toNat / 2 ^ (8 * t) := own_ushrL_nat M _ (8 * t) (own_sh_lit _ (by omega)) (by omega)
theorem own_shr_0 (M : Int64) : M = own_shr M 0 := own_i64_ext (by rw [own_shr_nat M 0 (by decide)]; simp)
theorem own_shr_s (M : Int64) (t : Nat) (ht : t < 7) : (Jvm.Free.XT.ushrL (own_shr M t) (8 : Int32)) = own_shr M (t + 1) := by
  apply own_i64_ext
  rw [own_ushrL_nat _ _ 8 (by decide) (by decide), own_shr_nat M t (by omega), own_shr_nat M (t + 1) (by omega), Nat.div_div_eq_div_mul, ← Nat.pow_add]
  rfl
theorem own_shr_end (v : Int64) (k n : Nat) (hk : k ≤ 31) (h : k ≤ 8 * n) (hn : n < 8) : own_shr (own_low v k) n = 0 := by
  apply own_i64_ext
  rw [own_shr_nat _ n hn, own_low_nat v k hk]
  have : v.toBitVec.toNat % 2 ^ k < 2 ^ (8 * n) := Nat.lt_of_lt_of_le (Nat.mod_lt _ (Nat.pow_pos (by decide))) (Nat.pow_le_pow_right (by decide) h)
  rw [Nat.div_eq_of_lt this]; rfl
def own_byte (M : Int64) (i : Nat) : Int32 := Int8.toInt32 (Int32.toInt8 (Int64.toInt32 (own_shr M i)))
theorem own_i8 (x : Int8) : x.toInt32.toInt8 = x := by simp
def own_nb (k : Nat) : Nat := (k + 7) / 8
theorem own_nb_lit : ∀ k : Nat, k < 32 → (Jvm.Free.XT.ushr ((Int32.ofNat k) + (7 : Int32)) (3 : Int32)) = Int32.ofNat (own_nb k) := by decide
theorem own_nb_e {c : Int32} {k : Nat} (hc : c = Int32.ofNat k) (hk : k ≤ 31) : (Jvm.Free.XT.ushr (c + (7 : Int32)) (3 : Int32)) = Int32.ofNat (own_nb k) := by subst hc; exact own_nb_lit k (by omega)
theorem own_add (a b : Nat) : (Int32.ofNat a) + (Int32.ofNat b) = Int32.ofNat (a + b) := (Int32.ofNat_add a b).symm
/-- what the array holds behind t bytes of M, laid from place P on -/
def own_pat (M : Int64) (P t : Nat) (g : Nat → Int32) (j : Nat) : Int32 := if P ≤ j ∧ j < P + t then own_byte M (j - P) else g j
theorem own_pat_0 (M : Int64) (P : Nat) (g : Nat → Int32) : own_pat M P 0 g = g := by
  funext j; unfold own_pat; rw [if_neg (by omega)]
theorem own_pat_s (M : Int64) (P t : Nat) (g : Nat → Int32) (j : Nat) : (if j = P + t then own_byte M t else own_pat M P t g j) = own_pat M P (t + 1) g j := by
  unfold own_pat
  by_cases h : j = P + t
  · subst h; rw [if_pos rfl, if_pos (by omega)]; congr 1; omega
  · rw [if_neg h]
    by_cases h1 : P ≤ j ∧ j < P + t
    · rw [if_pos h1, if_pos (by omega)]
    · rw [if_neg h1, if_neg (by omega)]
/-- what place i must hold, as the law reckons it -/
def own_e (i p n1 : Int32) (m1 : Int64) (n2 : Int32) (m2 : Int64) (f : Int32) : Int32 :=
  if ¬ i < p ∧ i < p + n1 then Int8.toInt32 (Int32.toInt8 (Int64.toInt32 (Jvm.Free.XT.ushrL m1 ((8 : Int32) * (i - p)))))
  else if ¬ i < p + n1 ∧ i < (p + n1) + n2 then Int8.toInt32 (Int32.toInt8 (Int64.toInt32 (Jvm.Free.XT.ushrL m2 ((8 : Int32) * (i - (p + n1)))))) else f
theorem own_8 (i p : Nat) (h : p ≤ i) (hi : i < 32) : (8 : Int32) * (Int32.ofNat i - Int32.ofNat p) = Int32.ofNat (8 * (i - p)) := by
  apply Int32.toInt_inj.mp
  have e1 := own_toInt i (by omega)
  have e2 := own_toInt p (by omega)
  have e3 : (Int32.ofNat i - Int32.ofNat p).toInt = (i : Int) - p := by rw [Jvm.Kit.i32_sub (by omega) (by omega), e1, e2]
  have e8 : (8 : Int32).toInt = 8 := rfl
  rw [Jvm.Kit.i32_mul (by rw [e8, e3]; omega) (by rw [e8, e3]; omega), e8, e3, own_toInt _ (by omega)]; omega
theorem own_lt (a b : Nat) (ha : a < 2147483648) (hb : b < 2147483648) : Int32.ofNat a < Int32.ofNat b ↔ a < b := by
  rw [Int32.lt_iff_toInt_lt, own_toInt a ha, own_toInt b hb]; omega
theorem own_e_eq (M1 M2 : Int64) (f : Int32) (i P n1 n2 : Nat) (hi : i < 16) (hP : P ≤ 7) (h1 : n1 ≤ 4) (h2 : n2 ≤ 4) :
    own_pat M2 (P + n1) n2 (own_pat M1 P n1 (fun _ => f)) i = own_e (Int32.ofNat i) (Int32.ofNat P) (Int32.ofNat n1) M1 (Int32.ofNat n2) M2 f := by
  unfold own_e own_pat own_byte own_shr
  simp only [own_add, own_lt i P (by omega) (by omega), own_lt i (P + n1) (by omega) (by omega), own_lt i (P + n1 + n2) (by omega) (by omega)]
  by_cases a1 : P ≤ i ∧ i < P + n1
  · rw [if_neg (by omega), if_pos a1, if_pos (by omega), own_8 i P a1.1 (by omega)]
  · by_cases a2 : P + n1 ≤ i ∧ i < P + n1 + n2
    · rw [if_pos a2, if_neg (by omega), if_pos (by omega), own_8 i (P + n1) a2.1 (by omega)]
    · rw [if_neg a2, if_neg a1, if_neg (by omega), if_neg (by omega)]
def own_fill (f : Int32) (i : Nat) (j : Nat) : Value := if j < i then .int f else .int 0
theorem own_fill_step (f : Int32) (i : Nat) (x : Int32) (hx : x = f) : ∀ j, j < 16 → (if j = i then Value.int x else own_fill f i j) = own_fill f (i + 1) j := fun j _ => by
  subst hx
  unfold own_fill
  by_cases h : j = i
  · subst h; rw [if_pos rfl, if_pos (by omega)]
  · rw [if_neg h]
    by_cases h1 : j < i
    · rw [if_pos h1, if_pos (by omega)]
    · rw [if_neg h1, if_neg (by omega)]
theorem own_fill_all (f : Int32) : ∀ j, j < 16 → own_fill f 16 j = Value.int ((fun _ => f) j) := fun j hj => by unfold own_fill; rw [if_pos hj]
/-- the writer: its class, its array, where it stands, what is pending -/
def own_W (Z : State) (h : Heap) (w b : Addr) (q : Int32) (d : Int64) (k : Int32) : Prop :=
  Exa Z h w "com/example/furrow/furrow/codec/BitWriter" ∧ Fld Z h w "com/example/furrow/furrow/codec/BitWriter" "output" "[B" (.ref b) ∧ Fld Z h w "com/example/furrow/furrow/codec/BitWriter" "position" "I" (.int q) ∧
  Fld Z h w "com/example/furrow/furrow/codec/BitWriter" "pending" "J" (.long d) ∧ Fld Z h w "com/example/furrow/furrow/codec/BitWriter" "pendingBits" "I" (.int k)
theorem own_wlt {c : Int32} {k : Nat} (hc : c = Int32.ofNat k) (hk : k ≤ 31) : ((0 : Int32) + c) < (32 : Int32) := by
  rw [show (0 : Int32) + c = c by simp, hc, Int32.lt_iff_toInt_lt, own_toInt k (by omega)]; show (k : Int) < 32; omega
theorem own_qq {q : Int32} {n : Nat} (h : q.toInt = (n : Int)) (hn : n < 1000) : q = Int32.ofNat n := Int32.toInt_inj.mp (by rw [h, own_toInt n (by omega)])
theorem own_q1 {q : Int32} {P t : Nat} (h : q.toInt = ((P + t : Nat) : Int)) (hn : P + t < 1000) : (q + (1 : Int32)).toInt = ((P + (t + 1) : Nat) : Int) := by
  have o : (1 : Int32).toInt = 1 := rfl
  rw [Jvm.Kit.i32_add (by rw [h, o]; omega) (by rw [h, o]; omega), h, o]; omega
theorem own_kb1 {kb : Int32} {z : Int} (h : kb.toInt = z) (hz : z ≤ 0) : ¬ (0 : Int32) < kb := by rw [Int32.lt_iff_toInt_lt, h]; show ¬ (0 : Int) < z; omega
theorem own_kb2 {kb : Int32} {z : Int} (h : kb.toInt = z) (hz : 0 < z) : (0 : Int32) < kb := by rw [Int32.lt_iff_toInt_lt, h]; exact hz
theorem own_kb3 {kb : Int32} {k t : Nat} (h : kb.toInt = (k : Int) - 8 * t) (hn : k ≤ 31 ∧ t ≤ 4) : (kb - (8 : Int32)).toInt = (k : Int) - 8 * ((t + 1 : Nat) : Int) := by
  have o : (8 : Int32).toInt = 8 := rfl
  rw [Jvm.Kit.i32_sub (by rw [h, o]; omega) (by rw [h, o]; omega), h, o]; omega
theorem own_nb4 {k : Nat} (h : k ≤ 31) : own_nb k ≤ 4 := by unfold own_nb; omega
theorem own_pat_v {M : Int64} {P t : Nat} {g : Nat → Int32} {x : Int32} (hx : x = nar .byte (own_byte M t)) : ∀ j, j < 16 → (if j = P + t then Value.int x else Value.int (own_pat M P t g j)) = Value.int (own_pat M P (t + 1) g j) := fun j _ => by
  have e : nar .byte (own_byte M t) = own_byte M t := congrArg Int8.toInt32 (own_i8 _)
  rw [← own_pat_s, hx, e]
  by_cases h : j = P + t
  · rw [if_pos h, if_pos h]
  · rw [if_neg h, if_neg h]
theorem own_p11 {P k : Nat} (hP : P ≤ 7) (hk : k ≤ 31) : P + own_nb k ≤ 11 := by unfold own_nb; omega
theorem d1_0 : decode prog_24_method_1_code 0 = .ok (.aload_n 0, 1) := by decide +kernel
theorem d1_1 : decode prog_24_method_1_code 1 = .ok (.invokespecial 1, 3) := by decide +kernel
theorem d1_4 : decode prog_24_method_1_code 4 = .ok (.aload_n 0, 1) := by decide +kernel
theorem d1_5 : decode prog_24_method_1_code 5 = .ok (.aload_n 1, 1) := by decide +kernel
theorem d1_6 : decode prog_24_method_1_code 6 = .ok (.putfield 7, 3) := by decide +kernel
theorem d1_9 : decode prog_24_method_1_code 9 = .ok (.aload_n 0, 1) := by decide +kernel
theorem d1_10 : decode prog_24_method_1_code 10 = .ok (.iload_n 2, 1) := by decide +kernel
theorem d1_11 : decode prog_24_method_1_code 11 = .ok (.putfield 13, 3) := by decide +kernel
theorem d1_14 : decode prog_24_method_1_code 14 = .ok (.return_, 1) := by decide +kernel
theorem pn_1 : plainName "com/example/furrow/furrow/codec/BitWriter" = true := by first | (simp [plainName, overriddenIn]; done) | decide +kernel
theorem ef_1 (m : MethodId) (a1 : Addr) (a2 : Addr) (p3 : Int32)  : entryFrame m #[(.ref a1), (.ref a2), (.int p3)] 3 = mkF m 0 #[.val (.ref a1), .val (.ref a2), .val (.int p3)] [] := by first | (simp [entryFrame, mkF, argsToLocals, Value.category]; done) | rfl
def Q1 (Z : State) (a1 : Addr) (a2 : Addr) (p3 : Int32)  (h0 : Heap) (n0 : Nat) (v : Option Value) (h : Heap) (L : List Loc) : Prop := v = none ∧ Fr n0 L ∧ Keep h0 h [a1] ∧ own_W Z h a1 a2 p3 0 0
set_option maxRecDepth 65536 in
set_option maxHeartbeats 40000000 in
theorem rm1 (l : Launch) (Z : State) (a0 : Array Value) (hw : ∀ d ∈ tables_1, d.before a0 Z = true) (ws : List Jvm.Cond) (a1 : Addr) (a2 : Addr) (p3 : Int32)  (h0 : Heap) (n0 : Nat) (Z0 : n0 ≤ h0.size) (g1 : n0 ≤ a1) (E : Exa Z h0 a1 "com/example/furrow/furrow/codec/BitWriter") (Fo : Fld Z h0 a1 "com/example/furrow/furrow/codec/BitWriter" "output" "[B" .null) (Fp : Fld Z h0 a1 "com/example/furrow/furrow/codec/BitWriter" "position" "I" (.int 0)) (Fd : Fld Z h0 a1 "com/example/furrow/furrow/codec/BitWriter" "pending" "J" (.long 0)) (Fb : Fld Z h0 a1 "com/example/furrow/furrow/codec/BitWriter" "pendingBits" "I" (.int 0)) :
    MetFree l (⟨"com/example/furrow/furrow/codec/BitWriter", "<init>", "([BI)V"⟩ : MethodName) (head1 (Jvm.Cond.code (⟨"com/example/furrow/furrow/codec/BitWriter", "<init>", "([BI)V"⟩ : MethodName) prog_24_method_1_code 3 none :: ws) ({ frames := 1, cells := 0, slots := 0, locals := 12 } : Room)) (fun zA zU => zA = #[(.ref a1), (.ref a2), (.int p3)] ∧ Z.Warmed39 zU.vm ∧ zU.heap = h0) (fun _ _ _ _ _ => True) (fun _ zU zo zT => ∃ zv zL, zo = .returned zv ∧ Q1 Z a1 a2 p3 h0 n0 zv zT.heap zL ∧ FrameEnd zU zo zT zL ({ frames := 1, cells := 0, slots := 0, locals := 12 } : Room).cells ({ frames := 1, cells := 0, slots := 0, locals := 12 } : Room).slots) := by
  refine MetFree.of_bodySF (plainFor_of_name pn_1) hisR ?_
  intro p e s m args below meth c s₁ Bd hml0 hP hK
  obtain ⟨rfl, hZ, hh⟩ := hP
  have hx := Bd.exec
  have hby := Bd.bytes
  have hml : c.maxLocals = 3 := hml0
  have hown : s.vm.findClass "com/example/furrow/furrow/codec/BitWriter" = some m.cls := findClass_of_methodNamed Bd.named
  have hnm := (name_of_methodNamed Bd.named Bd.method).1
  have hlk : meth.locks = false := Bd.notSynchronized
  have X0 : Stand p l e ({ frames := 1, cells := 0, slots := 0, locals := 12 } : Room) s m #[(.ref a1), (.ref a2), (.int p3)] below meth c s₁ [] 0 0 := Stand.of_body Bd
  have e0 : s₁.heap = h0 := by rw [← hh, Bd.state]; rfl
  have N0 := Fr.nil n0
  refine own_step (p := p) (e := e) (below := below) (U' := s₁.setTop (mkF m 0 #[.val (.ref a1), .val (.ref a2), .val (.int p3)] [])) (fun _ zk => castTop (ef_1 m a1 a2 p3 ) zk) ?_
  have K_0 : Keep h0 h0 [a1] := Keep.refl _ _
  refine own_step (fun _ zk => XS.aloadN X0.here hx rfl (hb hby d1_0) rfl rfl zk) ?_
  show own_E p e below _ (s₁.setTop (mkF m 1 #[.val (.ref a1), .val (.ref a2), .val (.int p3)] [(.ref a1)]))
  obtain ⟨T1, X1, e1, st1⟩ := initO X0 hx hZ hown (hw _ (List.mem_of_getElem? (i := 8) rfl)) (hw _ (List.mem_of_getElem? (i := 9) rfl)) (hw _ (List.mem_of_getElem? (i := 10) rfl)) e0 (g := (mkF m 1 #[.val (.ref a1), .val (.ref a2), .val (.int p3)] [(.ref a1)])) rfl (by rw [hml]; rfl) rfl (hb hby d1_1) (by decide) (W := 0) (by show 2 * 0 + _ ≤ _; exact Nat.le_of_eq rfl) (by decide)
  refine own_step st1 ?_
  show own_E p e below _ (T1.setTop (mkF m 4 #[.val (.ref a1), .val (.ref a2), .val (.int p3)] []))
  refine own_step (fun _ zk => XS.aloadN X1.here hx rfl (hb hby d1_4) rfl rfl zk) ?_
  show own_E p e below _ (T1.setTop (mkF m 5 #[.val (.ref a1), .val (.ref a2), .val (.int p3)] [(.ref a1)]))
  refine own_step (fun _ zk => XS.aloadN X1.here hx rfl (hb hby d1_5) rfl rfl zk) ?_
  show own_E p e below _ (T1.setTop (mkF m 6 #[.val (.ref a1), .val (.ref a2), .val (.int p3)] [(.ref a2), (.ref a1)]))
  obtain ⟨T2, h2, X2, e2, W2, st2⟩ := putF X1 hx hZ hown (host := "") (Or.inl (hw _ (List.mem_of_getElem? (i := 11) rfl))) Via.refl e1 Fo E (Or.inr ⟨(hw _ (List.mem_of_getElem? (i := 12) rfl)), rfl, hnm⟩) (hw _ (List.mem_of_getElem? (i := 3) rfl)) (ty := (.array .byte)) (by decide) rfl rfl (g := (mkF m 6 #[.val (.ref a1), .val (.ref a2), .val (.int p3)] [(.ref a2), (.ref a1)])) rfl rfl (hb hby d1_6)
  have N2 := Fr.snoc X2 N0 g1
  have E_2 := Exa.wr W2 E
  have Fo_2 := Fld.same W2 Fo
  have Fp_2 := Fld.other W2 Fp (Or.inr (slot_ne (Or.inl (hw _ (List.mem_of_getElem? (i := 14) rfl))) (Or.inr (hw _ (List.mem_of_getElem? (i := 12) rfl))) (by decide) (t := .int) (t' := (.array .byte)) (by decide) (by decide)))
  have Fd_2 := Fld.other W2 Fd (Or.inr (slot_ne (Or.inl (hw _ (List.mem_of_getElem? (i := 21) rfl))) (Or.inr (hw _ (List.mem_of_getElem? (i := 12) rfl))) (by decide) (t := .long) (t' := (.array .byte)) (by decide) (by decide)))
  have Fb_2 := Fld.other W2 Fb (Or.inr (slot_ne (Or.inl (hw _ (List.mem_of_getElem? (i := 23) rfl))) (Or.inr (hw _ (List.mem_of_getElem? (i := 12) rfl))) (by decide) (t := .int) (t' := (.array .byte)) (by decide) (by decide)))
  have K_2 := Keep.wr K_0 W2 (Or.inl (List.mem_of_getElem? (i := 0) rfl))
  refine own_step st2 ?_
  show own_E p e below _ (T2.setTop (mkF m 9 #[.val (.ref a1), .val (.ref a2), .val (.int p3)] []))
  refine own_step (fun _ zk => XS.aloadN X2.here hx rfl (hb hby d1_9) rfl rfl zk) ?_
  show own_E p e below _ (T2.setTop (mkF m 10 #[.val (.ref a1), .val (.ref a2), .val (.int p3)] [(.ref a1)]))
  refine own_step (fun _ zk => XS.iloadN X2.here hx rfl (hb hby d1_10) rfl zk) ?_
  show own_E p e below _ (T2.setTop (mkF m 11 #[.val (.ref a1), .val (.ref a2), .val (.int p3)] [(.int p3), (.ref a1)]))
  obtain ⟨T3, h3, X3, e3, W3, st3⟩ := putF X2 hx hZ hown (host := "") (Or.inl (hw _ (List.mem_of_getElem? (i := 13) rfl))) Via.refl e2 Fp_2 E_2 (Or.inl (hw _ (List.mem_of_getElem? (i := 14) rfl))) (hw _ (List.mem_of_getElem? (i := 3) rfl)) (ty := .int) (by decide) rfl rfl (g := (mkF m 11 #[.val (.ref a1), .val (.ref a2), .val (.int p3)] [(.int p3), (.ref a1)])) rfl rfl (hb hby d1_11)
  have N3 := Fr.snoc X3 N2 g1
  have E_3 := Exa.wr W3 E_2
  have Fo_3 := Fld.other W3 Fo_2 (Or.inr (slot_ne (Or.inr (hw _ (List.mem_of_getElem? (i := 12) rfl))) (Or.inl (hw _ (List.mem_of_getElem? (i := 14) rfl))) (by decide) (t := (.array .byte)) (t' := .int) (by decide) (by decide)))
  have Fp_3 := Fld.same W3 Fp_2
  have Fd_3 := Fld.other W3 Fd_2 (Or.inr (slot_ne (Or.inl (hw _ (List.mem_of_getElem? (i := 21) rfl))) (Or.inl (hw _ (List.mem_of_getElem? (i := 14) rfl))) (by decide) (t := .long) (t' := .int) (by decide) (by decide)))
  have Fb_3 := Fld.other W3 Fb_2 (Or.inr (slot_ne (Or.inl (hw _ (List.mem_of_getElem? (i := 23) rfl))) (Or.inl (hw _ (List.mem_of_getElem? (i := 14) rfl))) (by decide) (t := .int) (t' := .int) (by decide) (by decide)))
  have K_3 := Keep.wr K_2 W3 (Or.inl (List.mem_of_getElem? (i := 0) rfl))
  refine own_step st3 ?_
  show own_E p e below _ (T3.setTop (mkF m 14 #[.val (.ref a1), .val (.ref a2), .val (.int p3)] []))
  refine own_ret X3 hlk (v := none) (fun _ => rfl) ?_ (by decide) (by decide) (fun fs hr => X3.returnOut hx Bd.returns (hb hby d1_14) hr)
  show Q1 Z a1 a2 p3 h0 n0 _ T3.heap _
  rw [e3]
  exact ⟨rfl, N3, K_3, ⟨E_3, Fo_3, Fp_3, Fd_3, Fb_3⟩⟩
theorem d2_0 : decode prog_24_method_2_code 0 = .ok (.aload_n 0, 1) := by decide +kernel
theorem d2_1 : decode prog_24_method_2_code 1 = .ok (.dup, 1) := by decide +kernel
theorem d2_2 : decode prog_24_method_2_code 2 = .ok (.getfield 17, 3) := by decide +kernel
theorem d2_5 : decode prog_24_method_2_code 5 = .ok (.lload_n 1, 1) := by decide +kernel
theorem d2_6 : decode prog_24_method_2_code 6 = .ok (.lconst 1, 1) := by decide +kernel
theorem d2_7 : decode prog_24_method_2_code 7 = .ok (.iload_n 3, 1) := by decide +kernel
theorem d2_8 : decode prog_24_method_2_code 8 = .ok (.lshl, 1) := by decide +kernel
theorem d2_9 : decode prog_24_method_2_code 9 = .ok (.lconst 1, 1) := by decide +kernel
theorem d2_10 : decode prog_24_method_2_code 10 = .ok (.lsub, 1) := by decide +kernel
theorem d2_11 : decode prog_24_method_2_code 11 = .ok (.land, 1) := by decide +kernel
theorem d2_12 : decode prog_24_method_2_code 12 = .ok (.aload_n 0, 1) := by decide +kernel
theorem d2_13 : decode prog_24_method_2_code 13 = .ok (.getfield 21, 3) := by decide +kernel
theorem d2_16 : decode prog_24_method_2_code 16 = .ok (.lshl, 1) := by decide +kernel
theorem d2_17 : decode prog_24_method_2_code 17 = .ok (.lor, 1) := by decide +kernel
theorem d2_18 : decode prog_24_method_2_code 18 = .ok (.putfield 17, 3) := by decide +kernel
theorem d2_21 : decode prog_24_method_2_code 21 = .ok (.aload_n 0, 1) := by decide +kernel
theorem d2_22 : decode prog_24_method_2_code 22 = .ok (.dup, 1) := by decide +kernel
theorem d2_23 : decode prog_24_method_2_code 23 = .ok (.getfield 21, 3) := by decide +kernel
theorem d2_26 : decode prog_24_method_2_code 26 = .ok (.iload_n 3, 1) := by decide +kernel
theorem d2_27 : decode prog_24_method_2_code 27 = .ok (.iadd, 1) := by decide +kernel
theorem d2_28 : decode prog_24_method_2_code 28 = .ok (.putfield 21, 3) := by decide +kernel
theorem d2_31 : decode prog_24_method_2_code 31 = .ok (.aload_n 0, 1) := by decide +kernel
theorem d2_32 : decode prog_24_method_2_code 32 = .ok (.getfield 21, 3) := by decide +kernel
theorem d2_35 : decode prog_24_method_2_code 35 = .ok (.bipush 32, 2) := by decide +kernel
theorem d2_37 : decode prog_24_method_2_code 37 = .ok (.if_icmp .lt 51, 3) := by decide +kernel
theorem d2_88 : decode prog_24_method_2_code 88 = .ok (.return_, 1) := by decide +kernel
theorem pn_2 : plainName "com/example/furrow/furrow/codec/BitWriter" = true := by first | (simp [plainName, overriddenIn]; done) | decide +kernel
theorem ef_2 (m : MethodId) (a1 : Addr) (p2 : Int64) (p3 : Int32)  : entryFrame m #[(.ref a1), (.long p2), (.int p3)] 4 = mkF m 0 #[.val (.ref a1), .val (.long p2), .second, .val (.int p3)] [] := by first | (simp [entryFrame, mkF, argsToLocals, Value.category]; done) | rfl
def Q2 (Z : State) (a1 : Addr) (p2 : Int64) (p3 : Int32) (b : Addr) (q : Int32) (k : Nat) (h0 : Heap) (n0 : Nat) (v : Option Value) (h : Heap) (L : List Loc) : Prop := v = none ∧ Fr n0 L ∧ Keep h0 h [a1] ∧ own_W Z h a1 b q (own_low p2 k) p3
set_option maxRecDepth 65536 in
set_option maxHeartbeats 40000000 in
theorem rm2 (l : Launch) (Z : State) (a0 : Array Value) (hw : ∀ d ∈ tables_1, d.before a0 Z = true) (ws : List Jvm.Cond) (a1 : Addr) (p2 : Int64) (p3 : Int32) (b : Addr) (q : Int32) (k : Nat) (h0 : Heap) (n0 : Nat) (Z0 : n0 ≤ h0.size) (g1 : n0 ≤ a1) (HW : own_W Z h0 a1 b q 0 0) (hk : p3 = Int32.ofNat k) (hk31 : k ≤ 31) :
    MetFree l (⟨"com/example/furrow/furrow/codec/BitWriter", "write", "(JI)V"⟩ : MethodName) (head1 (Jvm.Cond.code (⟨"com/example/furrow/furrow/codec/BitWriter", "write", "(JI)V"⟩ : MethodName) prog_24_method_2_code 4 none :: ws) ({ frames := 0, cells := 0, slots := 0, locals := 0 } : Room)) (fun zA zU => zA = #[(.ref a1), (.long p2), (.int p3)] ∧ Z.Warmed39 zU.vm ∧ zU.heap = h0) (fun _ _ _ _ _ => True) (fun _ zU zo zT => ∃ zv zL, zo = .returned zv ∧ Q2 Z a1 p2 p3 b q k h0 n0 zv zT.heap zL ∧ FrameEnd zU zo zT zL ({ frames := 0, cells := 0, slots := 0, locals := 0 } : Room).cells ({ frames := 0, cells := 0, slots := 0, locals := 0 } : Room).slots) := by
  refine MetFree.of_bodySF (plainFor_of_name pn_2) hisR ?_
  intro p e s m args below meth c s₁ Bd hml0 hP hK
  obtain ⟨rfl, hZ, hh⟩ := hP
  have hx := Bd.exec
  have hby := Bd.bytes
  have hml : c.maxLocals = 4 := hml0
  have hown : s.vm.findClass "com/example/furrow/furrow/codec/BitWriter" = some m.cls := findClass_of_methodNamed Bd.named
  have hnm := (name_of_methodNamed Bd.named Bd.method).1
  have hlk : meth.locks = false := Bd.notSynchronized
  have X0 : Stand p l e ({ frames := 0, cells := 0, slots := 0, locals := 0 } : Room) s m #[(.ref a1), (.long p2), (.int p3)] below meth c s₁ [] 0 0 := Stand.of_body Bd
  have e0 : s₁.heap = h0 := by rw [← hh, Bd.state]; rfl
  have N0 := Fr.nil n0
  refine own_step (p := p) (e := e) (below := below) (U' := s₁.setTop (mkF m 0 #[.val (.ref a1), .val (.long p2), .second, .val (.int p3)] [])) (fun _ zk => castTop (ef_2 m a1 p2 p3 ) zk) ?_
  obtain ⟨E, Fo, Fp, Fd, Fb⟩ := HW
  have K_0 : Keep h0 h0 [a1] := Keep.refl _ _
  refine own_step (fun _ zk => XS.aloadN X0.here hx rfl (hb hby d2_0) rfl rfl zk) ?_
  show own_E p e below _ (s₁.setTop (mkF m 1 #[.val (.ref a1), .val (.long p2), .second, .val (.int p3)] [(.ref a1)]))
  refine own_step (fun _ zk => XS.dup X0.here hx rfl (hb hby d2_1) rfl rfl zk) ?_
  show own_E p e below _ (s₁.setTop (mkF m 2 #[.val (.ref a1), .val (.long p2), .second, .val (.int p3)] [(.ref a1), (.ref a1)]))
  obtain ⟨T1, X1, e1, st1⟩ := getF X0 hx hZ hown (host := "") (Or.inl (hw _ (List.mem_of_getElem? (i := 20) rfl))) Via.refl e0 Fd (g := (mkF m 2 #[.val (.ref a1), .val (.long p2), .second, .val (.int p3)] [(.ref a1), (.ref a1)])) rfl rfl (hb hby d2_2)
  refine own_step st1 ?_
  show own_E p e below _ (T1.setTop (mkF m 5 #[.val (.ref a1), .val (.long p2), .second, .val (.int p3)] [(.long (0 : Int64)), (.ref a1)]))
  refine own_step (fun _ zk => Jvm.Free.XT.lloadN X1.here hx rfl (hb hby d2_5) rfl zk) ?_
  show own_E p e below _ (T1.setTop (mkF m 6 #[.val (.ref a1), .val (.long p2), .second, .val (.int p3)] [(.long p2), (.long (0 : Int64)), (.ref a1)]))
  refine own_step (fun _ zk => Jvm.Free.XT.lconst X1.here hx rfl (hb hby d2_6) zk) ?_
  show own_E p e below _ (T1.setTop (mkF m 7 #[.val (.ref a1), .val (.long p2), .second, .val (.int p3)] [(.long (1 : Int64)), (.long p2), (.long (0 : Int64)), (.ref a1)]))
  refine own_step (fun _ zk => XS.iloadN X1.here hx rfl (hb hby d2_7) rfl zk) ?_
  show own_E p e below _ (T1.setTop (mkF m 8 #[.val (.ref a1), .val (.long p2), .second, .val (.int p3)] [(.int p3), (.long (1 : Int64)), (.long p2), (.long (0 : Int64)), (.ref a1)]))
  refine own_step (fun _ zk => Jvm.Free.XT.lshl X1.here hx rfl (hb hby d2_8) rfl zk) ?_
  show own_E p e below _ (T1.setTop (mkF m 9 #[.val (.ref a1), .val (.long p2), .second, .val (.int p3)] [(.long ((1 : Int64) <<< ((p3).toInt64 &&& 63))), (.long p2), (.long (0 : Int64)), (.ref a1)]))
  refine own_step (fun _ zk => Jvm.Free.XT.lconst X1.here hx rfl (hb hby d2_9) zk) ?_
  show own_E p e below _ (T1.setTop (mkF m 10 #[.val (.ref a1), .val (.long p2), .second, .val (.int p3)] [(.long (1 : Int64)), (.long ((1 : Int64) <<< ((p3).toInt64 &&& 63))), (.long p2), (.long (0 : Int64)), (.ref a1)]))
  refine own_step (fun _ zk => Jvm.Free.XT.lsub X1.here hx rfl (hb hby d2_10) rfl zk) ?_
  show own_E p e below _ (T1.setTop (mkF m 11 #[.val (.ref a1), .val (.long p2), .second, .val (.int p3)] [(.long (((1 : Int64) <<< ((p3).toInt64 &&& 63)) - (1 : Int64))), (.long p2), (.long (0 : Int64)), (.ref a1)]))
  refine own_step (fun _ zk => Jvm.Free.XT.land X1.here hx rfl (hb hby d2_11) rfl zk) ?_
  show own_E p e below _ (T1.setTop (mkF m 12 #[.val (.ref a1), .val (.long p2), .second, .val (.int p3)] [(.long (p2 &&& (((1 : Int64) <<< ((p3).toInt64 &&& 63)) - (1 : Int64)))), (.long (0 : Int64)), (.ref a1)]))
  refine own_step (fun _ zk => XS.aloadN X1.here hx rfl (hb hby d2_12) rfl rfl zk) ?_
  show own_E p e below _ (T1.setTop (mkF m 13 #[.val (.ref a1), .val (.long p2), .second, .val (.int p3)] [(.ref a1), (.long (p2 &&& (((1 : Int64) <<< ((p3).toInt64 &&& 63)) - (1 : Int64)))), (.long (0 : Int64)), (.ref a1)]))
  obtain ⟨T2, X2, e2, st2⟩ := getF X1 hx hZ hown (host := "") (Or.inl (hw _ (List.mem_of_getElem? (i := 22) rfl))) Via.refl e1 Fb (g := (mkF m 13 #[.val (.ref a1), .val (.long p2), .second, .val (.int p3)] [(.ref a1), (.long (p2 &&& (((1 : Int64) <<< ((p3).toInt64 &&& 63)) - (1 : Int64)))), (.long (0 : Int64)), (.ref a1)])) rfl rfl (hb hby d2_13)
  refine own_step st2 ?_
  show own_E p e below _ (T2.setTop (mkF m 16 #[.val (.ref a1), .val (.long p2), .second, .val (.int p3)] [(.int (0 : Int32)), (.long (p2 &&& (((1 : Int64) <<< ((p3).toInt64 &&& 63)) - (1 : Int64)))), (.long (0 : Int64)), (.ref a1)]))
  refine own_step (fun _ zk => Jvm.Free.XT.lshl X2.here hx rfl (hb hby d2_16) rfl zk) ?_
  show own_E p e below _ (T2.setTop (mkF m 17 #[.val (.ref a1), .val (.long p2), .second, .val (.int p3)] [(.long ((p2 &&& (((1 : Int64) <<< ((p3).toInt64 &&& 63)) - (1 : Int64))) <<< (((0 : Int32)).toInt64 &&& 63))), (.long (0 : Int64)), (.ref a1)]))
  refine own_step (fun _ zk => Jvm.Free.XT.lor X2.here hx rfl (hb hby d2_17) rfl zk) ?_
  show own_E p e below _ (T2.setTop (mkF m 18 #[.val (.ref a1), .val (.long p2), .second, .val (.int p3)] [(.long ((0 : Int64) ||| ((p2 &&& (((1 : Int64) <<< ((p3).toInt64 &&& 63)) - (1 : Int64))) <<< (((0 : Int32)).toInt64 &&& 63)))), (.ref a1)]))
  obtain ⟨T3, h3, X3, e3, W3, st3⟩ := putF X2 hx hZ hown (host := "") (Or.inl (hw _ (List.mem_of_getElem? (i := 20) rfl))) Via.refl e2 Fd E (Or.inl (hw _ (List.mem_of_getElem? (i := 21) rfl))) (hw _ (List.mem_of_getElem? (i := 3) rfl)) (ty := .long) (by decide) rfl rfl (g := (mkF m 18 #[.val (.ref a1), .val (.long p2), .second, .val (.int p3)] [(.long ((0 : Int64) ||| ((p2 &&& (((1 : Int64) <<< ((p3).toInt64 &&& 63)) - (1 : Int64))) <<< (((0 : Int32)).toInt64 &&& 63)))), (.ref a1)])) rfl rfl (hb hby d2_18)
  have N3 := Fr.snoc X3 N0 g1
  have E_3 := Exa.wr W3 E
  have Fo_3 := Fld.other W3 Fo (Or.inr (slot_ne (Or.inr (hw _ (List.mem_of_getElem? (i := 12) rfl))) (Or.inl (hw _ (List.mem_of_getElem? (i := 21) rfl))) (by decide) (t := (.array .byte)) (t' := .long) (by decide) (by decide)))
  have Fp_3 := Fld.other W3 Fp (Or.inr (slot_ne (Or.inl (hw _ (List.mem_of_getElem? (i := 14) rfl))) (Or.inl (hw _ (List.mem_of_getElem? (i := 21) rfl))) (by decide) (t := .int) (t' := .long) (by decide) (by decide)))
  have Fd_3 := Fld.same W3 Fd
  have Fb_3 := Fld.other W3 Fb (Or.inr (slot_ne (Or.inl (hw _ (List.mem_of_getElem? (i := 23) rfl))) (Or.inl (hw _ (List.mem_of_getElem? (i := 21) rfl))) (by decide) (t := .int) (t' := .long) (by decide) (by decide)))
  have K_3 := Keep.wr K_0 W3 (Or.inl (List.mem_of_getElem? (i := 0) rfl))
  refine own_step st3 ?_
  show own_E p e below _ (T3.setTop (mkF m 21 #[.val (.ref a1), .val (.long p2), .second, .val (.int p3)] []))
  refine own_step (fun _ zk => XS.aloadN X3.here hx rfl (hb hby d2_21) rfl rfl zk) ?_
  show own_E p e below _ (T3.setTop (mkF m 22 #[.val (.ref a1), .val (.long p2), .second, .val (.int p3)] [(.ref a1)]))
  refine own_step (fun _ zk => XS.dup X3.here hx rfl (hb hby d2_22) rfl rfl zk) ?_
  show own_E p e below _ (T3.setTop (mkF m 23 #[.val (.ref a1), .val (.long p2), .second, .val (.int p3)] [(.ref a1), (.ref a1)]))
  obtain ⟨T4, X4, e4, st4⟩ := getF X3 hx hZ hown (host := "") (Or.inl (hw _ (List.mem_of_getElem? (i := 22) rfl))) Via.refl e3 Fb_3 (g := (mkF m 23 #[.val (.ref a1), .val (.long p2), .second, .val (.int p3)] [(.ref a1), (.ref a1)])) rfl rfl (hb hby d2_23)
  refine own_step st4 ?_
  show own_E p e below _ (T4.setTop (mkF m 26 #[.val (.ref a1), .val (.long p2), .second, .val (.int p3)] [(.int (0 : Int32)), (.ref a1)]))
  refine own_step (fun _ zk => XS.iloadN X4.here hx rfl (hb hby d2_26) rfl zk) ?_
  show own_E p e below _ (T4.setTop (mkF m 27 #[.val (.ref a1), .val (.long p2), .second, .val (.int p3)] [(.int p3), (.int (0 : Int32)), (.ref a1)]))
  refine own_step (fun _ zk => XS.iadd X4.here hx rfl (hb hby d2_27) rfl zk) ?_
  show own_E p e below _ (T4.setTop (mkF m 28 #[.val (.ref a1), .val (.long p2), .second, .val (.int p3)] [(.int ((0 : Int32) + p3)), (.ref a1)]))
  obtain ⟨T5, h5, X5, e5, W5, st5⟩ := putF X4 hx hZ hown (host := "") (Or.inl (hw _ (List.mem_of_getElem? (i := 22) rfl))) Via.refl e4 Fb_3 E_3 (Or.inl (hw _ (List.mem_of_getElem? (i := 23) rfl))) (hw _ (List.mem_of_getElem? (i := 3) rfl)) (ty := .int) (by decide) rfl rfl (g := (mkF m 28 #[.val (.ref a1), .val (.long p2), .second, .val (.int p3)] [(.int ((0 : Int32) + p3)), (.ref a1)])) rfl rfl (hb hby d2_28)
  have N5 := Fr.snoc X5 N3 g1
  have E_5 := Exa.wr W5 E_3
  have Fo_5 := Fld.other W5 Fo_3 (Or.inr (slot_ne (Or.inr (hw _ (List.mem_of_getElem? (i := 12) rfl))) (Or.inl (hw _ (List.mem_of_getElem? (i := 23) rfl))) (by decide) (t := (.array .byte)) (t' := .int) (by decide) (by decide)))
  have Fp_5 := Fld.other W5 Fp_3 (Or.inr (slot_ne (Or.inl (hw _ (List.mem_of_getElem? (i := 14) rfl))) (Or.inl (hw _ (List.mem_of_getElem? (i := 23) rfl))) (by decide) (t := .int) (t' := .int) (by decide) (by decide)))
  have Fd_5 := Fld.other W5 Fd_3 (Or.inr (slot_ne (Or.inl (hw _ (List.mem_of_getElem? (i := 21) rfl))) (Or.inl (hw _ (List.mem_of_getElem? (i := 23) rfl))) (by decide) (t := .long) (t' := .int) (by decide) (by decide)))
  have Fb_5 := Fld.same W5 Fb_3
  have K_5 := Keep.wr K_3 W5 (Or.inl (List.mem_of_getElem? (i := 0) rfl))
  refine own_step st5 ?_
  show own_E p e below _ (T5.setTop (mkF m 31 #[.val (.ref a1), .val (.long p2), .second, .val (.int p3)] []))
  refine own_step (fun _ zk => XS.aloadN X5.here hx rfl (hb hby d2_31) rfl rfl zk) ?_
  show own_E p e below _ (T5.setTop (mkF m 32 #[.val (.ref a1), .val (.long p2), .second, .val (.int p3)] [(.ref a1)]))
  obtain ⟨T6, X6, e6, st6⟩ := getF X5 hx hZ hown (host := "") (Or.inl (hw _ (List.mem_of_getElem? (i := 22) rfl))) Via.refl e5 Fb_5 (g := (mkF m 32 #[.val (.ref a1), .val (.long p2), .second, .val (.int p3)] [(.ref a1)])) rfl rfl (hb hby d2_32)
  refine own_step st6 ?_
  show own_E p e below _ (T6.setTop (mkF m 35 #[.val (.ref a1), .val (.long p2), .second, .val (.int p3)] [(.int ((0 : Int32) + p3))]))
  refine own_step (fun _ zk => XS.bipush X6.here hx rfl (hb hby d2_35) zk) ?_
  show own_E p e below _ (T6.setTop (mkF m 37 #[.val (.ref a1), .val (.long p2), .second, .val (.int p3)] [(.int (32 : Int32)), (.int ((0 : Int32) + p3))]))
  refine own_step (fun _ zk => XS.icmpYes X6.here hx rfl (pc0 := 37) (pc' := 88) rfl (hb hby d2_37) rfl (tlt (own_wlt hk hk31)).1 (by decide) (by decide) zk) ?_
  show own_E p e below _ (T6.setTop (mkF m 88 #[.val (.ref a1), .val (.long p2), .second, .val (.int p3)] []))
  refine own_ret X6 hlk (v := none) (fun _ => rfl) ?_ (by decide) (by decide) (fun fs hr => X6.returnOut hx Bd.returns (hb hby d2_88) hr)
  show Q2 Z a1 p2 p3 b q k h0 n0 _ T6.heap _
  rw [e6]
  have q1 := Fd_5
  have q2 := Fb_5
  rw [own_low_w p2 hk hk31] at q1
  rw [show (0 : Int32) + p3 = p3 by simp] at q2
  exact ⟨rfl, N5, K_5, E_5, Fo_5, Fp_5, q1, q2⟩
theorem d3_0 : decode prog_24_method_3_code 0 = .ok (.aload_n 0, 1) := by decide +kernel
theorem d3_1 : decode prog_24_method_3_code 1 = .ok (.getfield 21, 3) := by decide +kernel
theorem d3_4 : decode prog_24_method_3_code 4 = .ok (.ifCond .le 50, 3) := by decide +kernel
theorem d3_7 : decode prog_24_method_3_code 7 = .ok (.aload_n 0, 1) := by decide +kernel
theorem d3_8 : decode prog_24_method_3_code 8 = .ok (.getfield 7, 3) := by decide +kernel
theorem d3_11 : decode prog_24_method_3_code 11 = .ok (.aload_n 0, 1) := by decide +kernel
theorem d3_12 : decode prog_24_method_3_code 12 = .ok (.dup, 1) := by decide +kernel
theorem d3_13 : decode prog_24_method_3_code 13 = .ok (.getfield 13, 3) := by decide +kernel
theorem d3_16 : decode prog_24_method_3_code 16 = .ok (.dup_x1, 1) := by decide +kernel
theorem d3_17 : decode prog_24_method_3_code 17 = .ok (.iconst 1, 1) := by decide +kernel
theorem d3_18 : decode prog_24_method_3_code 18 = .ok (.iadd, 1) := by decide +kernel
theorem d3_19 : decode prog_24_method_3_code 19 = .ok (.putfield 13, 3) := by decide +kernel
theorem d3_22 : decode prog_24_method_3_code 22 = .ok (.aload_n 0, 1) := by decide +kernel
theorem d3_23 : decode prog_24_method_3_code 23 = .ok (.getfield 17, 3) := by decide +kernel
theorem d3_26 : decode prog_24_method_3_code 26 = .ok (.l2i, 1) := by decide +kernel
theorem d3_27 : decode prog_24_method_3_code 27 = .ok (.i2b, 1) := by decide +kernel
theorem d3_28 : decode prog_24_method_3_code 28 = .ok (.bastore, 1) := by decide +kernel
theorem d3_29 : decode prog_24_method_3_code 29 = .ok (.aload_n 0, 1) := by decide +kernel
theorem d3_30 : decode prog_24_method_3_code 30 = .ok (.dup, 1) := by decide +kernel
theorem d3_31 : decode prog_24_method_3_code 31 = .ok (.getfield 17, 3) := by decide +kernel
theorem d3_34 : decode prog_24_method_3_code 34 = .ok (.bipush 8, 2) := by decide +kernel
theorem d3_36 : decode prog_24_method_3_code 36 = .ok (.lushr, 1) := by decide +kernel
theorem d3_37 : decode prog_24_method_3_code 37 = .ok (.putfield 17, 3) := by decide +kernel
theorem d3_40 : decode prog_24_method_3_code 40 = .ok (.aload_n 0, 1) := by decide +kernel
theorem d3_41 : decode prog_24_method_3_code 41 = .ok (.dup, 1) := by decide +kernel
theorem d3_42 : decode prog_24_method_3_code 42 = .ok (.getfield 21, 3) := by decide +kernel
theorem d3_45 : decode prog_24_method_3_code 45 = .ok (.bipush 8, 2) := by decide +kernel
theorem d3_47 : decode prog_24_method_3_code 47 = .ok (.isub, 1) := by decide +kernel
theorem d3_48 : decode prog_24_method_3_code 48 = .ok (.putfield 21, 3) := by decide +kernel
theorem d3_51 : decode prog_24_method_3_code 51 = .ok (.goto (-51), 3) := by decide +kernel
theorem d3_54 : decode prog_24_method_3_code 54 = .ok (.aload_n 0, 1) := by decide +kernel
theorem d3_55 : decode prog_24_method_3_code 55 = .ok (.iconst 0, 1) := by decide +kernel
theorem d3_56 : decode prog_24_method_3_code 56 = .ok (.putfield 21, 3) := by decide +kernel
theorem d3_59 : decode prog_24_method_3_code 59 = .ok (.aload_n 0, 1) := by decide +kernel
theorem d3_60 : decode prog_24_method_3_code 60 = .ok (.getfield 13, 3) := by decide +kernel
theorem d3_63 : decode prog_24_method_3_code 63 = .ok (.ireturn, 1) := by decide +kernel
theorem pn_3 : plainName "com/example/furrow/furrow/codec/BitWriter" = true := by first | (simp [plainName, overriddenIn]; done) | decide +kernel
theorem ef_3 (m : MethodId) (a1 : Addr)  : entryFrame m #[(.ref a1)] 1 = mkF m 0 #[.val (.ref a1)] [] := by first | (simp [entryFrame, mkF, argsToLocals, Value.category]; done) | rfl
def Q3 (Z : State) (a1 : Addr) (b : Addr) (p0 : Int64) (k P : Nat) (g : Nat → Int32) (h0 : Heap) (n0 : Nat) (v : Option Value) (h : Heap) (L : List Loc) : Prop := v = some (.int (Int32.ofNat (P + own_nb k))) ∧ Fr n0 L ∧ Keep h0 h [a1, b] ∧ own_W Z h a1 b (Int32.ofNat (P + own_nb k)) 0 0 ∧ own_A Z h b .byte 16 (fun j => .int (own_pat (own_low p0 k) P (own_nb k) g j))
set_option maxRecDepth 65536 in
set_option maxHeartbeats 40000000 in
theorem rm3 (l : Launch) (Z : State) (a0 : Array Value) (hw : ∀ d ∈ tables_1, d.before a0 Z = true) (ws : List Jvm.Cond) (a1 : Addr) (b : Addr) (p0 : Int64) (k P : Nat) (g : Nat → Int32) (h0 : Heap) (n0 : Nat) (Z0 : n0 ≤ h0.size) (g1 : n0 ≤ a1) (g2 : n0 ≤ b) (ne1 : a1 ≠ b) (HW : own_W Z h0 a1 b (Int32.ofNat P) (own_low p0 k) (Int32.ofNat k)) (A : own_A Z h0 b .byte 16 (fun j => .int (g j))) (hk31 : k ≤ 31) (hP : P ≤ 11) :
    MetFree l (⟨"com/example/furrow/furrow/codec/BitWriter", "pad", "()I"⟩ : MethodName) (head1 (Jvm.Cond.code (⟨"com/example/furrow/furrow/codec/BitWriter", "pad", "()I"⟩ : MethodName) prog_24_method_3_code 1 (some .int) :: ws) ({ frames := 0, cells := 0, slots := 0, locals := 0 } : Room)) (fun zA zU => zA = #[(.ref a1)] ∧ Z.Warmed39 zU.vm ∧ zU.heap = h0) (fun _ _ _ _ _ => True) (fun _ zU zo zT => ∃ zv zL, zo = .returned zv ∧ Q3 Z a1 b p0 k P g h0 n0 zv zT.heap zL ∧ FrameEnd zU zo zT zL ({ frames := 0, cells := 0, slots := 0, locals := 0 } : Room).cells ({ frames := 0, cells := 0, slots := 0, locals := 0 } : Room).slots) := by
  refine MetFree.of_bodySF (plainFor_of_name pn_3) hisR ?_
  intro p e s m args below meth c s₁ Bd hml0 hP hK
  obtain ⟨rfl, hZ, hh⟩ := hP
  have hx := Bd.exec
  have hby := Bd.bytes
  have hml : c.maxLocals = 1 := hml0
  have hown : s.vm.findClass "com/example/furrow/furrow/codec/BitWriter" = some m.cls := findClass_of_methodNamed Bd.named
  have hnm := (name_of_methodNamed Bd.named Bd.method).1
  have hlk : meth.locks = false := Bd.notSynchronized
  have X0 : Stand p l e ({ frames := 0, cells := 0, slots := 0, locals := 0 } : Room) s m #[(.ref a1)] below meth c s₁ [] 0 0 := Stand.of_body Bd
  have e0 : s₁.heap = h0 := by rw [← hh, Bd.state]; rfl
  have N0 := Fr.nil n0
  refine own_step (p := p) (e := e) (below := below) (U' := s₁.setTop (mkF m 0 #[.val (.ref a1)] [])) (fun _ zk => castTop (ef_3 m a1 ) zk) ?_
  obtain ⟨E, Fo, Fp, Fd, Fb⟩ := HW
  have K_0 : Keep h0 h0 [a1, b] := Keep.refl _ _
  have loop : ∀ (r t : Nat) (T : State) (locs : List Loc) (h : Heap) (q kb : Int32) (d : Int64), t + r = own_nb k → Stand p l e ({ frames := 0, cells := 0, slots := 0, locals := 0 } : Room) s m #[(.ref a1)] below meth c T locs 0 0 → T.heap = h → Fr n0 locs → Keep h0 h [a1, b] → Exa Z h a1 "com/example/furrow/furrow/codec/BitWriter" → Fld Z h a1 "com/example/furrow/furrow/codec/BitWriter" "output" "[B" (.ref b) → Fld Z h a1 "com/example/furrow/furrow/codec/BitWriter" "position" "I" (.int q) → Fld Z h a1 "com/example/furrow/furrow/codec/BitWriter" "pending" "J" (.long d) → Fld Z h a1 "com/example/furrow/furrow/codec/BitWriter" "pendingBits" "I" (.int kb) → own_A Z h b .byte 16 (fun j => .int (own_pat (own_low p0 k) P t g j)) → q.toInt = ((P + t : Nat) : Int) → kb.toInt = (k : Int) - 8 * t → d = own_shr (own_low p0 k) t → own_E p e below (fun (zT : State) (zo : Outcome) => ∃ zv zL, zo = .returned zv ∧ Q3 Z a1 b p0 k P g h0 n0 zv zT.heap zL ∧ FrameEnd s zo zT zL ({ frames := 0, cells := 0, slots := 0, locals := 0 } : Room).cells ({ frames := 0, cells := 0, slots := 0, locals := 0 } : Room).slots) (T.setTop (mkF m 0 #[.val (.ref a1)] [])) := by
    intro r
    induction r with
    | zero =>
      intro t T locs h q kb d hr X eT N K E Fo Fp Fd Fb A hq hkb hd
      have hnb : own_nb k ≤ 4 := by unfold own_nb; omega
      have hc4 : ¬ (0 : Int32) < kb := own_kb1 hkb (by unfold own_nb at hr; omega)
      refine own_step (fun _ zk => XS.aloadN X.here hx rfl (hb hby d3_0) rfl rfl zk) ?_
      show own_E p e below _ (T.setTop (mkF m 1 #[.val (.ref a1)] [(.ref a1)]))
      obtain ⟨T1, X1, e1, st1⟩ := getF X hx hZ hown (host := "") (Or.inl (hw _ (List.mem_of_getElem? (i := 22) rfl))) Via.refl eT Fb (g := (mkF m 1 #[.val (.ref a1)] [(.ref a1)])) rfl rfl (hb hby d3_1)
      refine own_step st1 ?_
      show own_E p e below _ (T1.setTop (mkF m 4 #[.val (.ref a1)] [(.int kb)]))
      refine own_step (fun _ zk => XS.ifYes X1.here hx rfl (pc0 := 4) (pc' := 54) rfl (hb hby d3_4) rfl ((if0 _ _).trans (flt hc4).2.2.2) (by decide) (by decide) zk) ?_
      show own_E p e below _ (T1.setTop (mkF m 54 #[.val (.ref a1)] []))
      refine own_step (fun _ zk => XS.aloadN X1.here hx rfl (hb hby d3_54) rfl rfl zk) ?_
      show own_E p e below _ (T1.setTop (mkF m 55 #[.val (.ref a1)] [(.ref a1)]))
      refine own_step (fun _ zk => XS.iconst X1.here hx rfl (hb hby d3_55) zk) ?_
      show own_E p e below _ (T1.setTop (mkF m 56 #[.val (.ref a1)] [(.int (0 : Int32)), (.ref a1)]))
      obtain ⟨T2, h2, X2, e2, W2, st2⟩ := putF X1 hx hZ hown (host := "") (Or.inl (hw _ (List.mem_of_getElem? (i := 22) rfl))) Via.refl e1 Fb E (Or.inl (hw _ (List.mem_of_getElem? (i := 23) rfl))) (hw _ (List.mem_of_getElem? (i := 3) rfl)) (ty := .int) (by decide) rfl rfl (g := (mkF m 56 #[.val (.ref a1)] [(.int (0 : Int32)), (.ref a1)])) rfl rfl (hb hby d3_56)
      have N2 := Fr.snoc X2 N g1
      have E_2 := Exa.wr W2 E
      have Fo_2 := Fld.other W2 Fo (Or.inr (slot_ne (Or.inr (hw _ (List.mem_of_getElem? (i := 12) rfl))) (Or.inl (hw _ (List.mem_of_getElem? (i := 23) rfl))) (by decide) (t := (.array .byte)) (t' := .int) (by decide) (by decide)))
      have Fp_2 := Fld.other W2 Fp (Or.inr (slot_ne (Or.inl (hw _ (List.mem_of_getElem? (i := 14) rfl))) (Or.inl (hw _ (List.mem_of_getElem? (i := 23) rfl))) (by decide) (t := .int) (t' := .int) (by decide) (by decide)))
      have Fd_2 := Fld.other W2 Fd (Or.inr (slot_ne (Or.inl (hw _ (List.mem_of_getElem? (i := 21) rfl))) (Or.inl (hw _ (List.mem_of_getElem? (i := 23) rfl))) (by decide) (t := .long) (t' := .int) (by decide) (by decide)))
      have Fb_2 := Fld.same W2 Fb
      have A_2 := own_A_other W2 (Ne.symm ne1) A
      have K_2 := Keep.wr K W2 (Or.inl (List.mem_of_getElem? (i := 0) rfl))
      refine own_step st2 ?_
      show own_E p e below _ (T2.setTop (mkF m 59 #[.val (.ref a1)] []))
      refine own_step (fun _ zk => XS.aloadN X2.here hx rfl (hb hby d3_59) rfl rfl zk) ?_
      show own_E p e below _ (T2.setTop (mkF m 60 #[.val (.ref a1)] [(.ref a1)]))
      obtain ⟨T3, X3, e3, st3⟩ := getF X2 hx hZ hown (host := "") (Or.inl (hw _ (List.mem_of_getElem? (i := 13) rfl))) Via.refl e2 Fp_2 (g := (mkF m 60 #[.val (.ref a1)] [(.ref a1)])) rfl rfl (hb hby d3_60)
      refine own_step st3 ?_
      show own_E p e below _ (T3.setTop (mkF m 63 #[.val (.ref a1)] [(.int q)]))
      refine own_ret X3 hlk (v := some (.int q)) (fun h => by rw [Bd.returns] at h; cases h) ?_ (by decide) (by decide) (fun fs hr => retI X3 hx Bd.returns (hb hby d3_63) hr)
      show Q3 Z a1 b p0 k P g h0 n0 _ T3.heap _
      rw [e3]
      refine ⟨?_, N2, K_2, ⟨E_2, Fo_2, ?_, ?_, Fb_2⟩, ?_⟩
      · rw [own_qq hq (by omega), show P + t = P + own_nb k by omega]
      · have z := Fp_2
        rw [own_qq hq (by omega), show P + t = P + own_nb k by omega] at z; exact z
      · have z := Fd_2
        rw [hd, show t = own_nb k by omega, own_shr_end p0 k (own_nb k) hk31 (by unfold own_nb; omega) (by unfold own_nb; omega)] at z; exact z
      · have z := A_2
        rw [show t = own_nb k by omega] at z; exact z
    | succ r ih =>
      intro t T locs h q kb d hr X eT N K E Fo Fp Fd Fb A hq hkb hd
      have hnb : own_nb k ≤ 4 := by unfold own_nb; omega
      have hc4 : (0 : Int32) < kb := own_kb2 hkb (by unfold own_nb at hr; omega)
      refine own_step (fun _ zk => XS.aloadN X.here hx rfl (hb hby d3_0) rfl rfl zk) ?_
      show own_E p e below _ (T.setTop (mkF m 1 #[.val (.ref a1)] [(.ref a1)]))
      obtain ⟨T4, X4, e4, st4⟩ := getF X hx hZ hown (host := "") (Or.inl (hw _ (List.mem_of_getElem? (i := 22) rfl))) Via.refl eT Fb (g := (mkF m 1 #[.val (.ref a1)] [(.ref a1)])) rfl rfl (hb hby d3_1)
      refine own_step st4 ?_
      show own_E p e below _ (T4.setTop (mkF m 4 #[.val (.ref a1)] [(.int kb)]))
      refine own_step (fun _ zk => XS.ifNo X4.here hx rfl (hb hby d3_4) rfl ((if0 _ _).trans (tlt hc4).2.2.2) zk) ?_
      show own_E p e below _ (T4.setTop (mkF m 7 #[.val (.ref a1)] []))
      refine own_step (fun _ zk => XS.aloadN X4.here hx rfl (hb hby d3_7) rfl rfl zk) ?_
      show own_E p e below _ (T4.setTop (mkF m 8 #[.val (.ref a1)] [(.ref a1)]))
      obtain ⟨T5, X5, e5, st5⟩ := getF X4 hx hZ hown (host := "") (Or.inl (hw _ (List.mem_of_getElem? (i := 11) rfl))) Via.refl e4 Fo (g := (mkF m 8 #[.val (.ref a1)] [(.ref a1)])) rfl rfl (hb hby d3_8)
      refine own_step st5 ?_
      show own_E p e below _ (T5.setTop (mkF m 11 #[.val (.ref a1)] [(.ref b)]))
      refine own_step (fun _ zk => XS.aloadN X5.here hx rfl (hb hby d3_11) rfl rfl zk) ?_
      show own_E p e below _ (T5.setTop (mkF m 12 #[.val (.ref a1)] [(.ref a1), (.ref b)]))
      refine own_step (fun _ zk => XS.dup X5.here hx rfl (hb hby d3_12) rfl rfl zk) ?_
      show own_E p e below _ (T5.setTop (mkF m 13 #[.val (.ref a1)] [(.ref a1), (.ref a1), (.ref b)]))
      obtain ⟨T6, X6, e6, st6⟩ := getF X5 hx hZ hown (host := "") (Or.inl (hw _ (List.mem_of_getElem? (i := 13) rfl))) Via.refl e5 Fp (g := (mkF m 13 #[.val (.ref a1)] [(.ref a1), (.ref a1), (.ref b)])) rfl rfl (hb hby d3_13)
      refine own_step st6 ?_
      show own_E p e below _ (T6.setTop (mkF m 16 #[.val (.ref a1)] [(.int q), (.ref a1), (.ref b)]))
      refine own_step (fun _ zk => Jvm.Free.XT.dupX1 X6.here hx rfl (hb hby d3_16) rfl rfl rfl zk) ?_
      show own_E p e below _ (T6.setTop (mkF m 17 #[.val (.ref a1)] [(.int q), (.ref a1), (.int q), (.ref b)]))
      refine own_step (fun _ zk => XS.iconst X6.here hx rfl (hb hby d3_17) zk) ?_
      show own_E p e below _ (T6.setTop (mkF m 18 #[.val (.ref a1)] [(.int (1 : Int32)), (.int q), (.ref a1), (.int q), (.ref b)]))
      refine own_step (fun _ zk => XS.iadd X6.here hx rfl (hb hby d3_18) rfl zk) ?_
      show own_E p e below _ (T6.setTop (mkF m 19 #[.val (.ref a1)] [(.int (q + (1 : Int32))), (.ref a1), (.int q), (.ref b)]))
      obtain ⟨T7, h7, X7, e7, W7, st7⟩ := putF X6 hx hZ hown (host := "") (Or.inl (hw _ (List.mem_of_getElem? (i := 13) rfl))) Via.refl e6 Fp E (Or.inl (hw _ (List.mem_of_getElem? (i := 14) rfl))) (hw _ (List.mem_of_getElem? (i := 3) rfl)) (ty := .int) (by decide) rfl rfl (g := (mkF m 19 #[.val (.ref a1)] [(.int (q + (1 : Int32))), (.ref a1), (.int q), (.ref b)])) rfl rfl (hb hby d3_19)
      have N7 := Fr.snoc X7 N g1
      have E_7 := Exa.wr W7 E
      have Fo_7 := Fld.other W7 Fo (Or.inr (slot_ne (Or.inr (hw _ (List.mem_of_getElem? (i := 12) rfl))) (Or.inl (hw _ (List.mem_of_getElem? (i := 14) rfl))) (by decide) (t := (.array .byte)) (t' := .int) (by decide) (by decide)))
      have Fp_7 := Fld.same W7 Fp
      have Fd_7 := Fld.other W7 Fd (Or.inr (slot_ne (Or.inl (hw _ (List.mem_of_getElem? (i := 21) rfl))) (Or.inl (hw _ (List.mem_of_getElem? (i := 14) rfl))) (by decide) (t := .long) (t' := .int) (by decide) (by decide)))
      have Fb_7 := Fld.other W7 Fb (Or.inr (slot_ne (Or.inl (hw _ (List.mem_of_getElem? (i := 23) rfl))) (Or.inl (hw _ (List.mem_of_getElem? (i := 14) rfl))) (by decide) (t := .int) (t' := .int) (by decide) (by decide)))
      have A_7 := own_A_other W7 (Ne.symm ne1) A
      have K_7 := Keep.wr K W7 (Or.inl (List.mem_of_getElem? (i := 0) rfl))
      refine own_step st7 ?_
      show own_E p e below _ (T7.setTop (mkF m 22 #[.val (.ref a1)] [(.int q), (.ref b)]))
      refine own_step (fun _ zk => XS.aloadN X7.here hx rfl (hb hby d3_22) rfl rfl zk) ?_
      show own_E p e below _ (T7.setTop (mkF m 23 #[.val (.ref a1)] [(.ref a1), (.int q), (.ref b)]))
      obtain ⟨T8, X8, e8, st8⟩ := getF X7 hx hZ hown (host := "") (Or.inl (hw _ (List.mem_of_getElem? (i := 20) rfl))) Via.refl e7 Fd_7 (g := (mkF m 23 #[.val (.ref a1)] [(.ref a1), (.int q), (.ref b)])) rfl rfl (hb hby d3_23)
      refine own_step st8 ?_
      show own_E p e below _ (T8.setTop (mkF m 26 #[.val (.ref a1)] [(.long d), (.int q), (.ref b)]))
      refine own_step (fun _ zk => Jvm.Free.XT.l2i X8.here hx rfl (hb hby d3_26) rfl zk) ?_
      show own_E p e below _ (T8.setTop (mkF m 27 #[.val (.ref a1)] [(.int (Int64.toInt32 d)), (.int q), (.ref b)]))
      refine own_step (fun _ zk => Jvm.Free.XT.i2b X8.here hx rfl (hb hby d3_27) rfl zk) ?_
      show own_E p e below _ (T8.setTop (mkF m 28 #[.val (.ref a1)] [(.int (Int8.toInt32 (Int32.toInt8 (Int64.toInt32 d)))), (.int q), (.ref b)]))
      obtain ⟨T9, h9, X9, e9, W9, st9⟩ := own_stB X8 hx hZ e8 A_7 (P + t) hq (by omega) (g := (mkF m 28 #[.val (.ref a1)] [(.int (Int8.toInt32 (Int32.toInt8 (Int64.toInt32 d)))), (.int q), (.ref b)])) rfl rfl (hb hby d3_28)
      have N9 := Fr.snoc X9 N7 g2
      have E_9 := Exa.wr W9 E_7
      have Fo_9 := Fld.other W9 Fo_7 (Or.inl ne1)
      have Fp_9 := Fld.other W9 Fp_7 (Or.inl ne1)
      have Fd_9 := Fld.other W9 Fd_7 (Or.inl ne1)
      have Fb_9 := Fld.other W9 Fb_7 (Or.inl ne1)
      have A_9 := own_A_set W9 A_7
      have K_9 := Keep.wr K_7 W9 (Or.inl (List.mem_of_getElem? (i := 1) rfl))
      replace A_9 := own_A_eq (f' := (fun j => .int (own_pat (own_low p0 k) P (t + 1) g j))) A_9 (own_pat_v (by rw [hd]; rfl))
      refine own_step st9 ?_
      show own_E p e below _ (T9.setTop (mkF m 29 #[.val (.ref a1)] []))
      refine own_step (fun _ zk => XS.aloadN X9.here hx rfl (hb hby d3_29) rfl rfl zk) ?_
      show own_E p e below _ (T9.setTop (mkF m 30 #[.val (.ref a1)] [(.ref a1)]))
      refine own_step (fun _ zk => XS.dup X9.here hx rfl (hb hby d3_30) rfl rfl zk) ?_
      show own_E p e below _ (T9.setTop (mkF m 31 #[.val (.ref a1)] [(.ref a1), (.ref a1)]))
      obtain ⟨T10, X10, e10, st10⟩ := getF X9 hx hZ hown (host := "") (Or.inl (hw _ (List.mem_of_getElem? (i := 20) rfl))) Via.refl e9 Fd_9 (g := (mkF m 31 #[.val (.ref a1)] [(.ref a1), (.ref a1)])) rfl rfl (hb hby d3_31)
      refine own_step st10 ?_
      show own_E p e below _ (T10.setTop (mkF m 34 #[.val (.ref a1)] [(.long d), (.ref a1)]))
      refine own_step (fun _ zk => XS.bipush X10.here hx rfl (hb hby d3_34) zk) ?_
      show own_E p e below _ (T10.setTop (mkF m 36 #[.val (.ref a1)] [(.int (8 : Int32)), (.long d), (.ref a1)]))
      refine own_step (fun _ zk => Jvm.Free.XT.lushr X10.here hx rfl (hb hby d3_36) rfl zk) ?_
      show own_E p e below _ (T10.setTop (mkF m 37 #[.val (.ref a1)] [(.long (Jvm.Free.XT.ushrL d (8 : Int32))), (.ref a1)]))
      obtain ⟨T11, h11, X11, e11, W11, st11⟩ := putF X10 hx hZ hown (host := "") (Or.inl (hw _ (List.mem_of_getElem? (i := 20) rfl))) Via.refl e10 Fd_9 E_9 (Or.inl (hw _ (List.mem_of_getElem? (i := 21) rfl))) (hw _ (List.mem_of_getElem? (i := 3) rfl)) (ty := .long) (by decide) rfl rfl (g := (mkF m 37 #[.val (.ref a1)] [(.long (Jvm.Free.XT.ushrL d (8 : Int32))), (.ref a1)])) rfl rfl (hb hby d3_37)
      have N11 := Fr.snoc X11 N9 g1
      have E_11 := Exa.wr W11 E_9
      have Fo_11 := Fld.other W11 Fo_9 (Or.inr (slot_ne (Or.inr (hw _ (List.mem_of_getElem? (i := 12) rfl))) (Or.inl (hw _ (List.mem_of_getElem? (i := 21) rfl))) (by decide) (t := (.array .byte)) (t' := .long) (by decide) (by decide)))
      have Fp_11 := Fld.other W11 Fp_9 (Or.inr (slot_ne (Or.inl (hw _ (List.mem_of_getElem? (i := 14) rfl))) (Or.inl (hw _ (List.mem_of_getElem? (i := 21) rfl))) (by decide) (t := .int) (t' := .long) (by decide) (by decide)))
      have Fd_11 := Fld.same W11 Fd_9
      have Fb_11 := Fld.other W11 Fb_9 (Or.inr (slot_ne (Or.inl (hw _ (List.mem_of_getElem? (i := 23) rfl))) (Or.inl (hw _ (List.mem_of_getElem? (i := 21) rfl))) (by decide) (t := .int) (t' := .long) (by decide) (by decide)))
      have A_11 := own_A_other W11 (Ne.symm ne1) A_9
      have K_11 := Keep.wr K_9 W11 (Or.inl (List.mem_of_getElem? (i := 0) rfl))
      refine own_step st11 ?_
      show own_E p e below _ (T11.setTop (mkF m 40 #[.val (.ref a1)] []))
      refine own_step (fun _ zk => XS.aloadN X11.here hx rfl (hb hby d3_40) rfl rfl zk) ?_
      show own_E p e below _ (T11.setTop (mkF m 41 #[.val (.ref a1)] [(.ref a1)]))
      refine own_step (fun _ zk => XS.dup X11.here hx rfl (hb hby d3_41) rfl rfl zk) ?_
      show own_E p e below _ (T11.setTop (mkF m 42 #[.val (.ref a1)] [(.ref a1), (.ref a1)]))
      obtain ⟨T12, X12, e12, st12⟩ := getF X11 hx hZ hown (host := "") (Or.inl (hw _ (List.mem_of_getElem? (i := 22) rfl))) Via.refl e11 Fb_11 (g := (mkF m 42 #[.val (.ref a1)] [(.ref a1), (.ref a1)])) rfl rfl (hb hby d3_42)
      refine own_step st12 ?_
      show own_E p e below _ (T12.setTop (mkF m 45 #[.val (.ref a1)] [(.int kb), (.ref a1)]))
      refine own_step (fun _ zk => XS.bipush X12.here hx rfl (hb hby d3_45) zk) ?_
      show own_E p e below _ (T12.setTop (mkF m 47 #[.val (.ref a1)] [(.int (8 : Int32)), (.int kb), (.ref a1)]))
      refine own_step (fun _ zk => XS.isub X12.here hx rfl (hb hby d3_47) rfl zk) ?_
      show own_E p e below _ (T12.setTop (mkF m 48 #[.val (.ref a1)] [(.int (kb - (8 : Int32))), (.ref a1)]))
      obtain ⟨T13, h13, X13, e13, W13, st13⟩ := putF X12 hx hZ hown (host := "") (Or.inl (hw _ (List.mem_of_getElem? (i := 22) rfl))) Via.refl e12 Fb_11 E_11 (Or.inl (hw _ (List.mem_of_getElem? (i := 23) rfl))) (hw _ (List.mem_of_getElem? (i := 3) rfl)) (ty := .int) (by decide) rfl rfl (g := (mkF m 48 #[.val (.ref a1)] [(.int (kb - (8 : Int32))), (.ref a1)])) rfl rfl (hb hby d3_48)
      have N13 := Fr.snoc X13 N11 g1
      have E_13 := Exa.wr W13 E_11
      have Fo_13 := Fld.other W13 Fo_11 (Or.inr (slot_ne (Or.inr (hw _ (List.mem_of_getElem? (i := 12) rfl))) (Or.inl (hw _ (List.mem_of_getElem? (i := 23) rfl))) (by decide) (t := (.array .byte)) (t' := .int) (by decide) (by decide)))
      have Fp_13 := Fld.other W13 Fp_11 (Or.inr (slot_ne (Or.inl (hw _ (List.mem_of_getElem? (i := 14) rfl))) (Or.inl (hw _ (List.mem_of_getElem? (i := 23) rfl))) (by decide) (t := .int) (t' := .int) (by decide) (by decide)))
      have Fd_13 := Fld.other W13 Fd_11 (Or.inr (slot_ne (Or.inl (hw _ (List.mem_of_getElem? (i := 21) rfl))) (Or.inl (hw _ (List.mem_of_getElem? (i := 23) rfl))) (by decide) (t := .long) (t' := .int) (by decide) (by decide)))
      have Fb_13 := Fld.same W13 Fb_11
      have A_13 := own_A_other W13 (Ne.symm ne1) A_11
      have K_13 := Keep.wr K_11 W13 (Or.inl (List.mem_of_getElem? (i := 0) rfl))
      refine own_step st13 ?_
      show own_E p e below _ (T13.setTop (mkF m 51 #[.val (.ref a1)] []))
      refine own_step (fun _ zk => XS.goto X13.here hx rfl (pc0 := 51) (pc' := 0) rfl (hb hby d3_51) (by decide) (by decide) zk) ?_
      show own_E p e below _ (T13.setTop (mkF m 0 #[.val (.ref a1)] []))
      exact ih (t + 1) _ _ _ _ _ _ (by omega) X13 e13 N13 K_13 E_13 Fo_13 Fp_13 Fd_13 Fb_13 A_13 (own_q1 hq (by omega)) (own_kb3 hkb (by omega)) (by rw [hd]; exact own_shr_s _ t (by omega))
  exact loop (own_nb k) 0 s₁ [] h0 _ _ _ (by omega) X0 e0 N0 K_0 E Fo Fp Fd Fb (by rw [own_pat_0]; exact A) (own_toInt P (by omega)) (by rw [own_toInt k (by omega)]; omega) (own_shr_0 _)
theorem d4_0 : decode method_2_code 0 = .ok (.iload_n 2, 1) := by decide +kernel
theorem d4_1 : decode method_2_code 1 = .ok (.ifCond .ne 5, 3) := by decide +kernel
theorem d4_4 : decode method_2_code 4 = .ok (.lconst 0, 1) := by decide +kernel
theorem d4_5 : decode method_2_code 5 = .ok (.lreturn, 1) := by decide +kernel
theorem d4_6 : decode method_2_code 6 = .ok (.lload_n 0, 1) := by decide +kernel
theorem d4_7 : decode method_2_code 7 = .ok (.bipush 64, 2) := by decide +kernel
theorem d4_9 : decode method_2_code 9 = .ok (.iload_n 2, 1) := by decide +kernel
theorem d4_10 : decode method_2_code 10 = .ok (.isub, 1) := by decide +kernel
theorem d4_11 : decode method_2_code 11 = .ok (.lshl, 1) := by decide +kernel
theorem d4_12 : decode method_2_code 12 = .ok (.bipush 64, 2) := by decide +kernel
theorem d4_14 : decode method_2_code 14 = .ok (.iload_n 2, 1) := by decide +kernel
theorem d4_15 : decode method_2_code 15 = .ok (.isub, 1) := by decide +kernel
theorem d4_16 : decode method_2_code 16 = .ok (.lushr, 1) := by decide +kernel
theorem d4_17 : decode method_2_code 17 = .ok (.lreturn, 1) := by decide +kernel
theorem pn_4 : plainName "com/example/furrow/furrow/codec/BitWriterPadPinLaw" = true := by first | (simp [plainName, overriddenIn]; done) | decide +kernel
theorem ef_4 (m : MethodId) (p1 : Int64) (p2 : Int32)  : entryFrame m #[(.long p1), (.int p2)] 3 = mkF m 0 #[.val (.long p1), .second, .val (.int p2)] [] := by first | (simp [entryFrame, mkF, argsToLocals, Value.category]; done) | rfl
def Q4 (Z : State) (p1 : Int64) (p2 : Int32) (k : Nat) (h0 : Heap) (n0 : Nat) (v : Option Value) (h : Heap) (L : List Loc) : Prop := v = some (.long (own_low p1 k)) ∧ Fr n0 L ∧ h = h0
set_option maxRecDepth 65536 in
set_option maxHeartbeats 40000000 in
theorem rm4 (l : Launch) (Z : State) (a0 : Array Value) (hw : ∀ d ∈ tables_1, d.before a0 Z = true) (ws : List Jvm.Cond) (p1 : Int64) (p2 : Int32) (k : Nat) (h0 : Heap) (n0 : Nat) (Z0 : n0 ≤ h0.size) (hk : p2 = Int32.ofNat k) (hk31 : k ≤ 31) :
    MetFree l (⟨"com/example/furrow/furrow/codec/BitWriterPadPinLaw", "low", "(JI)J"⟩ : MethodName) (head1 (Jvm.Cond.code (⟨"com/example/furrow/furrow/codec/BitWriterPadPinLaw", "low", "(JI)J"⟩ : MethodName) method_2_code 3 (some .long) :: ws) ({ frames := 0, cells := 0, slots := 0, locals := 0 } : Room)) (fun zA zU => zA = #[(.long p1), (.int p2)] ∧ Z.Warmed39 zU.vm ∧ zU.heap = h0) (fun _ _ _ _ _ => True) (fun _ zU zo zT => ∃ zv zL, zo = .returned zv ∧ Q4 Z p1 p2 k h0 n0 zv zT.heap zL ∧ FrameEnd zU zo zT zL ({ frames := 0, cells := 0, slots := 0, locals := 0 } : Room).cells ({ frames := 0, cells := 0, slots := 0, locals := 0 } : Room).slots) := by
  refine MetFree.of_bodySF (plainFor_of_name pn_4) hisR ?_
  intro p e s m args below meth c s₁ Bd hml0 hP hK
  obtain ⟨rfl, hZ, hh⟩ := hP
  have hx := Bd.exec
  have hby := Bd.bytes
  have hml : c.maxLocals = 3 := hml0
  have hown : s.vm.findClass "com/example/furrow/furrow/codec/BitWriterPadPinLaw" = some m.cls := findClass_of_methodNamed Bd.named
  have hnm := (name_of_methodNamed Bd.named Bd.method).1
  have hlk : meth.locks = false := Bd.notSynchronized
  have X0 : Stand p l e ({ frames := 0, cells := 0, slots := 0, locals := 0 } : Room) s m #[(.long p1), (.int p2)] below meth c s₁ [] 0 0 := Stand.of_body Bd
  have e0 : s₁.heap = h0 := by rw [← hh, Bd.state]; rfl
  have N0 := Fr.nil n0
  refine own_step (p := p) (e := e) (below := below) (U' := s₁.setTop (mkF m 0 #[.val (.long p1), .second, .val (.int p2)] [])) (fun _ zk => castTop (ef_4 m p1 p2 ) zk) ?_
  refine own_step (fun _ zk => XS.iloadN X0.here hx rfl (hb hby d4_0) rfl zk) ?_
  show own_E p e below _ (s₁.setTop (mkF m 1 #[.val (.long p1), .second, .val (.int p2)] [(.int p2)]))
  by_cases hc1 : p2 = (0 : Int32)
  · skip
    refine own_step (fun _ zk => XS.ifNo X0.here hx rfl (hb hby d4_1) rfl ((if0 _ _).trans (teq hc1).2) zk) ?_
    show own_E p e below _ (s₁.setTop (mkF m 4 #[.val (.long p1), .second, .val (.int p2)] []))
    refine own_step (fun _ zk => Jvm.Free.XT.lconst X0.here hx rfl (hb hby d4_4) zk) ?_
    show own_E p e below _ (s₁.setTop (mkF m 5 #[.val (.long p1), .second, .val (.int p2)] [(.long (0 : Int64))]))
    refine own_ret X0 hlk (v := some (.long (0 : Int64))) (fun h => by rw [Bd.returns] at h; cases h) ?_ (by decide) (by decide) (fun fs hr => X0.lreturnOut hx Bd.returns (hb hby d4_5) hr)
    show Q4 Z p1 p2 k h0 n0 _ s₁.heap _
    rw [e0]
    exact ⟨congrArg (fun z => some (Value.long z)) (own_low_z p1 hk hk31 hc1), N0, rfl⟩
  · skip
    refine own_step (fun _ zk => XS.ifYes X0.here hx rfl (pc0 := 1) (pc' := 6) rfl (hb hby d4_1) rfl ((if0 _ _).trans (feq hc1).2) (by decide) (by decide) zk) ?_
    show own_E p e below _ (s₁.setTop (mkF m 6 #[.val (.long p1), .second, .val (.int p2)] []))
    refine own_step (fun _ zk => Jvm.Free.XT.lloadN X0.here hx rfl (hb hby d4_6) rfl zk) ?_
    show own_E p e below _ (s₁.setTop (mkF m 7 #[.val (.long p1), .second, .val (.int p2)] [(.long p1)]))
    refine own_step (fun _ zk => XS.bipush X0.here hx rfl (hb hby d4_7) zk) ?_
    show own_E p e below _ (s₁.setTop (mkF m 9 #[.val (.long p1), .second, .val (.int p2)] [(.int (64 : Int32)), (.long p1)]))
    refine own_step (fun _ zk => XS.iloadN X0.here hx rfl (hb hby d4_9) rfl zk) ?_
    show own_E p e below _ (s₁.setTop (mkF m 10 #[.val (.long p1), .second, .val (.int p2)] [(.int p2), (.int (64 : Int32)), (.long p1)]))
    refine own_step (fun _ zk => XS.isub X0.here hx rfl (hb hby d4_10) rfl zk) ?_
    show own_E p e below _ (s₁.setTop (mkF m 11 #[.val (.long p1), .second, .val (.int p2)] [(.int ((64 : Int32) - p2)), (.long p1)]))
    refine own_step (fun _ zk => Jvm.Free.XT.lshl X0.here hx rfl (hb hby d4_11) rfl zk) ?_
    show own_E p e below _ (s₁.setTop (mkF m 12 #[.val (.long p1), .second, .val (.int p2)] [(.long (p1 <<< ((((64 : Int32) - p2)).toInt64 &&& 63)))]))
    refine own_step (fun _ zk => XS.bipush X0.here hx rfl (hb hby d4_12) zk) ?_
    show own_E p e below _ (s₁.setTop (mkF m 14 #[.val (.long p1), .second, .val (.int p2)] [(.int (64 : Int32)), (.long (p1 <<< ((((64 : Int32) - p2)).toInt64 &&& 63)))]))
    refine own_step (fun _ zk => XS.iloadN X0.here hx rfl (hb hby d4_14) rfl zk) ?_
    show own_E p e below _ (s₁.setTop (mkF m 15 #[.val (.long p1), .second, .val (.int p2)] [(.int p2), (.int (64 : Int32)), (.long (p1 <<< ((((64 : Int32) - p2)).toInt64 &&& 63)))]))
    refine own_step (fun _ zk => XS.isub X0.here hx rfl (hb hby d4_15) rfl zk) ?_
    show own_E p e below _ (s₁.setTop (mkF m 16 #[.val (.long p1), .second, .val (.int p2)] [(.int ((64 : Int32) - p2)), (.long (p1 <<< ((((64 : Int32) - p2)).toInt64 &&& 63)))]))
    refine own_step (fun _ zk => Jvm.Free.XT.lushr X0.here hx rfl (hb hby d4_16) rfl zk) ?_
    show own_E p e below _ (s₁.setTop (mkF m 17 #[.val (.long p1), .second, .val (.int p2)] [(.long (Jvm.Free.XT.ushrL (p1 <<< ((((64 : Int32) - p2)).toInt64 &&& 63)) ((64 : Int32) - p2)))]))
    refine own_ret X0 hlk (v := some (.long (Jvm.Free.XT.ushrL (p1 <<< ((((64 : Int32) - p2)).toInt64 &&& 63)) ((64 : Int32) - p2)))) (fun h => by rw [Bd.returns] at h; cases h) ?_ (by decide) (by decide) (fun fs hr => X0.lreturnOut hx Bd.returns (hb hby d4_17) hr)
    show Q4 Z p1 p2 k h0 n0 _ s₁.heap _
    rw [e0]
    exact ⟨congrArg (fun z => some (Value.long z)) (own_low_f p1 hk hk31 hc1), N0, rfl⟩
theorem d5_0 : decode method_3_code 0 = .ok (.iload 9, 2) := by decide +kernel
theorem d5_2 : decode method_3_code 2 = .ok (.istore 10, 2) := by decide +kernel
theorem d5_4 : decode method_3_code 4 = .ok (.iload_n 2, 1) := by decide +kernel
theorem d5_5 : decode method_3_code 5 = .ok (.iload_n 3, 1) := by decide +kernel
theorem d5_6 : decode method_3_code 6 = .ok (.iadd, 1) := by decide +kernel
theorem d5_7 : decode method_3_code 7 = .ok (.istore 11, 2) := by decide +kernel
theorem d5_9 : decode method_3_code 9 = .ok (.iload_n 1, 1) := by decide +kernel
theorem d5_10 : decode method_3_code 10 = .ok (.iload_n 2, 1) := by decide +kernel
theorem d5_11 : decode method_3_code 11 = .ok (.if_icmp .lt 25, 3) := by decide +kernel
theorem d5_14 : decode method_3_code 14 = .ok (.iload_n 1, 1) := by decide +kernel
theorem d5_15 : decode method_3_code 15 = .ok (.iload 11, 2) := by decide +kernel
theorem d5_17 : decode method_3_code 17 = .ok (.if_icmp .ge 19, 3) := by decide +kernel
theorem d5_20 : decode method_3_code 20 = .ok (.lload 4, 2) := by decide +kernel
theorem d5_22 : decode method_3_code 22 = .ok (.bipush 8, 2) := by decide +kernel
theorem d5_24 : decode method_3_code 24 = .ok (.iload_n 1, 1) := by decide +kernel
theorem d5_25 : decode method_3_code 25 = .ok (.iload_n 2, 1) := by decide +kernel
theorem d5_26 : decode method_3_code 26 = .ok (.isub, 1) := by decide +kernel
theorem d5_27 : decode method_3_code 27 = .ok (.imul, 1) := by decide +kernel
theorem d5_28 : decode method_3_code 28 = .ok (.lushr, 1) := by decide +kernel
theorem d5_29 : decode method_3_code 29 = .ok (.l2i, 1) := by decide +kernel
theorem d5_30 : decode method_3_code 30 = .ok (.i2b, 1) := by decide +kernel
theorem d5_31 : decode method_3_code 31 = .ok (.istore 10, 2) := by decide +kernel
theorem d5_33 : decode method_3_code 33 = .ok (.goto 32, 3) := by decide +kernel
theorem d5_36 : decode method_3_code 36 = .ok (.iload_n 1, 1) := by decide +kernel
theorem d5_37 : decode method_3_code 37 = .ok (.iload 11, 2) := by decide +kernel
theorem d5_39 : decode method_3_code 39 = .ok (.if_icmp .lt 26, 3) := by decide +kernel
theorem d5_42 : decode method_3_code 42 = .ok (.iload_n 1, 1) := by decide +kernel
theorem d5_43 : decode method_3_code 43 = .ok (.iload 11, 2) := by decide +kernel
theorem d5_45 : decode method_3_code 45 = .ok (.iload 6, 2) := by decide +kernel
theorem d5_47 : decode method_3_code 47 = .ok (.iadd, 1) := by decide +kernel
theorem d5_48 : decode method_3_code 48 = .ok (.if_icmp .ge 17, 3) := by decide +kernel
theorem d5_51 : decode method_3_code 51 = .ok (.lload 7, 2) := by decide +kernel
theorem d5_53 : decode method_3_code 53 = .ok (.bipush 8, 2) := by decide +kernel
theorem d5_55 : decode method_3_code 55 = .ok (.iload_n 1, 1) := by decide +kernel
theorem d5_56 : decode method_3_code 56 = .ok (.iload 11, 2) := by decide +kernel
theorem d5_58 : decode method_3_code 58 = .ok (.isub, 1) := by decide +kernel
theorem d5_59 : decode method_3_code 59 = .ok (.imul, 1) := by decide +kernel
theorem d5_60 : decode method_3_code 60 = .ok (.lushr, 1) := by decide +kernel
theorem d5_61 : decode method_3_code 61 = .ok (.l2i, 1) := by decide +kernel
theorem d5_62 : decode method_3_code 62 = .ok (.i2b, 1) := by decide +kernel
theorem d5_63 : decode method_3_code 63 = .ok (.istore 10, 2) := by decide +kernel
theorem d5_65 : decode method_3_code 65 = .ok (.aload_n 0, 1) := by decide +kernel
theorem d5_66 : decode method_3_code 66 = .ok (.iload_n 1, 1) := by decide +kernel
theorem d5_67 : decode method_3_code 67 = .ok (.baload, 1) := by decide +kernel
theorem d5_68 : decode method_3_code 68 = .ok (.iload 10, 2) := by decide +kernel
theorem d5_70 : decode method_3_code 70 = .ok (.if_icmp .ne 7, 3) := by decide +kernel
theorem d5_73 : decode method_3_code 73 = .ok (.iconst 1, 1) := by decide +kernel
theorem d5_74 : decode method_3_code 74 = .ok (.goto 4, 3) := by decide +kernel
theorem d5_78 : decode method_3_code 78 = .ok (.ireturn, 1) := by decide +kernel
theorem pn_5 : plainName "com/example/furrow/furrow/codec/BitWriterPadPinLaw" = true := by first | (simp [plainName, overriddenIn]; done) | decide +kernel
theorem ef_5 (m : MethodId) (a1 : Addr) (p2 : Int32) (p3 : Int32) (p4 : Int32) (p5 : Int64) (p6 : Int32) (p7 : Int64) (p8 : Int32)  : entryFrame m #[(.ref a1), (.int p2), (.int p3), (.int p4), (.long p5), (.int p6), (.long p7), (.int p8)] 12 = mkF m 0 #[.val (.ref a1), .val (.int p2), .val (.int p3), .val (.int p4), .val (.long p5), .second, .val (.int p6), .val (.long p7), .second, .val (.int p8), .unset, .unset] [] := by first | (simp [entryFrame, mkF, argsToLocals, Value.category]; done) | rfl
def Q5 (Z : State) (a1 : Addr) (p2 : Int32) (p3 : Int32) (p4 : Int32) (p5 : Int64) (p6 : Int32) (p7 : Int64) (p8 : Int32) (g : Nat → Int32) (i : Nat) (h0 : Heap) (n0 : Nat) (v : Option Value) (h : Heap) (L : List Loc) : Prop := v = some (.int 1) ∧ Fr n0 L ∧ h = h0
set_option maxRecDepth 65536 in
set_option maxHeartbeats 40000000 in
theorem rm5 (l : Launch) (Z : State) (a0 : Array Value) (hw : ∀ d ∈ tables_1, d.before a0 Z = true) (ws : List Jvm.Cond) (a1 : Addr) (p2 : Int32) (p3 : Int32) (p4 : Int32) (p5 : Int64) (p6 : Int32) (p7 : Int64) (p8 : Int32) (g : Nat → Int32) (i : Nat) (h0 : Heap) (n0 : Nat) (Z0 : n0 ≤ h0.size) (A : own_A Z h0 a1 .byte 16 (fun j => .int (g j))) (hi : p2 = Int32.ofNat i) (hi16 : i < 16) (he : g i = own_e p2 p3 p4 p5 p6 p7 p8) :
    MetFree l (⟨"com/example/furrow/furrow/codec/BitWriterPadPinLaw", "ok", "([BIIIJIJB)Z"⟩ : MethodName) (head1 (Jvm.Cond.code (⟨"com/example/furrow/furrow/codec/BitWriterPadPinLaw", "ok", "([BIIIJIJB)Z"⟩ : MethodName) method_3_code 12 (some .boolean) :: ws) ({ frames := 0, cells := 0, slots := 0, locals := 0 } : Room)) (fun zA zU => zA = #[(.ref a1), (.int p2), (.int p3), (.int p4), (.long p5), (.int p6), (.long p7), (.int p8)] ∧ Z.Warmed39 zU.vm ∧ zU.heap = h0) (fun _ _ _ _ _ => True) (fun _ zU zo zT => ∃ zv zL, zo = .returned zv ∧ Q5 Z a1 p2 p3 p4 p5 p6 p7 p8 g i h0 n0 zv zT.heap zL ∧ FrameEnd zU zo zT zL ({ frames := 0, cells := 0, slots := 0, locals := 0 } : Room).cells ({ frames := 0, cells := 0, slots := 0, locals := 0 } : Room).slots) := by
  refine MetFree.of_bodySF (plainFor_of_name pn_5) hisR ?_
  intro p e s m args below meth c s₁ Bd hml0 hP hK
  obtain ⟨rfl, hZ, hh⟩ := hP
  have hx := Bd.exec
  have hby := Bd.bytes
  have hml : c.maxLocals = 12 := hml0
  have hown : s.vm.findClass "com/example/furrow/furrow/codec/BitWriterPadPinLaw" = some m.cls := findClass_of_methodNamed Bd.named
  have hnm := (name_of_methodNamed Bd.named Bd.method).1
  have hlk : meth.locks = false := Bd.notSynchronized
  have X0 : Stand p l e ({ frames := 0, cells := 0, slots := 0, locals := 0 } : Room) s m #[(.ref a1), (.int p2), (.int p3), (.int p4), (.long p5), (.int p6), (.long p7), (.int p8)] below meth c s₁ [] 0 0 := Stand.of_body Bd
  have e0 : s₁.heap = h0 := by rw [← hh, Bd.state]; rfl
  have N0 := Fr.nil n0
  refine own_step (p := p) (e := e) (below := below) (U' := s₁.setTop (mkF m 0 #[.val (.ref a1), .val (.int p2), .val (.int p3), .val (.int p4), .val (.long p5), .second, .val (.int p6), .val (.long p7), .second, .val (.int p8), .unset, .unset] [])) (fun _ zk => castTop (ef_5 m a1 p2 p3 p4 p5 p6 p7 p8 ) zk) ?_
  refine own_step (fun _ zk => XS.iload X0.here hx rfl (hb hby d5_0) rfl zk) ?_
  show own_E p e below _ (s₁.setTop (mkF m 2 #[.val (.ref a1), .val (.int p2), .val (.int p3), .val (.int p4), .val (.long p5), .second, .val (.int p6), .val (.long p7), .second, .val (.int p8), .unset, .unset] [(.int p8)]))
  refine own_step (fun _ zk => XS.istore X0.here hx rfl (hb hby d5_2) rfl (l' := #[.val (.ref a1), .val (.int p2), .val (.int p3), .val (.int p4), .val (.long p5), .second, .val (.int p6), .val (.long p7), .second, .val (.int p8), .val (.int p8), .unset]) rfl zk) ?_
  show own_E p e below _ (s₁.setTop (mkF m 4 #[.val (.ref a1), .val (.int p2), .val (.int p3), .val (.int p4), .val (.long p5), .second, .val (.int p6), .val (.long p7), .second, .val (.int p8), .val (.int p8), .unset] []))
  refine own_step (fun _ zk => XS.iloadN X0.here hx rfl (hb hby d5_4) rfl zk) ?_
  show own_E p e below _ (s₁.setTop (mkF m 5 #[.val (.ref a1), .val (.int p2), .val (.int p3), .val (.int p4), .val (.long p5), .second, .val (.int p6), .val (.long p7), .second, .val (.int p8), .val (.int p8), .unset] [(.int p3)]))
  refine own_step (fun _ zk => XS.iloadN X0.here hx rfl (hb hby d5_5) rfl zk) ?_
  show own_E p e below _ (s₁.setTop (mkF m 6 #[.val (.ref a1), .val (.int p2), .val (.int p3), .val (.int p4), .val (.long p5), .second, .val (.int p6), .val (.long p7), .second, .val (.int p8), .val (.int p8), .unset] [(.int p4), (.int p3)]))
  refine own_step (fun _ zk => XS.iadd X0.here hx rfl (hb hby d5_6) rfl zk) ?_
  show own_E p e below _ (s₁.setTop (mkF m 7 #[.val (.ref a1), .val (.int p2), .val (.int p3), .val (.int p4), .val (.long p5), .second, .val (.int p6), .val (.long p7), .second, .val (.int p8), .val (.int p8), .unset] [(.int (p3 + p4))]))
  refine own_step (fun _ zk => XS.istore X0.here hx rfl (hb hby d5_7) rfl (l' := #[.val (.ref a1), .val (.int p2), .val (.int p3), .val (.int p4), .val (.long p5), .second, .val (.int p6), .val (.long p7), .second, .val (.int p8), .val (.int p8), .val (.int (p3 + p4))]) rfl zk) ?_
  show own_E p e below _ (s₁.setTop (mkF m 9 #[.val (.ref a1), .val (.int p2), .val (.int p3), .val (.int p4), .val (.long p5), .second, .val (.int p6), .val (.long p7), .second, .val (.int p8), .val (.int p8), .val (.int (p3 + p4))] []))
  refine own_step (fun _ zk => XS.iloadN X0.here hx rfl (hb hby d5_9) rfl zk) ?_
  show own_E p e below _ (s₁.setTop (mkF m 10 #[.val (.ref a1), .val (.int p2), .val (.int p3), .val (.int p4), .val (.long p5), .second, .val (.int p6), .val (.long p7), .second, .val (.int p8), .val (.int p8), .val (.int (p3 + p4))] [(.int p2)]))
  refine own_step (fun _ zk => XS.iloadN X0.here hx rfl (hb hby d5_10) rfl zk) ?_
  show own_E p e below _ (s₁.setTop (mkF m 11 #[.val (.ref a1), .val (.int p2), .val (.int p3), .val (.int p4), .val (.long p5), .second, .val (.int p6), .val (.long p7), .second, .val (.int p8), .val (.int p8), .val (.int (p3 + p4))] [(.int p3), (.int p2)]))
  by_cases hc11 : p2 < p3
  · skip
    refine own_step (fun _ zk => XS.icmpYes X0.here hx rfl (pc0 := 11) (pc' := 36) rfl (hb hby d5_11) rfl (tlt hc11).1 (by decide) (by decide) zk) ?_
    show own_E p e below _ (s₁.setTop (mkF m 36 #[.val (.ref a1), .val (.int p2), .val (.int p3), .val (.int p4), .val (.long p5), .second, .val (.int p6), .val (.long p7), .second, .val (.int p8), .val (.int p8), .val (.int (p3 + p4))] []))
    refine own_step (fun _ zk => XS.iloadN X0.here hx rfl (hb hby d5_36) rfl zk) ?_
    show own_E p e below _ (s₁.setTop (mkF m 37 #[.val (.ref a1), .val (.int p2), .val (.int p3), .val (.int p4), .val (.long p5), .second, .val (.int p6), .val (.long p7), .second, .val (.int p8), .val (.int p8), .val (.int (p3 + p4))] [(.int p2)]))
    refine own_step (fun _ zk => XS.iload X0.here hx rfl (hb hby d5_37) rfl zk) ?_
    show own_E p e below _ (s₁.setTop (mkF m 39 #[.val (.ref a1), .val (.int p2), .val (.int p3), .val (.int p4), .val (.long p5), .second, .val (.int p6), .val (.long p7), .second, .val (.int p8), .val (.int p8), .val (.int (p3 + p4))] [(.int (p3 + p4)), (.int p2)]))
    by_cases hc39 : p2 < (p3 + p4)
    · skip
      refine own_step (fun _ zk => XS.icmpYes X0.here hx rfl (pc0 := 39) (pc' := 65) rfl (hb hby d5_39) rfl (tlt hc39).1 (by decide) (by decide) zk) ?_
      show own_E p e below _ (s₁.setTop (mkF m 65 #[.val (.ref a1), .val (.int p2), .val (.int p3), .val (.int p4), .val (.long p5), .second, .val (.int p6), .val (.long p7), .second, .val (.int p8), .val (.int p8), .val (.int (p3 + p4))] []))
      refine own_step (fun _ zk => XS.aloadN X0.here hx rfl (hb hby d5_65) rfl rfl zk) ?_
      show own_E p e below _ (s₁.setTop (mkF m 66 #[.val (.ref a1), .val (.int p2), .val (.int p3), .val (.int p4), .val (.long p5), .second, .val (.int p6), .val (.long p7), .second, .val (.int p8), .val (.int p8), .val (.int (p3 + p4))] [(.ref a1)]))
      refine own_step (fun _ zk => XS.iloadN X0.here hx rfl (hb hby d5_66) rfl zk) ?_
      show own_E p e below _ (s₁.setTop (mkF m 67 #[.val (.ref a1), .val (.int p2), .val (.int p3), .val (.int p4), .val (.long p5), .second, .val (.int p6), .val (.long p7), .second, .val (.int p8), .val (.int p8), .val (.int (p3 + p4))] [(.int p2), (.ref a1)]))
      refine own_step (fun _ zk => own_ldB X0 hx hZ e0 A i (by rw [hi]; exact own_toInt i (by omega)) hi16 (g := (mkF m 67 #[.val (.ref a1), .val (.int p2), .val (.int p3), .val (.int p4), .val (.long p5), .second, .val (.int p6), .val (.long p7), .second, .val (.int p8), .val (.int p8), .val (.int (p3 + p4))] [(.int p2), (.ref a1)])) rfl rfl (hb hby d5_67) zk) ?_
      show own_E p e below _ (s₁.setTop (mkF m 68 #[.val (.ref a1), .val (.int p2), .val (.int p3), .val (.int p4), .val (.long p5), .second, .val (.int p6), .val (.long p7), .second, .val (.int p8), .val (.int p8), .val (.int (p3 + p4))] [(.int (g i))]))
      refine own_step (fun _ zk => XS.iload X0.here hx rfl (hb hby d5_68) rfl zk) ?_
      show own_E p e below _ (s₁.setTop (mkF m 70 #[.val (.ref a1), .val (.int p2), .val (.int p3), .val (.int p4), .val (.long p5), .second, .val (.int p6), .val (.long p7), .second, .val (.int p8), .val (.int p8), .val (.int (p3 + p4))] [(.int p8), (.int (g i))]))
      refine own_step (fun _ zk => XS.icmpNo X0.here hx rfl (hb hby d5_70) rfl (teq (he.trans (by unfold own_e; simp only [hc11, hc39, not_true, not_false_iff, if_true, if_false, and_true, true_and, and_false, false_and, and_self]))).2 zk) ?_
      show own_E p e below _ (s₁.setTop (mkF m 73 #[.val (.ref a1), .val (.int p2), .val (.int p3), .val (.int p4), .val (.long p5), .second, .val (.int p6), .val (.long p7), .second, .val (.int p8), .val (.int p8), .val (.int (p3 + p4))] []))
      refine own_step (fun _ zk => XS.iconst X0.here hx rfl (hb hby d5_73) zk) ?_
      show own_E p e below _ (s₁.setTop (mkF m 74 #[.val (.ref a1), .val (.int p2), .val (.int p3), .val (.int p4), .val (.long p5), .second, .val (.int p6), .val (.long p7), .second, .val (.int p8), .val (.int p8), .val (.int (p3 + p4))] [(.int (1 : Int32))]))
      refine own_step (fun _ zk => XS.goto X0.here hx rfl (pc0 := 74) (pc' := 78) rfl (hb hby d5_74) (by decide) (by decide) zk) ?_
      show own_E p e below _ (s₁.setTop (mkF m 78 #[.val (.ref a1), .val (.int p2), .val (.int p3), .val (.int p4), .val (.long p5), .second, .val (.int p6), .val (.long p7), .second, .val (.int p8), .val (.int p8), .val (.int (p3 + p4))] [(.int (1 : Int32))]))
      refine own_ret X0 hlk (v := some (.int (nar .boolean (1 : Int32)))) (fun h => by rw [Bd.returns] at h; cases h) ?_ (by decide) (by decide) (fun fs hr => retN X0 hx (t := .boolean) Bd.returns (by simp) (hb hby d5_78) hr)
      show Q5 Z a1 p2 p3 p4 p5 p6 p7 p8 g i h0 n0 _ s₁.heap _
      rw [e0]
      exact ⟨by decide, N0, rfl⟩
    · skip
      refine own_step (fun _ zk => XS.icmpNo X0.here hx rfl (hb hby d5_39) rfl (flt hc39).1 zk) ?_
      show own_E p e below _ (s₁.setTop (mkF m 42 #[.val (.ref a1), .val (.int p2), .val (.int p3), .val (.int p4), .val (.long p5), .second, .val (.int p6), .val (.long p7), .second, .val (.int p8), .val (.int p8), .val (.int (p3 + p4))] []))
      refine own_step (fun _ zk => XS.iloadN X0.here hx rfl (hb hby d5_42) rfl zk) ?_
      show own_E p e below _ (s₁.setTop (mkF m 43 #[.val (.ref a1), .val (.int p2), .val (.int p3), .val (.int p4), .val (.long p5), .second, .val (.int p6), .val (.long p7), .second, .val (.int p8), .val (.int p8), .val (.int (p3 + p4))] [(.int p2)]))
      refine own_step (fun _ zk => XS.iload X0.here hx rfl (hb hby d5_43) rfl zk) ?_
      show own_E p e below _ (s₁.setTop (mkF m 45 #[.val (.ref a1), .val (.int p2), .val (.int p3), .val (.int p4), .val (.long p5), .second, .val (.int p6), .val (.long p7), .second, .val (.int p8), .val (.int p8), .val (.int (p3 + p4))] [(.int (p3 + p4)), (.int p2)]))
      refine own_step (fun _ zk => XS.iload X0.here hx rfl (hb hby d5_45) rfl zk) ?_
      show own_E p e below _ (s₁.setTop (mkF m 47 #[.val (.ref a1), .val (.int p2), .val (.int p3), .val (.int p4), .val (.long p5), .second, .val (.int p6), .val (.long p7), .second, .val (.int p8), .val (.int p8), .val (.int (p3 + p4))] [(.int p6), (.int (p3 + p4)), (.int p2)]))
      refine own_step (fun _ zk => XS.iadd X0.here hx rfl (hb hby d5_47) rfl zk) ?_
      show own_E p e below _ (s₁.setTop (mkF m 48 #[.val (.ref a1), .val (.int p2), .val (.int p3), .val (.int p4), .val (.long p5), .second, .val (.int p6), .val (.long p7), .second, .val (.int p8), .val (.int p8), .val (.int (p3 + p4))] [(.int ((p3 + p4) + p6)), (.int p2)]))
      by_cases hc48 : p2 < ((p3 + p4) + p6)
      · skip
        refine own_step (fun _ zk => XS.icmpNo X0.here hx rfl (hb hby d5_48) rfl (tlt hc48).2.1 zk) ?_
        show own_E p e below _ (s₁.setTop (mkF m 51 #[.val (.ref a1), .val (.int p2), .val (.int p3), .val (.int p4), .val (.long p5), .second, .val (.int p6), .val (.long p7), .second, .val (.int p8), .val (.int p8), .val (.int (p3 + p4))] []))
        refine own_step (fun _ zk => Jvm.Free.XT.lload X0.here hx rfl (hb hby d5_51) rfl zk) ?_
        show own_E p e below _ (s₁.setTop (mkF m 53 #[.val (.ref a1), .val (.int p2), .val (.int p3), .val (.int p4), .val (.long p5), .second, .val (.int p6), .val (.long p7), .second, .val (.int p8), .val (.int p8), .val (.int (p3 + p4))] [(.long p7)]))
        refine own_step (fun _ zk => XS.bipush X0.here hx rfl (hb hby d5_53) zk) ?_
        show own_E p e below _ (s₁.setTop (mkF m 55 #[.val (.ref a1), .val (.int p2), .val (.int p3), .val (.int p4), .val (.long p5), .second, .val (.int p6), .val (.long p7), .second, .val (.int p8), .val (.int p8), .val (.int (p3 + p4))] [(.int (8 : Int32)), (.long p7)]))
        refine own_step (fun _ zk => XS.iloadN X0.here hx rfl (hb hby d5_55) rfl zk) ?_
        show own_E p e below _ (s₁.setTop (mkF m 56 #[.val (.ref a1), .val (.int p2), .val (.int p3), .val (.int p4), .val (.long p5), .second, .val (.int p6), .val (.long p7), .second, .val (.int p8), .val (.int p8), .val (.int (p3 + p4))] [(.int p2), (.int (8 : Int32)), (.long p7)]))
        refine own_step (fun _ zk => XS.iload X0.here hx rfl (hb hby d5_56) rfl zk) ?_
        show own_E p e below _ (s₁.setTop (mkF m 58 #[.val (.ref a1), .val (.int p2), .val (.int p3), .val (.int p4), .val (.long p5), .second, .val (.int p6), .val (.long p7), .second, .val (.int p8), .val (.int p8), .val (.int (p3 + p4))] [(.int (p3 + p4)), (.int p2), (.int (8 : Int32)), (.long p7)]))
        refine own_step (fun _ zk => XS.isub X0.here hx rfl (hb hby d5_58) rfl zk) ?_
        show own_E p e below _ (s₁.setTop (mkF m 59 #[.val (.ref a1), .val (.int p2), .val (.int p3), .val (.int p4), .val (.long p5), .second, .val (.int p6), .val (.long p7), .second, .val (.int p8), .val (.int p8), .val (.int (p3 + p4))] [(.int (p2 - (p3 + p4))), (.int (8 : Int32)), (.long p7)]))
        refine own_step (fun _ zk => XS.imul X0.here hx rfl (hb hby d5_59) rfl zk) ?_
        show own_E p e below _ (s₁.setTop (mkF m 60 #[.val (.ref a1), .val (.int p2), .val (.int p3), .val (.int p4), .val (.long p5), .second, .val (.int p6), .val (.long p7), .second, .val (.int p8), .val (.int p8), .val (.int (p3 + p4))] [(.int ((8 : Int32) * (p2 - (p3 + p4)))), (.long p7)]))
        refine own_step (fun _ zk => Jvm.Free.XT.lushr X0.here hx rfl (hb hby d5_60) rfl zk) ?_
        show own_E p e below _ (s₁.setTop (mkF m 61 #[.val (.ref a1), .val (.int p2), .val (.int p3), .val (.int p4), .val (.long p5), .second, .val (.int p6), .val (.long p7), .second, .val (.int p8), .val (.int p8), .val (.int (p3 + p4))] [(.long (Jvm.Free.XT.ushrL p7 ((8 : Int32) * (p2 - (p3 + p4)))))]))
        refine own_step (fun _ zk => Jvm.Free.XT.l2i X0.here hx rfl (hb hby d5_61) rfl zk) ?_
        show own_E p e below _ (s₁.setTop (mkF m 62 #[.val (.ref a1), .val (.int p2), .val (.int p3), .val (.int p4), .val (.long p5), .second, .val (.int p6), .val (.long p7), .second, .val (.int p8), .val (.int p8), .val (.int (p3 + p4))] [(.int (Int64.toInt32 (Jvm.Free.XT.ushrL p7 ((8 : Int32) * (p2 - (p3 + p4))))))]))
        refine own_step (fun _ zk => Jvm.Free.XT.i2b X0.here hx rfl (hb hby d5_62) rfl zk) ?_
        show own_E p e below _ (s₁.setTop (mkF m 63 #[.val (.ref a1), .val (.int p2), .val (.int p3), .val (.int p4), .val (.long p5), .second, .val (.int p6), .val (.long p7), .second, .val (.int p8), .val (.int p8), .val (.int (p3 + p4))] [(.int (Int8.toInt32 (Int32.toInt8 (Int64.toInt32 (Jvm.Free.XT.ushrL p7 ((8 : Int32) * (p2 - (p3 + p4))))))))]))
        refine own_step (fun _ zk => XS.istore X0.here hx rfl (hb hby d5_63) rfl (l' := #[.val (.ref a1), .val (.int p2), .val (.int p3), .val (.int p4), .val (.long p5), .second, .val (.int p6), .val (.long p7), .second, .val (.int p8), .val (.int (Int8.toInt32 (Int32.toInt8 (Int64.toInt32 (Jvm.Free.XT.ushrL p7 ((8 : Int32) * (p2 - (p3 + p4)))))))), .val (.int (p3 + p4))]) rfl zk) ?_
        show own_E p e below _ (s₁.setTop (mkF m 65 #[.val (.ref a1), .val (.int p2), .val (.int p3), .val (.int p4), .val (.long p5), .second, .val (.int p6), .val (.long p7), .second, .val (.int p8), .val (.int (Int8.toInt32 (Int32.toInt8 (Int64.toInt32 (Jvm.Free.XT.ushrL p7 ((8 : Int32) * (p2 - (p3 + p4)))))))), .val (.int (p3 + p4))] []))
        refine own_step (fun _ zk => XS.aloadN X0.here hx rfl (hb hby d5_65) rfl rfl zk) ?_
        show own_E p e below _ (s₁.setTop (mkF m 66 #[.val (.ref a1), .val (.int p2), .val (.int p3), .val (.int p4), .val (.long p5), .second, .val (.int p6), .val (.long p7), .second, .val (.int p8), .val (.int (Int8.toInt32 (Int32.toInt8 (Int64.toInt32 (Jvm.Free.XT.ushrL p7 ((8 : Int32) * (p2 - (p3 + p4)))))))), .val (.int (p3 + p4))] [(.ref a1)]))
        refine own_step (fun _ zk => XS.iloadN X0.here hx rfl (hb hby d5_66) rfl zk) ?_
        show own_E p e below _ (s₁.setTop (mkF m 67 #[.val (.ref a1), .val (.int p2), .val (.int p3), .val (.int p4), .val (.long p5), .second, .val (.int p6), .val (.long p7), .second, .val (.int p8), .val (.int (Int8.toInt32 (Int32.toInt8 (Int64.toInt32 (Jvm.Free.XT.ushrL p7 ((8 : Int32) * (p2 - (p3 + p4)))))))), .val (.int (p3 + p4))] [(.int p2), (.ref a1)]))
        refine own_step (fun _ zk => own_ldB X0 hx hZ e0 A i (by rw [hi]; exact own_toInt i (by omega)) hi16 (g := (mkF m 67 #[.val (.ref a1), .val (.int p2), .val (.int p3), .val (.int p4), .val (.long p5), .second, .val (.int p6), .val (.long p7), .second, .val (.int p8), .val (.int (Int8.toInt32 (Int32.toInt8 (Int64.toInt32 (Jvm.Free.XT.ushrL p7 ((8 : Int32) * (p2 - (p3 + p4)))))))), .val (.int (p3 + p4))] [(.int p2), (.ref a1)])) rfl rfl (hb hby d5_67) zk) ?_
        show own_E p e below _ (s₁.setTop (mkF m 68 #[.val (.ref a1), .val (.int p2), .val (.int p3), .val (.int p4), .val (.long p5), .second, .val (.int p6), .val (.long p7), .second, .val (.int p8), .val (.int (Int8.toInt32 (Int32.toInt8 (Int64.toInt32 (Jvm.Free.XT.ushrL p7 ((8 : Int32) * (p2 - (p3 + p4)))))))), .val (.int (p3 + p4))] [(.int (g i))]))
        refine own_step (fun _ zk => XS.iload X0.here hx rfl (hb hby d5_68) rfl zk) ?_
        show own_E p e below _ (s₁.setTop (mkF m 70 #[.val (.ref a1), .val (.int p2), .val (.int p3), .val (.int p4), .val (.long p5), .second, .val (.int p6), .val (.long p7), .second, .val (.int p8), .val (.int (Int8.toInt32 (Int32.toInt8 (Int64.toInt32 (Jvm.Free.XT.ushrL p7 ((8 : Int32) * (p2 - (p3 + p4)))))))), .val (.int (p3 + p4))] [(.int (Int8.toInt32 (Int32.toInt8 (Int64.toInt32 (Jvm.Free.XT.ushrL p7 ((8 : Int32) * (p2 - (p3 + p4)))))))), (.int (g i))]))
        refine own_step (fun _ zk => XS.icmpNo X0.here hx rfl (hb hby d5_70) rfl (teq (he.trans (by unfold own_e; simp only [hc11, hc39, hc48, not_true, not_false_iff, if_true, if_false, and_true, true_and, and_false, false_and, and_self]))).2 zk) ?_
        show own_E p e below _ (s₁.setTop (mkF m 73 #[.val (.ref a1), .val (.int p2), .val (.int p3), .val (.int p4), .val (.long p5), .second, .val (.int p6), .val (.long p7), .second, .val (.int p8), .val (.int (Int8.toInt32 (Int32.toInt8 (Int64.toInt32 (Jvm.Free.XT.ushrL p7 ((8 : Int32) * (p2 - (p3 + p4)))))))), .val (.int (p3 + p4))] []))
        refine own_step (fun _ zk => XS.iconst X0.here hx rfl (hb hby d5_73) zk) ?_
        show own_E p e below _ (s₁.setTop (mkF m 74 #[.val (.ref a1), .val (.int p2), .val (.int p3), .val (.int p4), .val (.long p5), .second, .val (.int p6), .val (.long p7), .second, .val (.int p8), .val (.int (Int8.toInt32 (Int32.toInt8 (Int64.toInt32 (Jvm.Free.XT.ushrL p7 ((8 : Int32) * (p2 - (p3 + p4)))))))), .val (.int (p3 + p4))] [(.int (1 : Int32))]))
        refine own_step (fun _ zk => XS.goto X0.here hx rfl (pc0 := 74) (pc' := 78) rfl (hb hby d5_74) (by decide) (by decide) zk) ?_
        show own_E p e below _ (s₁.setTop (mkF m 78 #[.val (.ref a1), .val (.int p2), .val (.int p3), .val (.int p4), .val (.long p5), .second, .val (.int p6), .val (.long p7), .second, .val (.int p8), .val (.int (Int8.toInt32 (Int32.toInt8 (Int64.toInt32 (Jvm.Free.XT.ushrL p7 ((8 : Int32) * (p2 - (p3 + p4)))))))), .val (.int (p3 + p4))] [(.int (1 : Int32))]))
        refine own_ret X0 hlk (v := some (.int (nar .boolean (1 : Int32)))) (fun h => by rw [Bd.returns] at h; cases h) ?_ (by decide) (by decide) (fun fs hr => retN X0 hx (t := .boolean) Bd.returns (by simp) (hb hby d5_78) hr)
        show Q5 Z a1 p2 p3 p4 p5 p6 p7 p8 g i h0 n0 _ s₁.heap _
        rw [e0]
        exact ⟨by decide, N0, rfl⟩
      · skip
        refine own_step (fun _ zk => XS.icmpYes X0.here hx rfl (pc0 := 48) (pc' := 65) rfl (hb hby d5_48) rfl (flt hc48).2.1 (by decide) (by decide) zk) ?_
        show own_E p e below _ (s₁.setTop (mkF m 65 #[.val (.ref a1), .val (.int p2), .val (.int p3), .val (.int p4), .val (.long p5), .second, .val (.int p6), .val (.long p7), .second, .val (.int p8), .val (.int p8), .val (.int (p3 + p4))] []))
        refine own_step (fun _ zk => XS.aloadN X0.here hx rfl (hb hby d5_65) rfl rfl zk) ?_
        show own_E p e below _ (s₁.setTop (mkF m 66 #[.val (.ref a1), .val (.int p2), .val (.int p3), .val (.int p4), .val (.long p5), .second, .val (.int p6), .val (.long p7), .second, .val (.int p8), .val (.int p8), .val (.int (p3 + p4))] [(.ref a1)]))
        refine own_step (fun _ zk => XS.iloadN X0.here hx rfl (hb hby d5_66) rfl zk) ?_
        show own_E p e below _ (s₁.setTop (mkF m 67 #[.val (.ref a1), .val (.int p2), .val (.int p3), .val (.int p4), .val (.long p5), .second, .val (.int p6), .val (.long p7), .second, .val (.int p8), .val (.int p8), .val (.int (p3 + p4))] [(.int p2), (.ref a1)]))
        refine own_step (fun _ zk => own_ldB X0 hx hZ e0 A i (by rw [hi]; exact own_toInt i (by omega)) hi16 (g := (mkF m 67 #[.val (.ref a1), .val (.int p2), .val (.int p3), .val (.int p4), .val (.long p5), .second, .val (.int p6), .val (.long p7), .second, .val (.int p8), .val (.int p8), .val (.int (p3 + p4))] [(.int p2), (.ref a1)])) rfl rfl (hb hby d5_67) zk) ?_
        show own_E p e below _ (s₁.setTop (mkF m 68 #[.val (.ref a1), .val (.int p2), .val (.int p3), .val (.int p4), .val (.long p5), .second, .val (.int p6), .val (.long p7), .second, .val (.int p8), .val (.int p8), .val (.int (p3 + p4))] [(.int (g i))]))
        refine own_step (fun _ zk => XS.iload X0.here hx rfl (hb hby d5_68) rfl zk) ?_
        show own_E p e below _ (s₁.setTop (mkF m 70 #[.val (.ref a1), .val (.int p2), .val (.int p3), .val (.int p4), .val (.long p5), .second, .val (.int p6), .val (.long p7), .second, .val (.int p8), .val (.int p8), .val (.int (p3 + p4))] [(.int p8), (.int (g i))]))
        refine own_step (fun _ zk => XS.icmpNo X0.here hx rfl (hb hby d5_70) rfl (teq (he.trans (by unfold own_e; simp only [hc11, hc39, hc48, not_true, not_false_iff, if_true, if_false, and_true, true_and, and_false, false_and, and_self]))).2 zk) ?_
        show own_E p e below _ (s₁.setTop (mkF m 73 #[.val (.ref a1), .val (.int p2), .val (.int p3), .val (.int p4), .val (.long p5), .second, .val (.int p6), .val (.long p7), .second, .val (.int p8), .val (.int p8), .val (.int (p3 + p4))] []))
        refine own_step (fun _ zk => XS.iconst X0.here hx rfl (hb hby d5_73) zk) ?_
        show own_E p e below _ (s₁.setTop (mkF m 74 #[.val (.ref a1), .val (.int p2), .val (.int p3), .val (.int p4), .val (.long p5), .second, .val (.int p6), .val (.long p7), .second, .val (.int p8), .val (.int p8), .val (.int (p3 + p4))] [(.int (1 : Int32))]))
        refine own_step (fun _ zk => XS.goto X0.here hx rfl (pc0 := 74) (pc' := 78) rfl (hb hby d5_74) (by decide) (by decide) zk) ?_
        show own_E p e below _ (s₁.setTop (mkF m 78 #[.val (.ref a1), .val (.int p2), .val (.int p3), .val (.int p4), .val (.long p5), .second, .val (.int p6), .val (.long p7), .second, .val (.int p8), .val (.int p8), .val (.int (p3 + p4))] [(.int (1 : Int32))]))
        refine own_ret X0 hlk (v := some (.int (nar .boolean (1 : Int32)))) (fun h => by rw [Bd.returns] at h; cases h) ?_ (by decide) (by decide) (fun fs hr => retN X0 hx (t := .boolean) Bd.returns (by simp) (hb hby d5_78) hr)
        show Q5 Z a1 p2 p3 p4 p5 p6 p7 p8 g i h0 n0 _ s₁.heap _
        rw [e0]
        exact ⟨by decide, N0, rfl⟩
  · skip
    refine own_step (fun _ zk => XS.icmpNo X0.here hx rfl (hb hby d5_11) rfl (flt hc11).1 zk) ?_
    show own_E p e below _ (s₁.setTop (mkF m 14 #[.val (.ref a1), .val (.int p2), .val (.int p3), .val (.int p4), .val (.long p5), .second, .val (.int p6), .val (.long p7), .second, .val (.int p8), .val (.int p8), .val (.int (p3 + p4))] []))
    refine own_step (fun _ zk => XS.iloadN X0.here hx rfl (hb hby d5_14) rfl zk) ?_
    show own_E p e below _ (s₁.setTop (mkF m 15 #[.val (.ref a1), .val (.int p2), .val (.int p3), .val (.int p4), .val (.long p5), .second, .val (.int p6), .val (.long p7), .second, .val (.int p8), .val (.int p8), .val (.int (p3 + p4))] [(.int p2)]))
    refine own_step (fun _ zk => XS.iload X0.here hx rfl (hb hby d5_15) rfl zk) ?_
    show own_E p e below _ (s₁.setTop (mkF m 17 #[.val (.ref a1), .val (.int p2), .val (.int p3), .val (.int p4), .val (.long p5), .second, .val (.int p6), .val (.long p7), .second, .val (.int p8), .val (.int p8), .val (.int (p3 + p4))] [(.int (p3 + p4)), (.int p2)]))
    by_cases hc17 : p2 < (p3 + p4)
    · skip
      refine own_step (fun _ zk => XS.icmpNo X0.here hx rfl (hb hby d5_17) rfl (tlt hc17).2.1 zk) ?_
      show own_E p e below _ (s₁.setTop (mkF m 20 #[.val (.ref a1), .val (.int p2), .val (.int p3), .val (.int p4), .val (.long p5), .second, .val (.int p6), .val (.long p7), .second, .val (.int p8), .val (.int p8), .val (.int (p3 + p4))] []))
      refine own_step (fun _ zk => Jvm.Free.XT.lload X0.here hx rfl (hb hby d5_20) rfl zk) ?_
      show own_E p e below _ (s₁.setTop (mkF m 22 #[.val (.ref a1), .val (.int p2), .val (.int p3), .val (.int p4), .val (.long p5), .second, .val (.int p6), .val (.long p7), .second, .val (.int p8), .val (.int p8), .val (.int (p3 + p4))] [(.long p5)]))
      refine own_step (fun _ zk => XS.bipush X0.here hx rfl (hb hby d5_22) zk) ?_
      show own_E p e below _ (s₁.setTop (mkF m 24 #[.val (.ref a1), .val (.int p2), .val (.int p3), .val (.int p4), .val (.long p5), .second, .val (.int p6), .val (.long p7), .second, .val (.int p8), .val (.int p8), .val (.int (p3 + p4))] [(.int (8 : Int32)), (.long p5)]))
      refine own_step (fun _ zk => XS.iloadN X0.here hx rfl (hb hby d5_24) rfl zk) ?_
      show own_E p e below _ (s₁.setTop (mkF m 25 #[.val (.ref a1), .val (.int p2), .val (.int p3), .val (.int p4), .val (.long p5), .second, .val (.int p6), .val (.long p7), .second, .val (.int p8), .val (.int p8), .val (.int (p3 + p4))] [(.int p2), (.int (8 : Int32)), (.long p5)]))
      refine own_step (fun _ zk => XS.iloadN X0.here hx rfl (hb hby d5_25) rfl zk) ?_
      show own_E p e below _ (s₁.setTop (mkF m 26 #[.val (.ref a1), .val (.int p2), .val (.int p3), .val (.int p4), .val (.long p5), .second, .val (.int p6), .val (.long p7), .second, .val (.int p8), .val (.int p8), .val (.int (p3 + p4))] [(.int p3), (.int p2), (.int (8 : Int32)), (.long p5)]))
      refine own_step (fun _ zk => XS.isub X0.here hx rfl (hb hby d5_26) rfl zk) ?_
      show own_E p e below _ (s₁.setTop (mkF m 27 #[.val (.ref a1), .val (.int p2), .val (.int p3), .val (.int p4), .val (.long p5), .second, .val (.int p6), .val (.long p7), .second, .val (.int p8), .val (.int p8), .val (.int (p3 + p4))] [(.int (p2 - p3)), (.int (8 : Int32)), (.long p5)]))
      refine own_step (fun _ zk => XS.imul X0.here hx rfl (hb hby d5_27) rfl zk) ?_
      show own_E p e below _ (s₁.setTop (mkF m 28 #[.val (.ref a1), .val (.int p2), .val (.int p3), .val (.int p4), .val (.long p5), .second, .val (.int p6), .val (.long p7), .second, .val (.int p8), .val (.int p8), .val (.int (p3 + p4))] [(.int ((8 : Int32) * (p2 - p3))), (.long p5)]))
      refine own_step (fun _ zk => Jvm.Free.XT.lushr X0.here hx rfl (hb hby d5_28) rfl zk) ?_
      show own_E p e below _ (s₁.setTop (mkF m 29 #[.val (.ref a1), .val (.int p2), .val (.int p3), .val (.int p4), .val (.long p5), .second, .val (.int p6), .val (.long p7), .second, .val (.int p8), .val (.int p8), .val (.int (p3 + p4))] [(.long (Jvm.Free.XT.ushrL p5 ((8 : Int32) * (p2 - p3))))]))
      refine own_step (fun _ zk => Jvm.Free.XT.l2i X0.here hx rfl (hb hby d5_29) rfl zk) ?_
      show own_E p e below _ (s₁.setTop (mkF m 30 #[.val (.ref a1), .val (.int p2), .val (.int p3), .val (.int p4), .val (.long p5), .second, .val (.int p6), .val (.long p7), .second, .val (.int p8), .val (.int p8), .val (.int (p3 + p4))] [(.int (Int64.toInt32 (Jvm.Free.XT.ushrL p5 ((8 : Int32) * (p2 - p3)))))]))
      refine own_step (fun _ zk => Jvm.Free.XT.i2b X0.here hx rfl (hb hby d5_30) rfl zk) ?_
      show own_E p e below _ (s₁.setTop (mkF m 31 #[.val (.ref a1), .val (.int p2), .val (.int p3), .val (.int p4), .val (.long p5), .second, .val (.int p6), .val (.long p7), .second, .val (.int p8), .val (.int p8), .val (.int (p3 + p4))] [(.int (Int8.toInt32 (Int32.toInt8 (Int64.toInt32 (Jvm.Free.XT.ushrL p5 ((8 : Int32) * (p2 - p3)))))))]))
      refine own_step (fun _ zk => XS.istore X0.here hx rfl (hb hby d5_31) rfl (l' := #[.val (.ref a1), .val (.int p2), .val (.int p3), .val (.int p4), .val (.long p5), .second, .val (.int p6), .val (.long p7), .second, .val (.int p8), .val (.int (Int8.toInt32 (Int32.toInt8 (Int64.toInt32 (Jvm.Free.XT.ushrL p5 ((8 : Int32) * (p2 - p3))))))), .val (.int (p3 + p4))]) rfl zk) ?_
      show own_E p e below _ (s₁.setTop (mkF m 33 #[.val (.ref a1), .val (.int p2), .val (.int p3), .val (.int p4), .val (.long p5), .second, .val (.int p6), .val (.long p7), .second, .val (.int p8), .val (.int (Int8.toInt32 (Int32.toInt8 (Int64.toInt32 (Jvm.Free.XT.ushrL p5 ((8 : Int32) * (p2 - p3))))))), .val (.int (p3 + p4))] []))
      refine own_step (fun _ zk => XS.goto X0.here hx rfl (pc0 := 33) (pc' := 65) rfl (hb hby d5_33) (by decide) (by decide) zk) ?_
      show own_E p e below _ (s₁.setTop (mkF m 65 #[.val (.ref a1), .val (.int p2), .val (.int p3), .val (.int p4), .val (.long p5), .second, .val (.int p6), .val (.long p7), .second, .val (.int p8), .val (.int (Int8.toInt32 (Int32.toInt8 (Int64.toInt32 (Jvm.Free.XT.ushrL p5 ((8 : Int32) * (p2 - p3))))))), .val (.int (p3 + p4))] []))
      refine own_step (fun _ zk => XS.aloadN X0.here hx rfl (hb hby d5_65) rfl rfl zk) ?_
      show own_E p e below _ (s₁.setTop (mkF m 66 #[.val (.ref a1), .val (.int p2), .val (.int p3), .val (.int p4), .val (.long p5), .second, .val (.int p6), .val (.long p7), .second, .val (.int p8), .val (.int (Int8.toInt32 (Int32.toInt8 (Int64.toInt32 (Jvm.Free.XT.ushrL p5 ((8 : Int32) * (p2 - p3))))))), .val (.int (p3 + p4))] [(.ref a1)]))
      refine own_step (fun _ zk => XS.iloadN X0.here hx rfl (hb hby d5_66) rfl zk) ?_
      show own_E p e below _ (s₁.setTop (mkF m 67 #[.val (.ref a1), .val (.int p2), .val (.int p3), .val (.int p4), .val (.long p5), .second, .val (.int p6), .val (.long p7), .second, .val (.int p8), .val (.int (Int8.toInt32 (Int32.toInt8 (Int64.toInt32 (Jvm.Free.XT.ushrL p5 ((8 : Int32) * (p2 - p3))))))), .val (.int (p3 + p4))] [(.int p2), (.ref a1)]))
      refine own_step (fun _ zk => own_ldB X0 hx hZ e0 A i (by rw [hi]; exact own_toInt i (by omega)) hi16 (g := (mkF m 67 #[.val (.ref a1), .val (.int p2), .val (.int p3), .val (.int p4), .val (.long p5), .second, .val (.int p6), .val (.long p7), .second, .val (.int p8), .val (.int (Int8.toInt32 (Int32.toInt8 (Int64.toInt32 (Jvm.Free.XT.ushrL p5 ((8 : Int32) * (p2 - p3))))))), .val (.int (p3 + p4))] [(.int p2), (.ref a1)])) rfl rfl (hb hby d5_67) zk) ?_
      show own_E p e below _ (s₁.setTop (mkF m 68 #[.val (.ref a1), .val (.int p2), .val (.int p3), .val (.int p4), .val (.long p5), .second, .val (.int p6), .val (.long p7), .second, .val (.int p8), .val (.int (Int8.toInt32 (Int32.toInt8 (Int64.toInt32 (Jvm.Free.XT.ushrL p5 ((8 : Int32) * (p2 - p3))))))), .val (.int (p3 + p4))] [(.int (g i))]))
      refine own_step (fun _ zk => XS.iload X0.here hx rfl (hb hby d5_68) rfl zk) ?_
      show own_E p e below _ (s₁.setTop (mkF m 70 #[.val (.ref a1), .val (.int p2), .val (.int p3), .val (.int p4), .val (.long p5), .second, .val (.int p6), .val (.long p7), .second, .val (.int p8), .val (.int (Int8.toInt32 (Int32.toInt8 (Int64.toInt32 (Jvm.Free.XT.ushrL p5 ((8 : Int32) * (p2 - p3))))))), .val (.int (p3 + p4))] [(.int (Int8.toInt32 (Int32.toInt8 (Int64.toInt32 (Jvm.Free.XT.ushrL p5 ((8 : Int32) * (p2 - p3))))))), (.int (g i))]))
      refine own_step (fun _ zk => XS.icmpNo X0.here hx rfl (hb hby d5_70) rfl (teq (he.trans (by unfold own_e; simp only [hc11, hc17, not_true, not_false_iff, if_true, if_false, and_true, true_and, and_false, false_and, and_self]))).2 zk) ?_
      show own_E p e below _ (s₁.setTop (mkF m 73 #[.val (.ref a1), .val (.int p2), .val (.int p3), .val (.int p4), .val (.long p5), .second, .val (.int p6), .val (.long p7), .second, .val (.int p8), .val (.int (Int8.toInt32 (Int32.toInt8 (Int64.toInt32 (Jvm.Free.XT.ushrL p5 ((8 : Int32) * (p2 - p3))))))), .val (.int (p3 + p4))] []))
      refine own_step (fun _ zk => XS.iconst X0.here hx rfl (hb hby d5_73) zk) ?_
      show own_E p e below _ (s₁.setTop (mkF m 74 #[.val (.ref a1), .val (.int p2), .val (.int p3), .val (.int p4), .val (.long p5), .second, .val (.int p6), .val (.long p7), .second, .val (.int p8), .val (.int (Int8.toInt32 (Int32.toInt8 (Int64.toInt32 (Jvm.Free.XT.ushrL p5 ((8 : Int32) * (p2 - p3))))))), .val (.int (p3 + p4))] [(.int (1 : Int32))]))
      refine own_step (fun _ zk => XS.goto X0.here hx rfl (pc0 := 74) (pc' := 78) rfl (hb hby d5_74) (by decide) (by decide) zk) ?_
      show own_E p e below _ (s₁.setTop (mkF m 78 #[.val (.ref a1), .val (.int p2), .val (.int p3), .val (.int p4), .val (.long p5), .second, .val (.int p6), .val (.long p7), .second, .val (.int p8), .val (.int (Int8.toInt32 (Int32.toInt8 (Int64.toInt32 (Jvm.Free.XT.ushrL p5 ((8 : Int32) * (p2 - p3))))))), .val (.int (p3 + p4))] [(.int (1 : Int32))]))
      refine own_ret X0 hlk (v := some (.int (nar .boolean (1 : Int32)))) (fun h => by rw [Bd.returns] at h; cases h) ?_ (by decide) (by decide) (fun fs hr => retN X0 hx (t := .boolean) Bd.returns (by simp) (hb hby d5_78) hr)
      show Q5 Z a1 p2 p3 p4 p5 p6 p7 p8 g i h0 n0 _ s₁.heap _
      rw [e0]
      exact ⟨by decide, N0, rfl⟩
    · skip
      refine own_step (fun _ zk => XS.icmpYes X0.here hx rfl (pc0 := 17) (pc' := 36) rfl (hb hby d5_17) rfl (flt hc17).2.1 (by decide) (by decide) zk) ?_
      show own_E p e below _ (s₁.setTop (mkF m 36 #[.val (.ref a1), .val (.int p2), .val (.int p3), .val (.int p4), .val (.long p5), .second, .val (.int p6), .val (.long p7), .second, .val (.int p8), .val (.int p8), .val (.int (p3 + p4))] []))
      refine own_step (fun _ zk => XS.iloadN X0.here hx rfl (hb hby d5_36) rfl zk) ?_
      show own_E p e below _ (s₁.setTop (mkF m 37 #[.val (.ref a1), .val (.int p2), .val (.int p3), .val (.int p4), .val (.long p5), .second, .val (.int p6), .val (.long p7), .second, .val (.int p8), .val (.int p8), .val (.int (p3 + p4))] [(.int p2)]))
      refine own_step (fun _ zk => XS.iload X0.here hx rfl (hb hby d5_37) rfl zk) ?_
      show own_E p e below _ (s₁.setTop (mkF m 39 #[.val (.ref a1), .val (.int p2), .val (.int p3), .val (.int p4), .val (.long p5), .second, .val (.int p6), .val (.long p7), .second, .val (.int p8), .val (.int p8), .val (.int (p3 + p4))] [(.int (p3 + p4)), (.int p2)]))
      refine own_step (fun _ zk => XS.icmpNo X0.here hx rfl (hb hby d5_39) rfl (flt hc17).1 zk) ?_
      show own_E p e below _ (s₁.setTop (mkF m 42 #[.val (.ref a1), .val (.int p2), .val (.int p3), .val (.int p4), .val (.long p5), .second, .val (.int p6), .val (.long p7), .second, .val (.int p8), .val (.int p8), .val (.int (p3 + p4))] []))
      refine own_step (fun _ zk => XS.iloadN X0.here hx rfl (hb hby d5_42) rfl zk) ?_
      show own_E p e below _ (s₁.setTop (mkF m 43 #[.val (.ref a1), .val (.int p2), .val (.int p3), .val (.int p4), .val (.long p5), .second, .val (.int p6), .val (.long p7), .second, .val (.int p8), .val (.int p8), .val (.int (p3 + p4))] [(.int p2)]))
      refine own_step (fun _ zk => XS.iload X0.here hx rfl (hb hby d5_43) rfl zk) ?_
      show own_E p e below _ (s₁.setTop (mkF m 45 #[.val (.ref a1), .val (.int p2), .val (.int p3), .val (.int p4), .val (.long p5), .second, .val (.int p6), .val (.long p7), .second, .val (.int p8), .val (.int p8), .val (.int (p3 + p4))] [(.int (p3 + p4)), (.int p2)]))
      refine own_step (fun _ zk => XS.iload X0.here hx rfl (hb hby d5_45) rfl zk) ?_
      show own_E p e below _ (s₁.setTop (mkF m 47 #[.val (.ref a1), .val (.int p2), .val (.int p3), .val (.int p4), .val (.long p5), .second, .val (.int p6), .val (.long p7), .second, .val (.int p8), .val (.int p8), .val (.int (p3 + p4))] [(.int p6), (.int (p3 + p4)), (.int p2)]))
      refine own_step (fun _ zk => XS.iadd X0.here hx rfl (hb hby d5_47) rfl zk) ?_
      show own_E p e below _ (s₁.setTop (mkF m 48 #[.val (.ref a1), .val (.int p2), .val (.int p3), .val (.int p4), .val (.long p5), .second, .val (.int p6), .val (.long p7), .second, .val (.int p8), .val (.int p8), .val (.int (p3 + p4))] [(.int ((p3 + p4) + p6)), (.int p2)]))
      by_cases hc48 : p2 < ((p3 + p4) + p6)
      · skip
        refine own_step (fun _ zk => XS.icmpNo X0.here hx rfl (hb hby d5_48) rfl (tlt hc48).2.1 zk) ?_
        show own_E p e below _ (s₁.setTop (mkF m 51 #[.val (.ref a1), .val (.int p2), .val (.int p3), .val (.int p4), .val (.long p5), .second, .val (.int p6), .val (.long p7), .second, .val (.int p8), .val (.int p8), .val (.int (p3 + p4))] []))
        refine own_step (fun _ zk => Jvm.Free.XT.lload X0.here hx rfl (hb hby d5_51) rfl zk) ?_
        show own_E p e below _ (s₁.setTop (mkF m 53 #[.val (.ref a1), .val (.int p2), .val (.int p3), .val (.int p4), .val (.long p5), .second, .val (.int p6), .val (.long p7), .second, .val (.int p8), .val (.int p8), .val (.int (p3 + p4))] [(.long p7)]))
        refine own_step (fun _ zk => XS.bipush X0.here hx rfl (hb hby d5_53) zk) ?_
        show own_E p e below _ (s₁.setTop (mkF m 55 #[.val (.ref a1), .val (.int p2), .val (.int p3), .val (.int p4), .val (.long p5), .second, .val (.int p6), .val (.long p7), .second, .val (.int p8), .val (.int p8), .val (.int (p3 + p4))] [(.int (8 : Int32)), (.long p7)]))
        refine own_step (fun _ zk => XS.iloadN X0.here hx rfl (hb hby d5_55) rfl zk) ?_
        show own_E p e below _ (s₁.setTop (mkF m 56 #[.val (.ref a1), .val (.int p2), .val (.int p3), .val (.int p4), .val (.long p5), .second, .val (.int p6), .val (.long p7), .second, .val (.int p8), .val (.int p8), .val (.int (p3 + p4))] [(.int p2), (.int (8 : Int32)), (.long p7)]))
        refine own_step (fun _ zk => XS.iload X0.here hx rfl (hb hby d5_56) rfl zk) ?_
        show own_E p e below _ (s₁.setTop (mkF m 58 #[.val (.ref a1), .val (.int p2), .val (.int p3), .val (.int p4), .val (.long p5), .second, .val (.int p6), .val (.long p7), .second, .val (.int p8), .val (.int p8), .val (.int (p3 + p4))] [(.int (p3 + p4)), (.int p2), (.int (8 : Int32)), (.long p7)]))
        refine own_step (fun _ zk => XS.isub X0.here hx rfl (hb hby d5_58) rfl zk) ?_
        show own_E p e below _ (s₁.setTop (mkF m 59 #[.val (.ref a1), .val (.int p2), .val (.int p3), .val (.int p4), .val (.long p5), .second, .val (.int p6), .val (.long p7), .second, .val (.int p8), .val (.int p8), .val (.int (p3 + p4))] [(.int (p2 - (p3 + p4))), (.int (8 : Int32)), (.long p7)]))
        refine own_step (fun _ zk => XS.imul X0.here hx rfl (hb hby d5_59) rfl zk) ?_
        show own_E p e below _ (s₁.setTop (mkF m 60 #[.val (.ref a1), .val (.int p2), .val (.int p3), .val (.int p4), .val (.long p5), .second, .val (.int p6), .val (.long p7), .second, .val (.int p8), .val (.int p8), .val (.int (p3 + p4))] [(.int ((8 : Int32) * (p2 - (p3 + p4)))), (.long p7)]))
        refine own_step (fun _ zk => Jvm.Free.XT.lushr X0.here hx rfl (hb hby d5_60) rfl zk) ?_
        show own_E p e below _ (s₁.setTop (mkF m 61 #[.val (.ref a1), .val (.int p2), .val (.int p3), .val (.int p4), .val (.long p5), .second, .val (.int p6), .val (.long p7), .second, .val (.int p8), .val (.int p8), .val (.int (p3 + p4))] [(.long (Jvm.Free.XT.ushrL p7 ((8 : Int32) * (p2 - (p3 + p4)))))]))
        refine own_step (fun _ zk => Jvm.Free.XT.l2i X0.here hx rfl (hb hby d5_61) rfl zk) ?_
        show own_E p e below _ (s₁.setTop (mkF m 62 #[.val (.ref a1), .val (.int p2), .val (.int p3), .val (.int p4), .val (.long p5), .second, .val (.int p6), .val (.long p7), .second, .val (.int p8), .val (.int p8), .val (.int (p3 + p4))] [(.int (Int64.toInt32 (Jvm.Free.XT.ushrL p7 ((8 : Int32) * (p2 - (p3 + p4))))))]))
        refine own_step (fun _ zk => Jvm.Free.XT.i2b X0.here hx rfl (hb hby d5_62) rfl zk) ?_
        show own_E p e below _ (s₁.setTop (mkF m 63 #[.val (.ref a1), .val (.int p2), .val (.int p3), .val (.int p4), .val (.long p5), .second, .val (.int p6), .val (.long p7), .second, .val (.int p8), .val (.int p8), .val (.int (p3 + p4))] [(.int (Int8.toInt32 (Int32.toInt8 (Int64.toInt32 (Jvm.Free.XT.ushrL p7 ((8 : Int32) * (p2 - (p3 + p4))))))))]))
        refine own_step (fun _ zk => XS.istore X0.here hx rfl (hb hby d5_63) rfl (l' := #[.val (.ref a1), .val (.int p2), .val (.int p3), .val (.int p4), .val (.long p5), .second, .val (.int p6), .val (.long p7), .second, .val (.int p8), .val (.int (Int8.toInt32 (Int32.toInt8 (Int64.toInt32 (Jvm.Free.XT.ushrL p7 ((8 : Int32) * (p2 - (p3 + p4)))))))), .val (.int (p3 + p4))]) rfl zk) ?_
        show own_E p e below _ (s₁.setTop (mkF m 65 #[.val (.ref a1), .val (.int p2), .val (.int p3), .val (.int p4), .val (.long p5), .second, .val (.int p6), .val (.long p7), .second, .val (.int p8), .val (.int (Int8.toInt32 (Int32.toInt8 (Int64.toInt32 (Jvm.Free.XT.ushrL p7 ((8 : Int32) * (p2 - (p3 + p4)))))))), .val (.int (p3 + p4))] []))
        refine own_step (fun _ zk => XS.aloadN X0.here hx rfl (hb hby d5_65) rfl rfl zk) ?_
        show own_E p e below _ (s₁.setTop (mkF m 66 #[.val (.ref a1), .val (.int p2), .val (.int p3), .val (.int p4), .val (.long p5), .second, .val (.int p6), .val (.long p7), .second, .val (.int p8), .val (.int (Int8.toInt32 (Int32.toInt8 (Int64.toInt32 (Jvm.Free.XT.ushrL p7 ((8 : Int32) * (p2 - (p3 + p4)))))))), .val (.int (p3 + p4))] [(.ref a1)]))
        refine own_step (fun _ zk => XS.iloadN X0.here hx rfl (hb hby d5_66) rfl zk) ?_
        show own_E p e below _ (s₁.setTop (mkF m 67 #[.val (.ref a1), .val (.int p2), .val (.int p3), .val (.int p4), .val (.long p5), .second, .val (.int p6), .val (.long p7), .second, .val (.int p8), .val (.int (Int8.toInt32 (Int32.toInt8 (Int64.toInt32 (Jvm.Free.XT.ushrL p7 ((8 : Int32) * (p2 - (p3 + p4)))))))), .val (.int (p3 + p4))] [(.int p2), (.ref a1)]))
        refine own_step (fun _ zk => own_ldB X0 hx hZ e0 A i (by rw [hi]; exact own_toInt i (by omega)) hi16 (g := (mkF m 67 #[.val (.ref a1), .val (.int p2), .val (.int p3), .val (.int p4), .val (.long p5), .second, .val (.int p6), .val (.long p7), .second, .val (.int p8), .val (.int (Int8.toInt32 (Int32.toInt8 (Int64.toInt32 (Jvm.Free.XT.ushrL p7 ((8 : Int32) * (p2 - (p3 + p4)))))))), .val (.int (p3 + p4))] [(.int p2), (.ref a1)])) rfl rfl (hb hby d5_67) zk) ?_
        show own_E p e below _ (s₁.setTop (mkF m 68 #[.val (.ref a1), .val (.int p2), .val (.int p3), .val (.int p4), .val (.long p5), .second, .val (.int p6), .val (.long p7), .second, .val (.int p8), .val (.int (Int8.toInt32 (Int32.toInt8 (Int64.toInt32 (Jvm.Free.XT.ushrL p7 ((8 : Int32) * (p2 - (p3 + p4)))))))), .val (.int (p3 + p4))] [(.int (g i))]))
        refine own_step (fun _ zk => XS.iload X0.here hx rfl (hb hby d5_68) rfl zk) ?_
        show own_E p e below _ (s₁.setTop (mkF m 70 #[.val (.ref a1), .val (.int p2), .val (.int p3), .val (.int p4), .val (.long p5), .second, .val (.int p6), .val (.long p7), .second, .val (.int p8), .val (.int (Int8.toInt32 (Int32.toInt8 (Int64.toInt32 (Jvm.Free.XT.ushrL p7 ((8 : Int32) * (p2 - (p3 + p4)))))))), .val (.int (p3 + p4))] [(.int (Int8.toInt32 (Int32.toInt8 (Int64.toInt32 (Jvm.Free.XT.ushrL p7 ((8 : Int32) * (p2 - (p3 + p4)))))))), (.int (g i))]))
        refine own_step (fun _ zk => XS.icmpNo X0.here hx rfl (hb hby d5_70) rfl (teq (he.trans (by unfold own_e; simp only [hc11, hc17, hc48, not_true, not_false_iff, if_true, if_false, and_true, true_and, and_false, false_and, and_self]))).2 zk) ?_
        show own_E p e below _ (s₁.setTop (mkF m 73 #[.val (.ref a1), .val (.int p2), .val (.int p3), .val (.int p4), .val (.long p5), .second, .val (.int p6), .val (.long p7), .second, .val (.int p8), .val (.int (Int8.toInt32 (Int32.toInt8 (Int64.toInt32 (Jvm.Free.XT.ushrL p7 ((8 : Int32) * (p2 - (p3 + p4)))))))), .val (.int (p3 + p4))] []))
        refine own_step (fun _ zk => XS.iconst X0.here hx rfl (hb hby d5_73) zk) ?_
        show own_E p e below _ (s₁.setTop (mkF m 74 #[.val (.ref a1), .val (.int p2), .val (.int p3), .val (.int p4), .val (.long p5), .second, .val (.int p6), .val (.long p7), .second, .val (.int p8), .val (.int (Int8.toInt32 (Int32.toInt8 (Int64.toInt32 (Jvm.Free.XT.ushrL p7 ((8 : Int32) * (p2 - (p3 + p4)))))))), .val (.int (p3 + p4))] [(.int (1 : Int32))]))
        refine own_step (fun _ zk => XS.goto X0.here hx rfl (pc0 := 74) (pc' := 78) rfl (hb hby d5_74) (by decide) (by decide) zk) ?_
        show own_E p e below _ (s₁.setTop (mkF m 78 #[.val (.ref a1), .val (.int p2), .val (.int p3), .val (.int p4), .val (.long p5), .second, .val (.int p6), .val (.long p7), .second, .val (.int p8), .val (.int (Int8.toInt32 (Int32.toInt8 (Int64.toInt32 (Jvm.Free.XT.ushrL p7 ((8 : Int32) * (p2 - (p3 + p4)))))))), .val (.int (p3 + p4))] [(.int (1 : Int32))]))
        refine own_ret X0 hlk (v := some (.int (nar .boolean (1 : Int32)))) (fun h => by rw [Bd.returns] at h; cases h) ?_ (by decide) (by decide) (fun fs hr => retN X0 hx (t := .boolean) Bd.returns (by simp) (hb hby d5_78) hr)
        show Q5 Z a1 p2 p3 p4 p5 p6 p7 p8 g i h0 n0 _ s₁.heap _
        rw [e0]
        exact ⟨by decide, N0, rfl⟩
      · skip
        refine own_step (fun _ zk => XS.icmpYes X0.here hx rfl (pc0 := 48) (pc' := 65) rfl (hb hby d5_48) rfl (flt hc48).2.1 (by decide) (by decide) zk) ?_
        show own_E p e below _ (s₁.setTop (mkF m 65 #[.val (.ref a1), .val (.int p2), .val (.int p3), .val (.int p4), .val (.long p5), .second, .val (.int p6), .val (.long p7), .second, .val (.int p8), .val (.int p8), .val (.int (p3 + p4))] []))
        refine own_step (fun _ zk => XS.aloadN X0.here hx rfl (hb hby d5_65) rfl rfl zk) ?_
        show own_E p e below _ (s₁.setTop (mkF m 66 #[.val (.ref a1), .val (.int p2), .val (.int p3), .val (.int p4), .val (.long p5), .second, .val (.int p6), .val (.long p7), .second, .val (.int p8), .val (.int p8), .val (.int (p3 + p4))] [(.ref a1)]))
        refine own_step (fun _ zk => XS.iloadN X0.here hx rfl (hb hby d5_66) rfl zk) ?_
        show own_E p e below _ (s₁.setTop (mkF m 67 #[.val (.ref a1), .val (.int p2), .val (.int p3), .val (.int p4), .val (.long p5), .second, .val (.int p6), .val (.long p7), .second, .val (.int p8), .val (.int p8), .val (.int (p3 + p4))] [(.int p2), (.ref a1)]))
        refine own_step (fun _ zk => own_ldB X0 hx hZ e0 A i (by rw [hi]; exact own_toInt i (by omega)) hi16 (g := (mkF m 67 #[.val (.ref a1), .val (.int p2), .val (.int p3), .val (.int p4), .val (.long p5), .second, .val (.int p6), .val (.long p7), .second, .val (.int p8), .val (.int p8), .val (.int (p3 + p4))] [(.int p2), (.ref a1)])) rfl rfl (hb hby d5_67) zk) ?_
        show own_E p e below _ (s₁.setTop (mkF m 68 #[.val (.ref a1), .val (.int p2), .val (.int p3), .val (.int p4), .val (.long p5), .second, .val (.int p6), .val (.long p7), .second, .val (.int p8), .val (.int p8), .val (.int (p3 + p4))] [(.int (g i))]))
        refine own_step (fun _ zk => XS.iload X0.here hx rfl (hb hby d5_68) rfl zk) ?_
        show own_E p e below _ (s₁.setTop (mkF m 70 #[.val (.ref a1), .val (.int p2), .val (.int p3), .val (.int p4), .val (.long p5), .second, .val (.int p6), .val (.long p7), .second, .val (.int p8), .val (.int p8), .val (.int (p3 + p4))] [(.int p8), (.int (g i))]))
        refine own_step (fun _ zk => XS.icmpNo X0.here hx rfl (hb hby d5_70) rfl (teq (he.trans (by unfold own_e; simp only [hc11, hc17, hc48, not_true, not_false_iff, if_true, if_false, and_true, true_and, and_false, false_and, and_self]))).2 zk) ?_
        show own_E p e below _ (s₁.setTop (mkF m 73 #[.val (.ref a1), .val (.int p2), .val (.int p3), .val (.int p4), .val (.long p5), .second, .val (.int p6), .val (.long p7), .second, .val (.int p8), .val (.int p8), .val (.int (p3 + p4))] []))
        refine own_step (fun _ zk => XS.iconst X0.here hx rfl (hb hby d5_73) zk) ?_
        show own_E p e below _ (s₁.setTop (mkF m 74 #[.val (.ref a1), .val (.int p2), .val (.int p3), .val (.int p4), .val (.long p5), .second, .val (.int p6), .val (.long p7), .second, .val (.int p8), .val (.int p8), .val (.int (p3 + p4))] [(.int (1 : Int32))]))
        refine own_step (fun _ zk => XS.goto X0.here hx rfl (pc0 := 74) (pc' := 78) rfl (hb hby d5_74) (by decide) (by decide) zk) ?_
        show own_E p e below _ (s₁.setTop (mkF m 78 #[.val (.ref a1), .val (.int p2), .val (.int p3), .val (.int p4), .val (.long p5), .second, .val (.int p6), .val (.long p7), .second, .val (.int p8), .val (.int p8), .val (.int (p3 + p4))] [(.int (1 : Int32))]))
        refine own_ret X0 hlk (v := some (.int (nar .boolean (1 : Int32)))) (fun h => by rw [Bd.returns] at h; cases h) ?_ (by decide) (by decide) (fun fs hr => retN X0 hx (t := .boolean) Bd.returns (by simp) (hb hby d5_78) hr)
        show Q5 Z a1 p2 p3 p4 p5 p6 p7 p8 g i h0 n0 _ s₁.heap _
        rw [e0]
        exact ⟨by decide, N0, rfl⟩
theorem pd_0_0 : parseMethodDescriptor "([BI)V" = some ⟨[(.array .byte), .int], none⟩ := by decide +kernel
theorem pd_0_1 : parseMethodDescriptor "(JI)V" = some ⟨[.long, .int], none⟩ := by decide +kernel
theorem pd_0_2 : parseMethodDescriptor "()I" = some ⟨[], some .int⟩ := by decide +kernel
theorem pd_0_3 : parseMethodDescriptor "(JI)J" = some ⟨[.long, .int], some .long⟩ := by decide +kernel
theorem pd_0_4 : parseMethodDescriptor "([BIIIJIJB)Z" = some ⟨[(.array .byte), .int, .int, .int, .long, .int, .long, .byte], some .boolean⟩ := by decide +kernel
theorem pn_0 : plainName "com/example/furrow/furrow/codec/BitWriterPadPinLaw" = true := by first | (simp [plainName, overriddenIn]; done) | decide +kernel
theorem ef_0 (m : MethodId) (p1 : Int64) (p2 : Int32) (p3 : Int64) (p4 : Int32) (p5 : Int32) (p6 : Int32)  : entryFrame m #[(.long p1), (.int p2), (.long p3), (.int p4), (.int p5), (.int p6)] maxLocals = mkF m 0 #[.val (.long p1), .second, .val (.int p2), .val (.long p3), .second, .val (.int p4), .val (.int p5), .val (.int p6), .unset, .unset, .unset, .unset, .unset, .unset, .unset, .unset, .unset, .unset, .unset, .unset, .unset, .unset] [] := by first | (simp [entryFrame, mkF, argsToLocals, Value.category, maxLocals]; done) | rfl
def Q0 (Z : State) (p1 : Int64) (p2 : Int32) (p3 : Int64) (p4 : Int32) (p5 : Int32) (p6 : Int32)  (h0 : Heap) (n0 : Nat) (v : Option Value) (h : Heap) (L : List Loc) : Prop := v = some (.int 1) ∧ Fr n0 L
set_option maxRecDepth 65536 in
set_option maxHeartbeats 40000000 in
theorem rm0 (l : Launch) (Z : State) (a0 : Array Value) (hw : ∀ d ∈ tables_1, d.before a0 Z = true) (ws : List Jvm.Cond) (p1 : Int64) (p2 : Int32) (p3 : Int64) (p4 : Int32) (p5 : Int32) (p6 : Int32)  (h0 : Heap) (n0 : Nat) (Z0 : n0 ≤ h0.size)  :
    MetFree l x (head1 (Jvm.Cond.code x code maxLocals ret :: ws) room_1) (fun zA zU => zA = #[(.long p1), (.int p2), (.long p3), (.int p4), (.int p5), (.int p6)] ∧ Z.Warmed39 zU.vm ∧ zU.heap = h0) (fun _ _ _ _ _ => True) (fun _ zU zo zT => ∃ zv zL, zo = .returned zv ∧ Q0 Z p1 p2 p3 p4 p5 p6 h0 n0 zv zT.heap zL ∧ FrameEnd zU zo zT zL room_1.cells room_1.slots) := by
  refine MetFree.of_bodySF (plainFor_of_name pn_0) hisR ?_
  intro p e s m args below meth c s₁ Bd hml0 hP hK
  obtain ⟨rfl, hZ, hh⟩ := hP
  have hx := Bd.exec
  have hby := Bd.bytes
  have hml : c.maxLocals = 22 := hml0
  have hown : s.vm.findClass "com/example/furrow/furrow/codec/BitWriterPadPinLaw" = some m.cls := findClass_of_methodNamed Bd.named
  have hnm := (name_of_methodNamed Bd.named Bd.method).1
  have hlk : meth.locks = false := Bd.notSynchronized
  have X0 : Stand p l e room_1 s m #[(.long p1), (.int p2), (.long p3), (.int p4), (.int p5), (.int p6)] below meth c s₁ [] 0 0 := Stand.of_body Bd
  have e0 : s₁.heap = h0 := by rw [← hh, Bd.state]; rfl
  have N0 := Fr.nil n0
  refine own_step (p := p) (e := e) (below := below) (U' := s₁.setTop (mkF m 0 #[.val (.long p1), .second, .val (.int p2), .val (.long p3), .second, .val (.int p4), .val (.int p5), .val (.int p6), .unset, .unset, .unset, .unset, .unset, .unset, .unset, .unset, .unset, .unset, .unset, .unset, .unset, .unset] [])) (fun _ zk => castTop (ef_0 m p1 p2 p3 p4 p5 p6 ) zk) ?_
  have K_0 : Keep h0 h0 [] := Keep.refl _ _
  refine own_step (fun _ zk => XS.iloadN X0.here hx rfl (hb hby at_0) rfl zk) ?_
  show own_E p e below _ (s₁.setTop (mkF m 1 #[.val (.long p1), .second, .val (.int p2), .val (.long p3), .second, .val (.int p4), .val (.int p5), .val (.int p6), .unset, .unset, .unset, .unset, .unset, .unset, .unset, .unset, .unset, .unset, .unset, .unset, .unset, .unset] [(.int p2)]))
  refine own_step (fun _ zk => X0.ldcInt hx (v := 2147483647) hown (mvT hZ (hw _ (List.mem_of_getElem? (i := 0) rfl))) (g := (mkF m 1 #[.val (.long p1), .second, .val (.int p2), .val (.long p3), .second, .val (.int p4), .val (.int p5), .val (.int p6), .unset, .unset, .unset, .unset, .unset, .unset, .unset, .unset, .unset, .unset, .unset, .unset, .unset, .unset] [(.int p2)])) rfl (hb hby at_1) _ zk) ?_
  show own_E p e below _ (s₁.setTop (mkF m 3 #[.val (.long p1), .second, .val (.int p2), .val (.long p3), .second, .val (.int p4), .val (.int p5), .val (.int p6), .unset, .unset, .unset, .unset, .unset, .unset, .unset, .unset, .unset, .unset, .unset, .unset, .unset, .unset] [(.int (2147483647 : Int32)), (.int p2)]))
  refine own_step (fun _ zk => XS.iand X0.here hx rfl (hb hby at_3) rfl zk) ?_
  show own_E p e below _ (s₁.setTop (mkF m 4 #[.val (.long p1), .second, .val (.int p2), .val (.long p3), .second, .val (.int p4), .val (.int p5), .val (.int p6), .unset, .unset, .unset, .unset, .unset, .unset, .unset, .unset, .unset, .unset, .unset, .unset, .unset, .unset] [(.int (p2 &&& (2147483647 : Int32)))]))
  refine own_step (fun _ zk => XS.bipush X0.here hx rfl (hb hby at_4) zk) ?_
  show own_E p e below _ (s₁.setTop (mkF m 6 #[.val (.long p1), .second, .val (.int p2), .val (.long p3), .second, .val (.int p4), .val (.int p5), .val (.int p6), .unset, .unset, .unset, .unset, .unset, .unset, .unset, .unset, .unset, .unset, .unset, .unset, .unset, .unset] [(.int (32 : Int32)), (.int (p2 &&& (2147483647 : Int32)))]))
  refine own_step (fun _ zk => XS.irem X0.here hx rfl (hb hby at_6) rfl (by decide) zk) ?_
  show own_E p e below _ (s₁.setTop (mkF m 7 #[.val (.long p1), .second, .val (.int p2), .val (.long p3), .second, .val (.int p4), .val (.int p5), .val (.int p6), .unset, .unset, .unset, .unset, .unset, .unset, .unset, .unset, .unset, .unset, .unset, .unset, .unset, .unset] [(.int ((p2 &&& (2147483647 : Int32)) - ((p2 &&& (2147483647 : Int32)) / (32 : Int32)) * (32 : Int32)))]))
  generalize hC1 : ((p2 &&& (2147483647 : Int32)) - ((p2 &&& (2147483647 : Int32)) / (32 : Int32)) * (32 : Int32)) = C1
  show own_E p e below _ (s₁.setTop (mkF m 7 #[.val (.long p1), .second, .val (.int p2), .val (.long p3), .second, .val (.int p4), .val (.int p5), .val (.int p6), .unset, .unset, .unset, .unset, .unset, .unset, .unset, .unset, .unset, .unset, .unset, .unset, .unset, .unset] [(.int C1)]))
  obtain ⟨k1, hC1e, hk1⟩ := own_cnt _ _ hC1
  refine own_step (fun _ zk => XS.istore X0.here hx rfl (hb hby at_7) rfl (l' := #[.val (.long p1), .second, .val (.int p2), .val (.long p3), .second, .val (.int p4), .val (.int p5), .val (.int p6), .val (.int C1), .unset, .unset, .unset, .unset, .unset, .unset, .unset, .unset, .unset, .unset, .unset, .unset, .unset]) rfl zk) ?_
  show own_E p e below _ (s₁.setTop (mkF m 9 #[.val (.long p1), .second, .val (.int p2), .val (.long p3), .second, .val (.int p4), .val (.int p5), .val (.int p6), .val (.int C1), .unset, .unset, .unset, .unset, .unset, .unset, .unset, .unset, .unset, .unset, .unset, .unset, .unset] []))
  refine own_step (fun _ zk => XS.iload X0.here hx rfl (hb hby at_9) rfl zk) ?_
  show own_E p e below _ (s₁.setTop (mkF m 11 #[.val (.long p1), .second, .val (.int p2), .val (.long p3), .second, .val (.int p4), .val (.int p5), .val (.int p6), .val (.int C1), .unset, .unset, .unset, .unset, .unset, .unset, .unset, .unset, .unset, .unset, .unset, .unset, .unset] [(.int p4)]))
  refine own_step (fun _ zk => X0.ldcInt hx (v := 2147483647) hown (mvT hZ (hw _ (List.mem_of_getElem? (i := 0) rfl))) (g := (mkF m 11 #[.val (.long p1), .second, .val (.int p2), .val (.long p3), .second, .val (.int p4), .val (.int p5), .val (.int p6), .val (.int C1), .unset, .unset, .unset, .unset, .unset, .unset, .unset, .unset, .unset, .unset, .unset, .unset, .unset] [(.int p4)])) rfl (hb hby at_11) _ zk) ?_
  show own_E p e below _ (s₁.setTop (mkF m 13 #[.val (.long p1), .second, .val (.int p2), .val (.long p3), .second, .val (.int p4), .val (.int p5), .val (.int p6), .val (.int C1), .unset, .unset, .unset, .unset, .unset, .unset, .unset, .unset, .unset, .unset, .unset, .unset, .unset] [(.int (2147483647 : Int32)), (.int p4)]))
  refine own_step (fun _ zk => XS.iand X0.here hx rfl (hb hby at_13) rfl zk) ?_
  show own_E p e below _ (s₁.setTop (mkF m 14 #[.val (.long p1), .second, .val (.int p2), .val (.long p3), .second, .val (.int p4), .val (.int p5), .val (.int p6), .val (.int C1), .unset, .unset, .unset, .unset, .unset, .unset, .unset, .unset, .unset, .unset, .unset, .unset, .unset] [(.int (p4 &&& (2147483647 : Int32)))]))
  refine own_step (fun _ zk => XS.bipush X0.here hx rfl (hb hby at_14) zk) ?_
  show own_E p e below _ (s₁.setTop (mkF m 16 #[.val (.long p1), .second, .val (.int p2), .val (.long p3), .second, .val (.int p4), .val (.int p5), .val (.int p6), .val (.int C1), .unset, .unset, .unset, .unset, .unset, .unset, .unset, .unset, .unset, .unset, .unset, .unset, .unset] [(.int (32 : Int32)), (.int (p4 &&& (2147483647 : Int32)))]))
  refine own_step (fun _ zk => XS.irem X0.here hx rfl (hb hby at_16) rfl (by decide) zk) ?_
  show own_E p e below _ (s₁.setTop (mkF m 17 #[.val (.long p1), .second, .val (.int p2), .val (.long p3), .second, .val (.int p4), .val (.int p5), .val (.int p6), .val (.int C1), .unset, .unset, .unset, .unset, .unset, .unset, .unset, .unset, .unset, .unset, .unset, .unset, .unset] [(.int ((p4 &&& (2147483647 : Int32)) - ((p4 &&& (2147483647 : Int32)) / (32 : Int32)) * (32 : Int32)))]))
  generalize hC2 : ((p4 &&& (2147483647 : Int32)) - ((p4 &&& (2147483647 : Int32)) / (32 : Int32)) * (32 : Int32)) = C2
  show own_E p e below _ (s₁.setTop (mkF m 17 #[.val (.long p1), .second, .val (.int p2), .val (.long p3), .second, .val (.int p4), .val (.int p5), .val (.int p6), .val (.int C1), .unset, .unset, .unset, .unset, .unset, .unset, .unset, .unset, .unset, .unset, .unset, .unset, .unset] [(.int C2)]))
  obtain ⟨k2, hC2e, hk2⟩ := own_cnt _ _ hC2
  refine own_step (fun _ zk => XS.istore X0.here hx rfl (hb hby at_17) rfl (l' := #[.val (.long p1), .second, .val (.int p2), .val (.long p3), .second, .val (.int p4), .val (.int p5), .val (.int p6), .val (.int C1), .val (.int C2), .unset, .unset, .unset, .unset, .unset, .unset, .unset, .unset, .unset, .unset, .unset, .unset]) rfl zk) ?_
  show own_E p e below _ (s₁.setTop (mkF m 19 #[.val (.long p1), .second, .val (.int p2), .val (.long p3), .second, .val (.int p4), .val (.int p5), .val (.int p6), .val (.int C1), .val (.int C2), .unset, .unset, .unset, .unset, .unset, .unset, .unset, .unset, .unset, .unset, .unset, .unset] []))
  refine own_step (fun _ zk => XS.iload X0.here hx rfl (hb hby at_19) rfl zk) ?_
  show own_E p e below _ (s₁.setTop (mkF m 21 #[.val (.long p1), .second, .val (.int p2), .val (.long p3), .second, .val (.int p4), .val (.int p5), .val (.int p6), .val (.int C1), .val (.int C2), .unset, .unset, .unset, .unset, .unset, .unset, .unset, .unset, .unset, .unset, .unset, .unset] [(.int p5)]))
  refine own_step (fun _ zk => XS.bipush X0.here hx rfl (hb hby at_21) zk) ?_
  show own_E p e below _ (s₁.setTop (mkF m 23 #[.val (.long p1), .second, .val (.int p2), .val (.long p3), .second, .val (.int p4), .val (.int p5), .val (.int p6), .val (.int C1), .val (.int C2), .unset, .unset, .unset, .unset, .unset, .unset, .unset, .unset, .unset, .unset, .unset, .unset] [(.int (7 : Int32)), (.int p5)]))
  refine own_step (fun _ zk => XS.iand X0.here hx rfl (hb hby at_23) rfl zk) ?_
  show own_E p e below _ (s₁.setTop (mkF m 24 #[.val (.long p1), .second, .val (.int p2), .val (.long p3), .second, .val (.int p4), .val (.int p5), .val (.int p6), .val (.int C1), .val (.int C2), .unset, .unset, .unset, .unset, .unset, .unset, .unset, .unset, .unset, .unset, .unset, .unset] [(.int (p5 &&& (7 : Int32)))]))
  generalize hPP : (p5 &&& (7 : Int32)) = PP
  show own_E p e below _ (s₁.setTop (mkF m 24 #[.val (.long p1), .second, .val (.int p2), .val (.long p3), .second, .val (.int p4), .val (.int p5), .val (.int p6), .val (.int C1), .val (.int C2), .unset, .unset, .unset, .unset, .unset, .unset, .unset, .unset, .unset, .unset, .unset, .unset] [(.int PP)]))
  obtain ⟨P, hPe, hP7⟩ := own_pos _ _ hPP
  refine own_step (fun _ zk => XS.istore X0.here hx rfl (hb hby at_24) rfl (l' := #[.val (.long p1), .second, .val (.int p2), .val (.long p3), .second, .val (.int p4), .val (.int p5), .val (.int p6), .val (.int C1), .val (.int C2), .val (.int PP), .unset, .unset, .unset, .unset, .unset, .unset, .unset, .unset, .unset, .unset, .unset]) rfl zk) ?_
  show own_E p e below _ (s₁.setTop (mkF m 26 #[.val (.long p1), .second, .val (.int p2), .val (.long p3), .second, .val (.int p4), .val (.int p5), .val (.int p6), .val (.int C1), .val (.int C2), .val (.int PP), .unset, .unset, .unset, .unset, .unset, .unset, .unset, .unset, .unset, .unset, .unset] []))
  refine own_step (fun _ zk => XS.iload X0.here hx rfl (hb hby at_26) rfl zk) ?_
  show own_E p e below _ (s₁.setTop (mkF m 28 #[.val (.long p1), .second, .val (.int p2), .val (.long p3), .second, .val (.int p4), .val (.int p5), .val (.int p6), .val (.int C1), .val (.int C2), .val (.int PP), .unset, .unset, .unset, .unset, .unset, .unset, .unset, .unset, .unset, .unset, .unset] [(.int p6)]))
  refine own_step (fun _ zk => Jvm.Free.XT.i2b X0.here hx rfl (hb hby at_28) rfl zk) ?_
  show own_E p e below _ (s₁.setTop (mkF m 29 #[.val (.long p1), .second, .val (.int p2), .val (.long p3), .second, .val (.int p4), .val (.int p5), .val (.int p6), .val (.int C1), .val (.int C2), .val (.int PP), .unset, .unset, .unset, .unset, .unset, .unset, .unset, .unset, .unset, .unset, .unset] [(.int (Int8.toInt32 (Int32.toInt8 p6)))]))
  generalize hff : (Int8.toInt32 (Int32.toInt8 p6)) = ff
  show own_E p e below _ (s₁.setTop (mkF m 29 #[.val (.long p1), .second, .val (.int p2), .val (.long p3), .second, .val (.int p4), .val (.int p5), .val (.int p6), .val (.int C1), .val (.int C2), .val (.int PP), .unset, .unset, .unset, .unset, .unset, .unset, .unset, .unset, .unset, .unset, .unset] [(.int ff)]))
  have hffn : nar .byte ff = ff := by rw [← hff]; exact congrArg Int8.toInt32 (own_i8 _)
  refine own_step (fun _ zk => XS.istore X0.here hx rfl (hb hby at_29) rfl (l' := #[.val (.long p1), .second, .val (.int p2), .val (.long p3), .second, .val (.int p4), .val (.int p5), .val (.int p6), .val (.int C1), .val (.int C2), .val (.int PP), .val (.int ff), .unset, .unset, .unset, .unset, .unset, .unset, .unset, .unset, .unset, .unset]) rfl zk) ?_
  show own_E p e below _ (s₁.setTop (mkF m 31 #[.val (.long p1), .second, .val (.int p2), .val (.long p3), .second, .val (.int p4), .val (.int p5), .val (.int p6), .val (.int C1), .val (.int C2), .val (.int PP), .val (.int ff), .unset, .unset, .unset, .unset, .unset, .unset, .unset, .unset, .unset, .unset] []))
  refine own_step (fun _ zk => XS.bipush X0.here hx rfl (hb hby at_31) zk) ?_
  show own_E p e below _ (s₁.setTop (mkF m 33 #[.val (.long p1), .second, .val (.int p2), .val (.long p3), .second, .val (.int p4), .val (.int p5), .val (.int p6), .val (.int C1), .val (.int C2), .val (.int PP), .val (.int ff), .unset, .unset, .unset, .unset, .unset, .unset, .unset, .unset, .unset, .unset] [(.int (16 : Int32))]))
  obtain ⟨T1, h1, c1, X1, e1, E1, A1, st1⟩ := newP X0 hx hZ (hw _ (List.mem_of_getElem? (i := 1) rfl)) e0 (g := (mkF m 33 #[.val (.long p1), .second, .val (.int p2), .val (.long p3), .second, .val (.int p4), .val (.int p5), .val (.int p6), .val (.int C1), .val (.int C2), .val (.int PP), .val (.int ff), .unset, .unset, .unset, .unset, .unset, .unset, .unset, .unset, .unset, .unset] [(.int (16 : Int32))])) rfl (hb hby at_33) rfl (by decide) (cap := 16) (by decide) (by decide) (by decide) (by decide) 
  obtain ⟨b, g_b⟩ : ∃ z, z = h0.size := ⟨_, rfl⟩
  rw [← g_b] at A1 st1
  have gh_b : h0.size ≤ b := Nat.le_trans K_0.1 (Nat.le_of_eq g_b.symm)
  have ge_b : n0 ≤ b := Nat.le_trans Z0 gh_b
  have K_1 := Keep.ext K_0 E1
  have A_1 : own_A Z h1 b .byte 16 (own_fill ff 0) := own_A_new A1 (by decide)
  refine own_step st1 ?_
  show own_E p e below _ (T1.setTop (mkF m 35 #[.val (.long p1), .second, .val (.int p2), .val (.long p3), .second, .val (.int p4), .val (.int p5), .val (.int p6), .val (.int C1), .val (.int C2), .val (.int PP), .val (.int ff), .unset, .unset, .unset, .unset, .unset, .unset, .unset, .unset, .unset, .unset] [(.ref b)]))
  refine own_step (fun _ zk => XS.astore X1.here hx rfl (hb hby at_35) rfl rfl (l' := #[.val (.long p1), .second, .val (.int p2), .val (.long p3), .second, .val (.int p4), .val (.int p5), .val (.int p6), .val (.int C1), .val (.int C2), .val (.int PP), .val (.int ff), .val (.ref b), .unset, .unset, .unset, .unset, .unset, .unset, .unset, .unset, .unset]) rfl zk) ?_
  show own_E p e below _ (T1.setTop (mkF m 37 #[.val (.long p1), .second, .val (.int p2), .val (.long p3), .second, .val (.int p4), .val (.int p5), .val (.int p6), .val (.int C1), .val (.int C2), .val (.int PP), .val (.int ff), .val (.ref b), .unset, .unset, .unset, .unset, .unset, .unset, .unset, .unset, .unset] []))
  refine own_step (fun _ zk => XS.aload X1.here hx rfl (hb hby at_37) rfl rfl zk) ?_
  show own_E p e below _ (T1.setTop (mkF m 39 #[.val (.long p1), .second, .val (.int p2), .val (.long p3), .second, .val (.int p4), .val (.int p5), .val (.int p6), .val (.int C1), .val (.int C2), .val (.int PP), .val (.int ff), .val (.ref b), .unset, .unset, .unset, .unset, .unset, .unset, .unset, .unset, .unset] [(.ref b)]))
  refine own_step (fun _ zk => XS.iconst X1.here hx rfl (hb hby at_39) zk) ?_
  show own_E p e below _ (T1.setTop (mkF m 40 #[.val (.long p1), .second, .val (.int p2), .val (.long p3), .second, .val (.int p4), .val (.int p5), .val (.int p6), .val (.int C1), .val (.int C2), .val (.int PP), .val (.int ff), .val (.ref b), .unset, .unset, .unset, .unset, .unset, .unset, .unset, .unset, .unset] [(.int (0 : Int32)), (.ref b)]))
  refine own_step (fun _ zk => XS.iload X1.here hx rfl (hb hby at_40) rfl zk) ?_
  show own_E p e below _ (T1.setTop (mkF m 42 #[.val (.long p1), .second, .val (.int p2), .val (.long p3), .second, .val (.int p4), .val (.int p5), .val (.int p6), .val (.int C1), .val (.int C2), .val (.int PP), .val (.int ff), .val (.ref b), .unset, .unset, .unset, .unset, .unset, .unset, .unset, .unset, .unset] [(.int ff), (.int (0 : Int32)), (.ref b)]))
  obtain ⟨T2, h2, X2, e2, W2, st2⟩ := own_stB X1 hx hZ e1 A_1 0 (by decide) (by decide) (g := (mkF m 42 #[.val (.long p1), .second, .val (.int p2), .val (.long p3), .second, .val (.int p4), .val (.int p5), .val (.int p6), .val (.int C1), .val (.int C2), .val (.int PP), .val (.int ff), .val (.ref b), .unset, .unset, .unset, .unset, .unset, .unset, .unset, .unset, .unset] [(.int ff), (.int (0 : Int32)), (.ref b)])) rfl rfl (hb hby at_42)
  have N2 := Fr.snoc X2 N0 ge_b
  have A_2 := own_A_set W2 A_1
  have K_2 := Keep.wr K_1 W2 (Or.inr gh_b)
  replace A_2 := own_A_eq (f' := (own_fill ff 1)) A_2 (own_fill_step ff 0 _ hffn)
  refine own_step st2 ?_
  show own_E p e below _ (T2.setTop (mkF m 43 #[.val (.long p1), .second, .val (.int p2), .val (.long p3), .second, .val (.int p4), .val (.int p5), .val (.int p6), .val (.int C1), .val (.int C2), .val (.int PP), .val (.int ff), .val (.ref b), .unset, .unset, .unset, .unset, .unset, .unset, .unset, .unset, .unset] []))
  refine own_step (fun _ zk => XS.aload X2.here hx rfl (hb hby at_43) rfl rfl zk) ?_
  show own_E p e below _ (T2.setTop (mkF m 45 #[.val (.long p1), .second, .val (.int p2), .val (.long p3), .second, .val (.int p4), .val (.int p5), .val (.int p6), .val (.int C1), .val (.int C2), .val (.int PP), .val (.int ff), .val (.ref b), .unset, .unset, .unset, .unset, .unset, .unset, .unset, .unset, .unset] [(.ref b)]))
  refine own_step (fun _ zk => XS.iconst X2.here hx rfl (hb hby at_45) zk) ?_
  show own_E p e below _ (T2.setTop (mkF m 46 #[.val (.long p1), .second, .val (.int p2), .val (.long p3), .second, .val (.int p4), .val (.int p5), .val (.int p6), .val (.int C1), .val (.int C2), .val (.int PP), .val (.int ff), .val (.ref b), .unset, .unset, .unset, .unset, .unset, .unset, .unset, .unset, .unset] [(.int (1 : Int32)), (.ref b)]))
  refine own_step (fun _ zk => XS.iload X2.here hx rfl (hb hby at_46) rfl zk) ?_
  show own_E p e below _ (T2.setTop (mkF m 48 #[.val (.long p1), .second, .val (.int p2), .val (.long p3), .second, .val (.int p4), .val (.int p5), .val (.int p6), .val (.int C1), .val (.int C2), .val (.int PP), .val (.int ff), .val (.ref b), .unset, .unset, .unset, .unset, .unset, .unset, .unset, .unset, .unset] [(.int ff), (.int (1 : Int32)), (.ref b)]))
  obtain ⟨T3, h3, X3, e3, W3, st3⟩ := own_stB X2 hx hZ e2 A_2 1 (by decide) (by decide) (g := (mkF m 48 #[.val (.long p1), .second, .val (.int p2), .val (.long p3), .second, .val (.int p4), .val (.int p5), .val (.int p6), .val (.int C1), .val (.int C2), .val (.int PP), .val (.int ff), .val (.ref b), .unset, .unset, .unset, .unset, .unset, .unset, .unset, .unset, .unset] [(.int ff), (.int (1 : Int32)), (.ref b)])) rfl rfl (hb hby at_48)
  have N3 := Fr.snoc X3 N2 ge_b
  have A_3 := own_A_set W3 A_2
  have K_3 := Keep.wr K_2 W3 (Or.inr gh_b)
  replace A_3 := own_A_eq (f' := (own_fill ff 2)) A_3 (own_fill_step ff 1 _ hffn)
  refine own_step st3 ?_
  show own_E p e below _ (T3.setTop (mkF m 49 #[.val (.long p1), .second, .val (.int p2), .val (.long p3), .second, .val (.int p4), .val (.int p5), .val (.int p6), .val (.int C1), .val (.int C2), .val (.int PP), .val (.int ff), .val (.ref b), .unset, .unset, .unset, .unset, .unset, .unset, .unset, .unset, .unset] []))
  refine own_step (fun _ zk => XS.aload X3.here hx rfl (hb hby at_49) rfl rfl zk) ?_
  show own_E p e below _ (T3.setTop (mkF m 51 #[.val (.long p1), .second, .val (.int p2), .val (.long p3), .second, .val (.int p4), .val (.int p5), .val (.int p6), .val (.int C1), .val (.int C2), .val (.int PP), .val (.int ff), .val (.ref b), .unset, .unset, .unset, .unset, .unset, .unset, .unset, .unset, .unset] [(.ref b)]))
  refine own_step (fun _ zk => XS.iconst X3.here hx rfl (hb hby at_51) zk) ?_
  show own_E p e below _ (T3.setTop (mkF m 52 #[.val (.long p1), .second, .val (.int p2), .val (.long p3), .second, .val (.int p4), .val (.int p5), .val (.int p6), .val (.int C1), .val (.int C2), .val (.int PP), .val (.int ff), .val (.ref b), .unset, .unset, .unset, .unset, .unset, .unset, .unset, .unset, .unset] [(.int (2 : Int32)), (.ref b)]))
  refine own_step (fun _ zk => XS.iload X3.here hx rfl (hb hby at_52) rfl zk) ?_
  show own_E p e below _ (T3.setTop (mkF m 54 #[.val (.long p1), .second, .val (.int p2), .val (.long p3), .second, .val (.int p4), .val (.int p5), .val (.int p6), .val (.int C1), .val (.int C2), .val (.int PP), .val (.int ff), .val (.ref b), .unset, .unset, .unset, .unset, .unset, .unset, .unset, .unset, .unset] [(.int ff), (.int (2 : Int32)), (.ref b)]))
  obtain ⟨T4, h4, X4, e4, W4, st4⟩ := own_stB X3 hx hZ e3 A_3 2 (by decide) (by decide) (g := (mkF m 54 #[.val (.long p1), .second, .val (.int p2), .val (.long p3), .second, .val (.int p4), .val (.int p5), .val (.int p6), .val (.int C1), .val (.int C2), .val (.int PP), .val (.int ff), .val (.ref b), .unset, .unset, .unset, .unset, .unset, .unset, .unset, .unset, .unset] [(.int ff), (.int (2 : Int32)), (.ref b)])) rfl rfl (hb hby at_54)
  have N4 := Fr.snoc X4 N3 ge_b
  have A_4 := own_A_set W4 A_3
  have K_4 := Keep.wr K_3 W4 (Or.inr gh_b)
  replace A_4 := own_A_eq (f' := (own_fill ff 3)) A_4 (own_fill_step ff 2 _ hffn)
  refine own_step st4 ?_
  show own_E p e below _ (T4.setTop (mkF m 55 #[.val (.long p1), .second, .val (.int p2), .val (.long p3), .second, .val (.int p4), .val (.int p5), .val (.int p6), .val (.int C1), .val (.int C2), .val (.int PP), .val (.int ff), .val (.ref b), .unset, .unset, .unset, .unset, .unset, .unset, .unset, .unset, .unset] []))
  refine own_step (fun _ zk => XS.aload X4.here hx rfl (hb hby at_55) rfl rfl zk) ?_
  show own_E p e below _ (T4.setTop (mkF m 57 #[.val (.long p1), .second, .val (.int p2), .val (.long p3), .second, .val (.int p4), .val (.int p5), .val (.int p6), .val (.int C1), .val (.int C2), .val (.int PP), .val (.int ff), .val (.ref b), .unset, .unset, .unset, .unset, .unset, .unset, .unset, .unset, .unset] [(.ref b)]))
  refine own_step (fun _ zk => XS.iconst X4.here hx rfl (hb hby at_57) zk) ?_
  show own_E p e below _ (T4.setTop (mkF m 58 #[.val (.long p1), .second, .val (.int p2), .val (.long p3), .second, .val (.int p4), .val (.int p5), .val (.int p6), .val (.int C1), .val (.int C2), .val (.int PP), .val (.int ff), .val (.ref b), .unset, .unset, .unset, .unset, .unset, .unset, .unset, .unset, .unset] [(.int (3 : Int32)), (.ref b)]))
  refine own_step (fun _ zk => XS.iload X4.here hx rfl (hb hby at_58) rfl zk) ?_
  show own_E p e below _ (T4.setTop (mkF m 60 #[.val (.long p1), .second, .val (.int p2), .val (.long p3), .second, .val (.int p4), .val (.int p5), .val (.int p6), .val (.int C1), .val (.int C2), .val (.int PP), .val (.int ff), .val (.ref b), .unset, .unset, .unset, .unset, .unset, .unset, .unset, .unset, .unset] [(.int ff), (.int (3 : Int32)), (.ref b)]))
  obtain ⟨T5, h5, X5, e5, W5, st5⟩ := own_stB X4 hx hZ e4 A_4 3 (by decide) (by decide) (g := (mkF m 60 #[.val (.long p1), .second, .val (.int p2), .val (.long p3), .second, .val (.int p4), .val (.int p5), .val (.int p6), .val (.int C1), .val (.int C2), .val (.int PP), .val (.int ff), .val (.ref b), .unset, .unset, .unset, .unset, .unset, .unset, .unset, .unset, .unset] [(.int ff), (.int (3 : Int32)), (.ref b)])) rfl rfl (hb hby at_60)
  have N5 := Fr.snoc X5 N4 ge_b
  have A_5 := own_A_set W5 A_4
  have K_5 := Keep.wr K_4 W5 (Or.inr gh_b)
  replace A_5 := own_A_eq (f' := (own_fill ff 4)) A_5 (own_fill_step ff 3 _ hffn)
  refine own_step st5 ?_
  show own_E p e below _ (T5.setTop (mkF m 61 #[.val (.long p1), .second, .val (.int p2), .val (.long p3), .second, .val (.int p4), .val (.int p5), .val (.int p6), .val (.int C1), .val (.int C2), .val (.int PP), .val (.int ff), .val (.ref b), .unset, .unset, .unset, .unset, .unset, .unset, .unset, .unset, .unset] []))
  refine own_step (fun _ zk => XS.aload X5.here hx rfl (hb hby at_61) rfl rfl zk) ?_
  show own_E p e below _ (T5.setTop (mkF m 63 #[.val (.long p1), .second, .val (.int p2), .val (.long p3), .second, .val (.int p4), .val (.int p5), .val (.int p6), .val (.int C1), .val (.int C2), .val (.int PP), .val (.int ff), .val (.ref b), .unset, .unset, .unset, .unset, .unset, .unset, .unset, .unset, .unset] [(.ref b)]))
  refine own_step (fun _ zk => XS.iconst X5.here hx rfl (hb hby at_63) zk) ?_
  show own_E p e below _ (T5.setTop (mkF m 64 #[.val (.long p1), .second, .val (.int p2), .val (.long p3), .second, .val (.int p4), .val (.int p5), .val (.int p6), .val (.int C1), .val (.int C2), .val (.int PP), .val (.int ff), .val (.ref b), .unset, .unset, .unset, .unset, .unset, .unset, .unset, .unset, .unset] [(.int (4 : Int32)), (.ref b)]))
  refine own_step (fun _ zk => XS.iload X5.here hx rfl (hb hby at_64) rfl zk) ?_
  show own_E p e below _ (T5.setTop (mkF m 66 #[.val (.long p1), .second, .val (.int p2), .val (.long p3), .second, .val (.int p4), .val (.int p5), .val (.int p6), .val (.int C1), .val (.int C2), .val (.int PP), .val (.int ff), .val (.ref b), .unset, .unset, .unset, .unset, .unset, .unset, .unset, .unset, .unset] [(.int ff), (.int (4 : Int32)), (.ref b)]))
  obtain ⟨T6, h6, X6, e6, W6, st6⟩ := own_stB X5 hx hZ e5 A_5 4 (by decide) (by decide) (g := (mkF m 66 #[.val (.long p1), .second, .val (.int p2), .val (.long p3), .second, .val (.int p4), .val (.int p5), .val (.int p6), .val (.int C1), .val (.int C2), .val (.int PP), .val (.int ff), .val (.ref b), .unset, .unset, .unset, .unset, .unset, .unset, .unset, .unset, .unset] [(.int ff), (.int (4 : Int32)), (.ref b)])) rfl rfl (hb hby at_66)
  have N6 := Fr.snoc X6 N5 ge_b
  have A_6 := own_A_set W6 A_5
  have K_6 := Keep.wr K_5 W6 (Or.inr gh_b)
  replace A_6 := own_A_eq (f' := (own_fill ff 5)) A_6 (own_fill_step ff 4 _ hffn)
  refine own_step st6 ?_
  show own_E p e below _ (T6.setTop (mkF m 67 #[.val (.long p1), .second, .val (.int p2), .val (.long p3), .second, .val (.int p4), .val (.int p5), .val (.int p6), .val (.int C1), .val (.int C2), .val (.int PP), .val (.int ff), .val (.ref b), .unset, .unset, .unset, .unset, .unset, .unset, .unset, .unset, .unset] []))
  refine own_step (fun _ zk => XS.aload X6.here hx rfl (hb hby at_67) rfl rfl zk) ?_
  show own_E p e below _ (T6.setTop (mkF m 69 #[.val (.long p1), .second, .val (.int p2), .val (.long p3), .second, .val (.int p4), .val (.int p5), .val (.int p6), .val (.int C1), .val (.int C2), .val (.int PP), .val (.int ff), .val (.ref b), .unset, .unset, .unset, .unset, .unset, .unset, .unset, .unset, .unset] [(.ref b)]))
  refine own_step (fun _ zk => XS.iconst X6.here hx rfl (hb hby at_69) zk) ?_
  show own_E p e below _ (T6.setTop (mkF m 70 #[.val (.long p1), .second, .val (.int p2), .val (.long p3), .second, .val (.int p4), .val (.int p5), .val (.int p6), .val (.int C1), .val (.int C2), .val (.int PP), .val (.int ff), .val (.ref b), .unset, .unset, .unset, .unset, .unset, .unset, .unset, .unset, .unset] [(.int (5 : Int32)), (.ref b)]))
  refine own_step (fun _ zk => XS.iload X6.here hx rfl (hb hby at_70) rfl zk) ?_
  show own_E p e below _ (T6.setTop (mkF m 72 #[.val (.long p1), .second, .val (.int p2), .val (.long p3), .second, .val (.int p4), .val (.int p5), .val (.int p6), .val (.int C1), .val (.int C2), .val (.int PP), .val (.int ff), .val (.ref b), .unset, .unset, .unset, .unset, .unset, .unset, .unset, .unset, .unset] [(.int ff), (.int (5 : Int32)), (.ref b)]))
  obtain ⟨T7, h7, X7, e7, W7, st7⟩ := own_stB X6 hx hZ e6 A_6 5 (by decide) (by decide) (g := (mkF m 72 #[.val (.long p1), .second, .val (.int p2), .val (.long p3), .second, .val (.int p4), .val (.int p5), .val (.int p6), .val (.int C1), .val (.int C2), .val (.int PP), .val (.int ff), .val (.ref b), .unset, .unset, .unset, .unset, .unset, .unset, .unset, .unset, .unset] [(.int ff), (.int (5 : Int32)), (.ref b)])) rfl rfl (hb hby at_72)
  have N7 := Fr.snoc X7 N6 ge_b
  have A_7 := own_A_set W7 A_6
  have K_7 := Keep.wr K_6 W7 (Or.inr gh_b)
  replace A_7 := own_A_eq (f' := (own_fill ff 6)) A_7 (own_fill_step ff 5 _ hffn)
  refine own_step st7 ?_
  show own_E p e below _ (T7.setTop (mkF m 73 #[.val (.long p1), .second, .val (.int p2), .val (.long p3), .second, .val (.int p4), .val (.int p5), .val (.int p6), .val (.int C1), .val (.int C2), .val (.int PP), .val (.int ff), .val (.ref b), .unset, .unset, .unset, .unset, .unset, .unset, .unset, .unset, .unset] []))
  refine own_step (fun _ zk => XS.aload X7.here hx rfl (hb hby at_73) rfl rfl zk) ?_
  show own_E p e below _ (T7.setTop (mkF m 75 #[.val (.long p1), .second, .val (.int p2), .val (.long p3), .second, .val (.int p4), .val (.int p5), .val (.int p6), .val (.int C1), .val (.int C2), .val (.int PP), .val (.int ff), .val (.ref b), .unset, .unset, .unset, .unset, .unset, .unset, .unset, .unset, .unset] [(.ref b)]))
  refine own_step (fun _ zk => XS.bipush X7.here hx rfl (hb hby at_75) zk) ?_
  show own_E p e below _ (T7.setTop (mkF m 77 #[.val (.long p1), .second, .val (.int p2), .val (.long p3), .second, .val (.int p4), .val (.int p5), .val (.int p6), .val (.int C1), .val (.int C2), .val (.int PP), .val (.int ff), .val (.ref b), .unset, .unset, .unset, .unset, .unset, .unset, .unset, .unset, .unset] [(.int (6 : Int32)), (.ref b)]))
  refine own_step (fun _ zk => XS.iload X7.here hx rfl (hb hby at_77) rfl zk) ?_
  show own_E p e below _ (T7.setTop (mkF m 79 #[.val (.long p1), .second, .val (.int p2), .val (.long p3), .second, .val (.int p4), .val (.int p5), .val (.int p6), .val (.int C1), .val (.int C2), .val (.int PP), .val (.int ff), .val (.ref b), .unset, .unset, .unset, .unset, .unset, .unset, .unset, .unset, .unset] [(.int ff), (.int (6 : Int32)), (.ref b)]))
  obtain ⟨T8, h8, X8, e8, W8, st8⟩ := own_stB X7 hx hZ e7 A_7 6 (by decide) (by decide) (g := (mkF m 79 #[.val (.long p1), .second, .val (.int p2), .val (.long p3), .second, .val (.int p4), .val (.int p5), .val (.int p6), .val (.int C1), .val (.int C2), .val (.int PP), .val (.int ff), .val (.ref b), .unset, .unset, .unset, .unset, .unset, .unset, .unset, .unset, .unset] [(.int ff), (.int (6 : Int32)), (.ref b)])) rfl rfl (hb hby at_79)
  have N8 := Fr.snoc X8 N7 ge_b
  have A_8 := own_A_set W8 A_7
  have K_8 := Keep.wr K_7 W8 (Or.inr gh_b)
  replace A_8 := own_A_eq (f' := (own_fill ff 7)) A_8 (own_fill_step ff 6 _ hffn)
  refine own_step st8 ?_
  show own_E p e below _ (T8.setTop (mkF m 80 #[.val (.long p1), .second, .val (.int p2), .val (.long p3), .second, .val (.int p4), .val (.int p5), .val (.int p6), .val (.int C1), .val (.int C2), .val (.int PP), .val (.int ff), .val (.ref b), .unset, .unset, .unset, .unset, .unset, .unset, .unset, .unset, .unset] []))
  refine own_step (fun _ zk => XS.aload X8.here hx rfl (hb hby at_80) rfl rfl zk) ?_
  show own_E p e below _ (T8.setTop (mkF m 82 #[.val (.long p1), .second, .val (.int p2), .val (.long p3), .second, .val (.int p4), .val (.int p5), .val (.int p6), .val (.int C1), .val (.int C2), .val (.int PP), .val (.int ff), .val (.ref b), .unset, .unset, .unset, .unset, .unset, .unset, .unset, .unset, .unset] [(.ref b)]))
  refine own_step (fun _ zk => XS.bipush X8.here hx rfl (hb hby at_82) zk) ?_
  show own_E p e below _ (T8.setTop (mkF m 84 #[.val (.long p1), .second, .val (.int p2), .val (.long p3), .second, .val (.int p4), .val (.int p5), .val (.int p6), .val (.int C1), .val (.int C2), .val (.int PP), .val (.int ff), .val (.ref b), .unset, .unset, .unset, .unset, .unset, .unset, .unset, .unset, .unset] [(.int (7 : Int32)), (.ref b)]))
  refine own_step (fun _ zk => XS.iload X8.here hx rfl (hb hby at_84) rfl zk) ?_
  show own_E p e below _ (T8.setTop (mkF m 86 #[.val (.long p1), .second, .val (.int p2), .val (.long p3), .second, .val (.int p4), .val (.int p5), .val (.int p6), .val (.int C1), .val (.int C2), .val (.int PP), .val (.int ff), .val (.ref b), .unset, .unset, .unset, .unset, .unset, .unset, .unset, .unset, .unset] [(.int ff), (.int (7 : Int32)), (.ref b)]))
  obtain ⟨T9, h9, X9, e9, W9, st9⟩ := own_stB X8 hx hZ e8 A_8 7 (by decide) (by decide) (g := (mkF m 86 #[.val (.long p1), .second, .val (.int p2), .val (.long p3), .second, .val (.int p4), .val (.int p5), .val (.int p6), .val (.int C1), .val (.int C2), .val (.int PP), .val (.int ff), .val (.ref b), .unset, .unset, .unset, .unset, .unset, .unset, .unset, .unset, .unset] [(.int ff), (.int (7 : Int32)), (.ref b)])) rfl rfl (hb hby at_86)
  have N9 := Fr.snoc X9 N8 ge_b
  have A_9 := own_A_set W9 A_8
  have K_9 := Keep.wr K_8 W9 (Or.inr gh_b)
  replace A_9 := own_A_eq (f' := (own_fill ff 8)) A_9 (own_fill_step ff 7 _ hffn)
  refine own_step st9 ?_
  show own_E p e below _ (T9.setTop (mkF m 87 #[.val (.long p1), .second, .val (.int p2), .val (.long p3), .second, .val (.int p4), .val (.int p5), .val (.int p6), .val (.int C1), .val (.int C2), .val (.int PP), .val (.int ff), .val (.ref b), .unset, .unset, .unset, .unset, .unset, .unset, .unset, .unset, .unset] []))
  refine own_step (fun _ zk => XS.aload X9.here hx rfl (hb hby at_87) rfl rfl zk) ?_
  show own_E p e below _ (T9.setTop (mkF m 89 #[.val (.long p1), .second, .val (.int p2), .val (.long p3), .second, .val (.int p4), .val (.int p5), .val (.int p6), .val (.int C1), .val (.int C2), .val (.int PP), .val (.int ff), .val (.ref b), .unset, .unset, .unset, .unset, .unset, .unset, .unset, .unset, .unset] [(.ref b)]))
  refine own_step (fun _ zk => XS.bipush X9.here hx rfl (hb hby at_89) zk) ?_
  show own_E p e below _ (T9.setTop (mkF m 91 #[.val (.long p1), .second, .val (.int p2), .val (.long p3), .second, .val (.int p4), .val (.int p5), .val (.int p6), .val (.int C1), .val (.int C2), .val (.int PP), .val (.int ff), .val (.ref b), .unset, .unset, .unset, .unset, .unset, .unset, .unset, .unset, .unset] [(.int (8 : Int32)), (.ref b)]))
  refine own_step (fun _ zk => XS.iload X9.here hx rfl (hb hby at_91) rfl zk) ?_
  show own_E p e below _ (T9.setTop (mkF m 93 #[.val (.long p1), .second, .val (.int p2), .val (.long p3), .second, .val (.int p4), .val (.int p5), .val (.int p6), .val (.int C1), .val (.int C2), .val (.int PP), .val (.int ff), .val (.ref b), .unset, .unset, .unset, .unset, .unset, .unset, .unset, .unset, .unset] [(.int ff), (.int (8 : Int32)), (.ref b)]))
  obtain ⟨T10, h10, X10, e10, W10, st10⟩ := own_stB X9 hx hZ e9 A_9 8 (by decide) (by decide) (g := (mkF m 93 #[.val (.long p1), .second, .val (.int p2), .val (.long p3), .second, .val (.int p4), .val (.int p5), .val (.int p6), .val (.int C1), .val (.int C2), .val (.int PP), .val (.int ff), .val (.ref b), .unset, .unset, .unset, .unset, .unset, .unset, .unset, .unset, .unset] [(.int ff), (.int (8 : Int32)), (.ref b)])) rfl rfl (hb hby at_93)
  have N10 := Fr.snoc X10 N9 ge_b
  have A_10 := own_A_set W10 A_9
  have K_10 := Keep.wr K_9 W10 (Or.inr gh_b)
  replace A_10 := own_A_eq (f' := (own_fill ff 9)) A_10 (own_fill_step ff 8 _ hffn)
  refine own_step st10 ?_
  show own_E p e below _ (T10.setTop (mkF m 94 #[.val (.long p1), .second, .val (.int p2), .val (.long p3), .second, .val (.int p4), .val (.int p5), .val (.int p6), .val (.int C1), .val (.int C2), .val (.int PP), .val (.int ff), .val (.ref b), .unset, .unset, .unset, .unset, .unset, .unset, .unset, .unset, .unset] []))
  refine own_step (fun _ zk => XS.aload X10.here hx rfl (hb hby at_94) rfl rfl zk) ?_
  show own_E p e below _ (T10.setTop (mkF m 96 #[.val (.long p1), .second, .val (.int p2), .val (.long p3), .second, .val (.int p4), .val (.int p5), .val (.int p6), .val (.int C1), .val (.int C2), .val (.int PP), .val (.int ff), .val (.ref b), .unset, .unset, .unset, .unset, .unset, .unset, .unset, .unset, .unset] [(.ref b)]))
  refine own_step (fun _ zk => XS.bipush X10.here hx rfl (hb hby at_96) zk) ?_
  show own_E p e below _ (T10.setTop (mkF m 98 #[.val (.long p1), .second, .val (.int p2), .val (.long p3), .second, .val (.int p4), .val (.int p5), .val (.int p6), .val (.int C1), .val (.int C2), .val (.int PP), .val (.int ff), .val (.ref b), .unset, .unset, .unset, .unset, .unset, .unset, .unset, .unset, .unset] [(.int (9 : Int32)), (.ref b)]))
  refine own_step (fun _ zk => XS.iload X10.here hx rfl (hb hby at_98) rfl zk) ?_
  show own_E p e below _ (T10.setTop (mkF m 100 #[.val (.long p1), .second, .val (.int p2), .val (.long p3), .second, .val (.int p4), .val (.int p5), .val (.int p6), .val (.int C1), .val (.int C2), .val (.int PP), .val (.int ff), .val (.ref b), .unset, .unset, .unset, .unset, .unset, .unset, .unset, .unset, .unset] [(.int ff), (.int (9 : Int32)), (.ref b)]))
  obtain ⟨T11, h11, X11, e11, W11, st11⟩ := own_stB X10 hx hZ e10 A_10 9 (by decide) (by decide) (g := (mkF m 100 #[.val (.long p1), .second, .val (.int p2), .val (.long p3), .second, .val (.int p4), .val (.int p5), .val (.int p6), .val (.int C1), .val (.int C2), .val (.int PP), .val (.int ff), .val (.ref b), .unset, .unset, .unset, .unset, .unset, .unset, .unset, .unset, .unset] [(.int ff), (.int (9 : Int32)), (.ref b)])) rfl rfl (hb hby at_100)
  have N11 := Fr.snoc X11 N10 ge_b
  have A_11 := own_A_set W11 A_10
  have K_11 := Keep.wr K_10 W11 (Or.inr gh_b)
  replace A_11 := own_A_eq (f' := (own_fill ff 10)) A_11 (own_fill_step ff 9 _ hffn)
  refine own_step st11 ?_
  show own_E p e below _ (T11.setTop (mkF m 101 #[.val (.long p1), .second, .val (.int p2), .val (.long p3), .second, .val (.int p4), .val (.int p5), .val (.int p6), .val (.int C1), .val (.int C2), .val (.int PP), .val (.int ff), .val (.ref b), .unset, .unset, .unset, .unset, .unset, .unset, .unset, .unset, .unset] []))
  refine own_step (fun _ zk => XS.aload X11.here hx rfl (hb hby at_101) rfl rfl zk) ?_
  show own_E p e below _ (T11.setTop (mkF m 103 #[.val (.long p1), .second, .val (.int p2), .val (.long p3), .second, .val (.int p4), .val (.int p5), .val (.int p6), .val (.int C1), .val (.int C2), .val (.int PP), .val (.int ff), .val (.ref b), .unset, .unset, .unset, .unset, .unset, .unset, .unset, .unset, .unset] [(.ref b)]))
  refine own_step (fun _ zk => XS.bipush X11.here hx rfl (hb hby at_103) zk) ?_
  show own_E p e below _ (T11.setTop (mkF m 105 #[.val (.long p1), .second, .val (.int p2), .val (.long p3), .second, .val (.int p4), .val (.int p5), .val (.int p6), .val (.int C1), .val (.int C2), .val (.int PP), .val (.int ff), .val (.ref b), .unset, .unset, .unset, .unset, .unset, .unset, .unset, .unset, .unset] [(.int (10 : Int32)), (.ref b)]))
  refine own_step (fun _ zk => XS.iload X11.here hx rfl (hb hby at_105) rfl zk) ?_
  show own_E p e below _ (T11.setTop (mkF m 107 #[.val (.long p1), .second, .val (.int p2), .val (.long p3), .second, .val (.int p4), .val (.int p5), .val (.int p6), .val (.int C1), .val (.int C2), .val (.int PP), .val (.int ff), .val (.ref b), .unset, .unset, .unset, .unset, .unset, .unset, .unset, .unset, .unset] [(.int ff), (.int (10 : Int32)), (.ref b)]))
  obtain ⟨T12, h12, X12, e12, W12, st12⟩ := own_stB X11 hx hZ e11 A_11 10 (by decide) (by decide) (g := (mkF m 107 #[.val (.long p1), .second, .val (.int p2), .val (.long p3), .second, .val (.int p4), .val (.int p5), .val (.int p6), .val (.int C1), .val (.int C2), .val (.int PP), .val (.int ff), .val (.ref b), .unset, .unset, .unset, .unset, .unset, .unset, .unset, .unset, .unset] [(.int ff), (.int (10 : Int32)), (.ref b)])) rfl rfl (hb hby at_107)
  have N12 := Fr.snoc X12 N11 ge_b
  have A_12 := own_A_set W12 A_11
  have K_12 := Keep.wr K_11 W12 (Or.inr gh_b)
  replace A_12 := own_A_eq (f' := (own_fill ff 11)) A_12 (own_fill_step ff 10 _ hffn)
  refine own_step st12 ?_
  show own_E p e below _ (T12.setTop (mkF m 108 #[.val (.long p1), .second, .val (.int p2), .val (.long p3), .second, .val (.int p4), .val (.int p5), .val (.int p6), .val (.int C1), .val (.int C2), .val (.int PP), .val (.int ff), .val (.ref b), .unset, .unset, .unset, .unset, .unset, .unset, .unset, .unset, .unset] []))
  refine own_step (fun _ zk => XS.aload X12.here hx rfl (hb hby at_108) rfl rfl zk) ?_
  show own_E p e below _ (T12.setTop (mkF m 110 #[.val (.long p1), .second, .val (.int p2), .val (.long p3), .second, .val (.int p4), .val (.int p5), .val (.int p6), .val (.int C1), .val (.int C2), .val (.int PP), .val (.int ff), .val (.ref b), .unset, .unset, .unset, .unset, .unset, .unset, .unset, .unset, .unset] [(.ref b)]))
  refine own_step (fun _ zk => XS.bipush X12.here hx rfl (hb hby at_110) zk) ?_
  show own_E p e below _ (T12.setTop (mkF m 112 #[.val (.long p1), .second, .val (.int p2), .val (.long p3), .second, .val (.int p4), .val (.int p5), .val (.int p6), .val (.int C1), .val (.int C2), .val (.int PP), .val (.int ff), .val (.ref b), .unset, .unset, .unset, .unset, .unset, .unset, .unset, .unset, .unset] [(.int (11 : Int32)), (.ref b)]))
  refine own_step (fun _ zk => XS.iload X12.here hx rfl (hb hby at_112) rfl zk) ?_
  show own_E p e below _ (T12.setTop (mkF m 114 #[.val (.long p1), .second, .val (.int p2), .val (.long p3), .second, .val (.int p4), .val (.int p5), .val (.int p6), .val (.int C1), .val (.int C2), .val (.int PP), .val (.int ff), .val (.ref b), .unset, .unset, .unset, .unset, .unset, .unset, .unset, .unset, .unset] [(.int ff), (.int (11 : Int32)), (.ref b)]))
  obtain ⟨T13, h13, X13, e13, W13, st13⟩ := own_stB X12 hx hZ e12 A_12 11 (by decide) (by decide) (g := (mkF m 114 #[.val (.long p1), .second, .val (.int p2), .val (.long p3), .second, .val (.int p4), .val (.int p5), .val (.int p6), .val (.int C1), .val (.int C2), .val (.int PP), .val (.int ff), .val (.ref b), .unset, .unset, .unset, .unset, .unset, .unset, .unset, .unset, .unset] [(.int ff), (.int (11 : Int32)), (.ref b)])) rfl rfl (hb hby at_114)
  have N13 := Fr.snoc X13 N12 ge_b
  have A_13 := own_A_set W13 A_12
  have K_13 := Keep.wr K_12 W13 (Or.inr gh_b)
  replace A_13 := own_A_eq (f' := (own_fill ff 12)) A_13 (own_fill_step ff 11 _ hffn)
  refine own_step st13 ?_
  show own_E p e below _ (T13.setTop (mkF m 115 #[.val (.long p1), .second, .val (.int p2), .val (.long p3), .second, .val (.int p4), .val (.int p5), .val (.int p6), .val (.int C1), .val (.int C2), .val (.int PP), .val (.int ff), .val (.ref b), .unset, .unset, .unset, .unset, .unset, .unset, .unset, .unset, .unset] []))
  refine own_step (fun _ zk => XS.aload X13.here hx rfl (hb hby at_115) rfl rfl zk) ?_
  show own_E p e below _ (T13.setTop (mkF m 117 #[.val (.long p1), .second, .val (.int p2), .val (.long p3), .second, .val (.int p4), .val (.int p5), .val (.int p6), .val (.int C1), .val (.int C2), .val (.int PP), .val (.int ff), .val (.ref b), .unset, .unset, .unset, .unset, .unset, .unset, .unset, .unset, .unset] [(.ref b)]))
  refine own_step (fun _ zk => XS.bipush X13.here hx rfl (hb hby at_117) zk) ?_
  show own_E p e below _ (T13.setTop (mkF m 119 #[.val (.long p1), .second, .val (.int p2), .val (.long p3), .second, .val (.int p4), .val (.int p5), .val (.int p6), .val (.int C1), .val (.int C2), .val (.int PP), .val (.int ff), .val (.ref b), .unset, .unset, .unset, .unset, .unset, .unset, .unset, .unset, .unset] [(.int (12 : Int32)), (.ref b)]))
  refine own_step (fun _ zk => XS.iload X13.here hx rfl (hb hby at_119) rfl zk) ?_
  show own_E p e below _ (T13.setTop (mkF m 121 #[.val (.long p1), .second, .val (.int p2), .val (.long p3), .second, .val (.int p4), .val (.int p5), .val (.int p6), .val (.int C1), .val (.int C2), .val (.int PP), .val (.int ff), .val (.ref b), .unset, .unset, .unset, .unset, .unset, .unset, .unset, .unset, .unset] [(.int ff), (.int (12 : Int32)), (.ref b)]))
  obtain ⟨T14, h14, X14, e14, W14, st14⟩ := own_stB X13 hx hZ e13 A_13 12 (by decide) (by decide) (g := (mkF m 121 #[.val (.long p1), .second, .val (.int p2), .val (.long p3), .second, .val (.int p4), .val (.int p5), .val (.int p6), .val (.int C1), .val (.int C2), .val (.int PP), .val (.int ff), .val (.ref b), .unset, .unset, .unset, .unset, .unset, .unset, .unset, .unset, .unset] [(.int ff), (.int (12 : Int32)), (.ref b)])) rfl rfl (hb hby at_121)
  have N14 := Fr.snoc X14 N13 ge_b
  have A_14 := own_A_set W14 A_13
  have K_14 := Keep.wr K_13 W14 (Or.inr gh_b)
  replace A_14 := own_A_eq (f' := (own_fill ff 13)) A_14 (own_fill_step ff 12 _ hffn)
  refine own_step st14 ?_
  show own_E p e below _ (T14.setTop (mkF m 122 #[.val (.long p1), .second, .val (.int p2), .val (.long p3), .second, .val (.int p4), .val (.int p5), .val (.int p6), .val (.int C1), .val (.int C2), .val (.int PP), .val (.int ff), .val (.ref b), .unset, .unset, .unset, .unset, .unset, .unset, .unset, .unset, .unset] []))
  refine own_step (fun _ zk => XS.aload X14.here hx rfl (hb hby at_122) rfl rfl zk) ?_
  show own_E p e below _ (T14.setTop (mkF m 124 #[.val (.long p1), .second, .val (.int p2), .val (.long p3), .second, .val (.int p4), .val (.int p5), .val (.int p6), .val (.int C1), .val (.int C2), .val (.int PP), .val (.int ff), .val (.ref b), .unset, .unset, .unset, .unset, .unset, .unset, .unset, .unset, .unset] [(.ref b)]))
  refine own_step (fun _ zk => XS.bipush X14.here hx rfl (hb hby at_124) zk) ?_
  show own_E p e below _ (T14.setTop (mkF m 126 #[.val (.long p1), .second, .val (.int p2), .val (.long p3), .second, .val (.int p4), .val (.int p5), .val (.int p6), .val (.int C1), .val (.int C2), .val (.int PP), .val (.int ff), .val (.ref b), .unset, .unset, .unset, .unset, .unset, .unset, .unset, .unset, .unset] [(.int (13 : Int32)), (.ref b)]))
  refine own_step (fun _ zk => XS.iload X14.here hx rfl (hb hby at_126) rfl zk) ?_
  show own_E p e below _ (T14.setTop (mkF m 128 #[.val (.long p1), .second, .val (.int p2), .val (.long p3), .second, .val (.int p4), .val (.int p5), .val (.int p6), .val (.int C1), .val (.int C2), .val (.int PP), .val (.int ff), .val (.ref b), .unset, .unset, .unset, .unset, .unset, .unset, .unset, .unset, .unset] [(.int ff), (.int (13 : Int32)), (.ref b)]))
  obtain ⟨T15, h15, X15, e15, W15, st15⟩ := own_stB X14 hx hZ e14 A_14 13 (by decide) (by decide) (g := (mkF m 128 #[.val (.long p1), .second, .val (.int p2), .val (.long p3), .second, .val (.int p4), .val (.int p5), .val (.int p6), .val (.int C1), .val (.int C2), .val (.int PP), .val (.int ff), .val (.ref b), .unset, .unset, .unset, .unset, .unset, .unset, .unset, .unset, .unset] [(.int ff), (.int (13 : Int32)), (.ref b)])) rfl rfl (hb hby at_128)
  have N15 := Fr.snoc X15 N14 ge_b
  have A_15 := own_A_set W15 A_14
  have K_15 := Keep.wr K_14 W15 (Or.inr gh_b)
  replace A_15 := own_A_eq (f' := (own_fill ff 14)) A_15 (own_fill_step ff 13 _ hffn)
  refine own_step st15 ?_
  show own_E p e below _ (T15.setTop (mkF m 129 #[.val (.long p1), .second, .val (.int p2), .val (.long p3), .second, .val (.int p4), .val (.int p5), .val (.int p6), .val (.int C1), .val (.int C2), .val (.int PP), .val (.int ff), .val (.ref b), .unset, .unset, .unset, .unset, .unset, .unset, .unset, .unset, .unset] []))
  refine own_step (fun _ zk => XS.aload X15.here hx rfl (hb hby at_129) rfl rfl zk) ?_
  show own_E p e below _ (T15.setTop (mkF m 131 #[.val (.long p1), .second, .val (.int p2), .val (.long p3), .second, .val (.int p4), .val (.int p5), .val (.int p6), .val (.int C1), .val (.int C2), .val (.int PP), .val (.int ff), .val (.ref b), .unset, .unset, .unset, .unset, .unset, .unset, .unset, .unset, .unset] [(.ref b)]))
  refine own_step (fun _ zk => XS.bipush X15.here hx rfl (hb hby at_131) zk) ?_
  show own_E p e below _ (T15.setTop (mkF m 133 #[.val (.long p1), .second, .val (.int p2), .val (.long p3), .second, .val (.int p4), .val (.int p5), .val (.int p6), .val (.int C1), .val (.int C2), .val (.int PP), .val (.int ff), .val (.ref b), .unset, .unset, .unset, .unset, .unset, .unset, .unset, .unset, .unset] [(.int (14 : Int32)), (.ref b)]))
  refine own_step (fun _ zk => XS.iload X15.here hx rfl (hb hby at_133) rfl zk) ?_
  show own_E p e below _ (T15.setTop (mkF m 135 #[.val (.long p1), .second, .val (.int p2), .val (.long p3), .second, .val (.int p4), .val (.int p5), .val (.int p6), .val (.int C1), .val (.int C2), .val (.int PP), .val (.int ff), .val (.ref b), .unset, .unset, .unset, .unset, .unset, .unset, .unset, .unset, .unset] [(.int ff), (.int (14 : Int32)), (.ref b)]))
  obtain ⟨T16, h16, X16, e16, W16, st16⟩ := own_stB X15 hx hZ e15 A_15 14 (by decide) (by decide) (g := (mkF m 135 #[.val (.long p1), .second, .val (.int p2), .val (.long p3), .second, .val (.int p4), .val (.int p5), .val (.int p6), .val (.int C1), .val (.int C2), .val (.int PP), .val (.int ff), .val (.ref b), .unset, .unset, .unset, .unset, .unset, .unset, .unset, .unset, .unset] [(.int ff), (.int (14 : Int32)), (.ref b)])) rfl rfl (hb hby at_135)
  have N16 := Fr.snoc X16 N15 ge_b
  have A_16 := own_A_set W16 A_15
  have K_16 := Keep.wr K_15 W16 (Or.inr gh_b)
  replace A_16 := own_A_eq (f' := (own_fill ff 15)) A_16 (own_fill_step ff 14 _ hffn)
  refine own_step st16 ?_
  show own_E p e below _ (T16.setTop (mkF m 136 #[.val (.long p1), .second, .val (.int p2), .val (.long p3), .second, .val (.int p4), .val (.int p5), .val (.int p6), .val (.int C1), .val (.int C2), .val (.int PP), .val (.int ff), .val (.ref b), .unset, .unset, .unset, .unset, .unset, .unset, .unset, .unset, .unset] []))
  refine own_step (fun _ zk => XS.aload X16.here hx rfl (hb hby at_136) rfl rfl zk) ?_
  show own_E p e below _ (T16.setTop (mkF m 138 #[.val (.long p1), .second, .val (.int p2), .val (.long p3), .second, .val (.int p4), .val (.int p5), .val (.int p6), .val (.int C1), .val (.int C2), .val (.int PP), .val (.int ff), .val (.ref b), .unset, .unset, .unset, .unset, .unset, .unset, .unset, .unset, .unset] [(.ref b)]))
  refine own_step (fun _ zk => XS.bipush X16.here hx rfl (hb hby at_138) zk) ?_
  show own_E p e below _ (T16.setTop (mkF m 140 #[.val (.long p1), .second, .val (.int p2), .val (.long p3), .second, .val (.int p4), .val (.int p5), .val (.int p6), .val (.int C1), .val (.int C2), .val (.int PP), .val (.int ff), .val (.ref b), .unset, .unset, .unset, .unset, .unset, .unset, .unset, .unset, .unset] [(.int (15 : Int32)), (.ref b)]))
  refine own_step (fun _ zk => XS.iload X16.here hx rfl (hb hby at_140) rfl zk) ?_
  show own_E p e below _ (T16.setTop (mkF m 142 #[.val (.long p1), .second, .val (.int p2), .val (.long p3), .second, .val (.int p4), .val (.int p5), .val (.int p6), .val (.int C1), .val (.int C2), .val (.int PP), .val (.int ff), .val (.ref b), .unset, .unset, .unset, .unset, .unset, .unset, .unset, .unset, .unset] [(.int ff), (.int (15 : Int32)), (.ref b)]))
  obtain ⟨T17, h17, X17, e17, W17, st17⟩ := own_stB X16 hx hZ e16 A_16 15 (by decide) (by decide) (g := (mkF m 142 #[.val (.long p1), .second, .val (.int p2), .val (.long p3), .second, .val (.int p4), .val (.int p5), .val (.int p6), .val (.int C1), .val (.int C2), .val (.int PP), .val (.int ff), .val (.ref b), .unset, .unset, .unset, .unset, .unset, .unset, .unset, .unset, .unset] [(.int ff), (.int (15 : Int32)), (.ref b)])) rfl rfl (hb hby at_142)
  have N17 := Fr.snoc X17 N16 ge_b
  have A_17 := own_A_set W17 A_16
  have K_17 := Keep.wr K_16 W17 (Or.inr gh_b)
  replace A_17 := own_A_eq (f' := (own_fill ff 16)) A_17 (own_fill_step ff 15 _ hffn)
  refine own_step st17 ?_
  show own_E p e below _ (T17.setTop (mkF m 143 #[.val (.long p1), .second, .val (.int p2), .val (.long p3), .second, .val (.int p4), .val (.int p5), .val (.int p6), .val (.int C1), .val (.int C2), .val (.int PP), .val (.int ff), .val (.ref b), .unset, .unset, .unset, .unset, .unset, .unset, .unset, .unset, .unset] []))
  subst hPe
  subst hC1e
  subst hC2e
  show own_E p e below _ (T17.setTop (mkF m 143 #[.val (.long p1), .second, .val (.int p2), .val (.long p3), .second, .val (.int p4), .val (.int p5), .val (.int p6), .val (.int (Int32.ofNat k1)), .val (.int (Int32.ofNat k2)), .val (.int (Int32.ofNat P)), .val (.int ff), .val (.ref b), .unset, .unset, .unset, .unset, .unset, .unset, .unset, .unset, .unset] []))
  have AF := own_A_eq (f' := fun j => .int ((fun _ => ff) j)) A_17 (own_fill_all ff)
  obtain ⟨T18, h18, X18, e18, E18, A18, D18, -, st18⟩ := newO X17 hx hZ hown (hw _ (List.mem_of_getElem? (i := 2) rfl)) (hw _ (List.mem_of_getElem? (i := 3) rfl)) (hw _ (List.mem_of_getElem? (i := 4) rfl)) e17 (g := (mkF m 143 #[.val (.long p1), .second, .val (.int p2), .val (.long p3), .second, .val (.int p4), .val (.int p5), .val (.int p6), .val (.int (Int32.ofNat k1)), .val (.int (Int32.ofNat k2)), .val (.int (Int32.ofNat P)), .val (.int ff), .val (.ref b), .unset, .unset, .unset, .unset, .unset, .unset, .unset, .unset, .unset] [])) rfl (hb hby at_143) (by decide) (by decide)
  obtain ⟨w, g_w⟩ : ∃ z, z = h17.size := ⟨_, rfl⟩
  rw [← g_w] at A18 D18 st18
  have gh_w : h0.size ≤ w := Nat.le_trans K_17.1 (Nat.le_of_eq g_w.symm)
  have ge_w : n0 ≤ w := Nat.le_trans Z0 gh_w
  have ne_b_w : b ≠ w := Nat.ne_of_lt (Nat.lt_of_lt_of_le (own_A_lt AF) (Nat.le_of_eq g_w.symm))
  have A_18 := own_A_ext E18 AF
  have K_18 := Keep.ext K_17 E18
  have Fo_18 : Fld Z h18 w "com/example/furrow/furrow/codec/BitWriter" "output" "[B" .null := D18 (Or.inr (hw _ (List.mem_of_getElem? (i := 12) rfl))) (ty := (.array .byte)) (by decide)
  have Fp_18 : Fld Z h18 w "com/example/furrow/furrow/codec/BitWriter" "position" "I" (.int 0) := D18 (Or.inl (hw _ (List.mem_of_getElem? (i := 14) rfl))) (ty := .int) (by decide)
  have Fd_18 : Fld Z h18 w "com/example/furrow/furrow/codec/BitWriter" "pending" "J" (.long 0) := D18 (Or.inl (hw _ (List.mem_of_getElem? (i := 21) rfl))) (ty := .long) (by decide)
  have Fb_18 : Fld Z h18 w "com/example/furrow/furrow/codec/BitWriter" "pendingBits" "I" (.int 0) := D18 (Or.inl (hw _ (List.mem_of_getElem? (i := 23) rfl))) (ty := .int) (by decide)
  refine own_step st18 ?_
  show own_E p e below _ (T18.setTop (mkF m 146 #[.val (.long p1), .second, .val (.int p2), .val (.long p3), .second, .val (.int p4), .val (.int p5), .val (.int p6), .val (.int (Int32.ofNat k1)), .val (.int (Int32.ofNat k2)), .val (.int (Int32.ofNat P)), .val (.int ff), .val (.ref b), .unset, .unset, .unset, .unset, .unset, .unset, .unset, .unset, .unset] [(.ref w)]))
  refine own_step (fun _ zk => XS.dup X18.here hx rfl (hb hby at_146) rfl rfl zk) ?_
  show own_E p e below _ (T18.setTop (mkF m 147 #[.val (.long p1), .second, .val (.int p2), .val (.long p3), .second, .val (.int p4), .val (.int p5), .val (.int p6), .val (.int (Int32.ofNat k1)), .val (.int (Int32.ofNat k2)), .val (.int (Int32.ofNat P)), .val (.int ff), .val (.ref b), .unset, .unset, .unset, .unset, .unset, .unset, .unset, .unset, .unset] [(.ref w), (.ref w)]))
  refine own_step (fun _ zk => XS.aload X18.here hx rfl (hb hby at_147) rfl rfl zk) ?_
  show own_E p e below _ (T18.setTop (mkF m 149 #[.val (.long p1), .second, .val (.int p2), .val (.long p3), .second, .val (.int p4), .val (.int p5), .val (.int p6), .val (.int (Int32.ofNat k1)), .val (.int (Int32.ofNat k2)), .val (.int (Int32.ofNat P)), .val (.int ff), .val (.ref b), .unset, .unset, .unset, .unset, .unset, .unset, .unset, .unset, .unset] [(.ref b), (.ref w), (.ref w)]))
  refine own_step (fun _ zk => XS.iload X18.here hx rfl (hb hby at_149) rfl zk) ?_
  show own_E p e below _ (T18.setTop (mkF m 151 #[.val (.long p1), .second, .val (.int p2), .val (.long p3), .second, .val (.int p4), .val (.int p5), .val (.int p6), .val (.int (Int32.ofNat k1)), .val (.int (Int32.ofNat k2)), .val (.int (Int32.ofNat P)), .val (.int ff), .val (.ref b), .unset, .unset, .unset, .unset, .unset, .unset, .unset, .unset, .unset] [(.int (Int32.ofNat P)), (.ref b), (.ref w), (.ref w)]))
  obtain ⟨_, _, ⟨T19, L19, k19, n19⟩, -, X19, ⟨Lc19, hQ19, l19, y19, z19⟩, st19⟩ := X18.specialBack hx (y := (⟨"com/example/furrow/furrow/codec/BitWriter", "<init>", "([BI)V"⟩ : MethodName)) rfl hown (mvT hZ (hw _ (List.mem_of_getElem? (i := 5) rfl))) (mvT hZ (hw _ (List.mem_of_getElem? (i := 6) rfl))) (mvT hZ (hw _ (List.mem_of_getElem? (i := 7) rfl))) (by decide) (backOf (W := 1) (rm1 l Z a0 hw [] w b (Int32.ofNat P)  h18 n0 (Nat.le_trans Z0 K_18.1) ge_w A18 Fo_18 Fp_18 Fd_18 Fb_18) hZ (hw _ (List.mem_of_getElem? (i := 7) rfl)) (hw _ (List.mem_of_getElem? (i := 4) rfl)) (by decide) (by decide)) (g := (mkF m 151 #[.val (.long p1), .second, .val (.int p2), .val (.long p3), .second, .val (.int p4), .val (.int p5), .val (.int p6), .val (.int (Int32.ofNat k1)), .val (.int (Int32.ofNat k2)), .val (.int (Int32.ofNat P)), .val (.int ff), .val (.ref b), .unset, .unset, .unset, .unset, .unset, .unset, .unset, .unset, .unset] [(.int (Int32.ofNat P)), (.ref b), (.ref w), (.ref w)])) rfl (by rw [hml]; rfl) (Steps.refl _) (a := w) (argsL := [(.ref b), (.int (Int32.ofNat P))]) (rest := [(.ref w)]) (lenOf pd_0_0 rfl) rfl (by show 2 * 0 + _ ≤ _; exact Nat.le_of_eq rfl) (hb hby at_151) (fun _ _ => ⟨rfl, e18, (by decide : 2 + 0 ≤ _), (by decide : 20 + 0 ≤ _)⟩)
  dsimp only [Pt.U, Pt.locs, Pt.cells, Pt.slots] at X19 l19 y19 z19 st19 hQ19
  rw [show k19 = 2 from y19, show n19 = 20 from z19] at X19
  generalize e19 : T19.heap = h19 at hQ19
  obtain ⟨rfl, N19q, Kq19, ⟨E19, Fo19, Fp19, Fd19, Fb19⟩⟩ := hQ19
  have A_19 := own_A_keep Kq19 (ninS ne_b_w nin0) A_18
  have K_19 := Keep.trans K_18 Kq19 (allS (Or.inr gh_w) all0)
  have N19 : Fr n0 L19 := by rw [l19]; exact Fr.app N17 N19q
  refine own_step (fun _ zk => (st19).trans zk) ?_
  show own_E p e below _ (T19.setTop (mkF m 154 #[.val (.long p1), .second, .val (.int p2), .val (.long p3), .second, .val (.int p4), .val (.int p5), .val (.int p6), .val (.int (Int32.ofNat k1)), .val (.int (Int32.ofNat k2)), .val (.int (Int32.ofNat P)), .val (.int ff), .val (.ref b), .unset, .unset, .unset, .unset, .unset, .unset, .unset, .unset, .unset] [(.ref w)]))
  refine own_step (fun _ zk => XS.astore X19.here hx rfl (hb hby at_154) rfl rfl (l' := #[.val (.long p1), .second, .val (.int p2), .val (.long p3), .second, .val (.int p4), .val (.int p5), .val (.int p6), .val (.int (Int32.ofNat k1)), .val (.int (Int32.ofNat k2)), .val (.int (Int32.ofNat P)), .val (.int ff), .val (.ref b), .val (.ref w), .unset, .unset, .unset, .unset, .unset, .unset, .unset, .unset]) rfl zk) ?_
  show own_E p e below _ (T19.setTop (mkF m 156 #[.val (.long p1), .second, .val (.int p2), .val (.long p3), .second, .val (.int p4), .val (.int p5), .val (.int p6), .val (.int (Int32.ofNat k1)), .val (.int (Int32.ofNat k2)), .val (.int (Int32.ofNat P)), .val (.int ff), .val (.ref b), .val (.ref w), .unset, .unset, .unset, .unset, .unset, .unset, .unset, .unset] []))
  refine own_step (fun _ zk => XS.aload X19.here hx rfl (hb hby at_156) rfl rfl zk) ?_
  show own_E p e below _ (T19.setTop (mkF m 158 #[.val (.long p1), .second, .val (.int p2), .val (.long p3), .second, .val (.int p4), .val (.int p5), .val (.int p6), .val (.int (Int32.ofNat k1)), .val (.int (Int32.ofNat k2)), .val (.int (Int32.ofNat P)), .val (.int ff), .val (.ref b), .val (.ref w), .unset, .unset, .unset, .unset, .unset, .unset, .unset, .unset] [(.ref w)]))
  refine own_step (fun _ zk => Jvm.Free.XT.lloadN X19.here hx rfl (hb hby at_158) rfl zk) ?_
  show own_E p e below _ (T19.setTop (mkF m 159 #[.val (.long p1), .second, .val (.int p2), .val (.long p3), .second, .val (.int p4), .val (.int p5), .val (.int p6), .val (.int (Int32.ofNat k1)), .val (.int (Int32.ofNat k2)), .val (.int (Int32.ofNat P)), .val (.int ff), .val (.ref b), .val (.ref w), .unset, .unset, .unset, .unset, .unset, .unset, .unset, .unset] [(.long p1), (.ref w)]))
  refine own_step (fun _ zk => XS.iload X19.here hx rfl (hb hby at_159) rfl zk) ?_
  show own_E p e below _ (T19.setTop (mkF m 161 #[.val (.long p1), .second, .val (.int p2), .val (.long p3), .second, .val (.int p4), .val (.int p5), .val (.int p6), .val (.int (Int32.ofNat k1)), .val (.int (Int32.ofNat k2)), .val (.int (Int32.ofNat P)), .val (.int ff), .val (.ref b), .val (.ref w), .unset, .unset, .unset, .unset, .unset, .unset, .unset, .unset] [(.int (Int32.ofNat k1)), (.long p1), (.ref w)]))
  obtain ⟨_, _, qa20, _, qc20⟩ := isOf (T := T19) hZ e19 E19
  obtain ⟨_, _, ⟨T20, L20, k20, n20⟩, -, X20, ⟨Lc20, hQ20, l20, y20, z20⟩, st20⟩ := X19.virtualBack hx (y := (⟨"com/example/furrow/furrow/codec/BitWriter", "write", "(JI)V"⟩ : MethodName)) (z := (⟨"com/example/furrow/furrow/codec/BitWriter", "write", "(JI)V"⟩ : MethodName)) hown (mvT hZ (hw _ (List.mem_of_getElem? (i := 15) rfl))) (mvT hZ (hw _ (List.mem_of_getElem? (i := 16) rfl))) (notFace_of_selects (args := #[]) (mvT hZ (hw _ (List.mem_of_getElem? (i := 18) rfl)))) (mvT hZ (hw _ (List.mem_of_getElem? (i := 18) rfl))) (mvT hZ (hw _ (List.mem_of_getElem? (i := 17) rfl))) (by decide) (backOf (W := 0) (rm2 l Z a0 hw [] w p1 (Int32.ofNat k1) b (Int32.ofNat P) k1 h19 n0 (Nat.le_trans Z0 K_19.1) ge_w ⟨E19, Fo19, Fp19, Fd19, Fb19⟩ rfl hk1) hZ (hw _ (List.mem_of_getElem? (i := 19) rfl)) (hw _ (List.mem_of_getElem? (i := 4) rfl)) (by decide) (by decide)) qa20 qc20 (g := (mkF m 161 #[.val (.long p1), .second, .val (.int p2), .val (.long p3), .second, .val (.int p4), .val (.int p5), .val (.int p6), .val (.int (Int32.ofNat k1)), .val (.int (Int32.ofNat k2)), .val (.int (Int32.ofNat P)), .val (.int ff), .val (.ref b), .val (.ref w), .unset, .unset, .unset, .unset, .unset, .unset, .unset, .unset] [(.int (Int32.ofNat k1)), (.long p1), (.ref w)])) rfl (by rw [hml]; rfl) (Steps.refl _) (argsL := [(.long p1), (.int (Int32.ofNat k1))]) (rest := []) (lenOf pd_0_1 rfl) rfl (by show 2 * 0 + _ ≤ _; exact Nat.le_of_eq rfl) (hb hby at_161) (fun _ _ => ⟨rfl, e19, (by decide : 2 + 0 ≤ _), (by decide : 20 + 0 ≤ _)⟩)
  dsimp only [Pt.U, Pt.locs, Pt.cells, Pt.slots] at X20 l20 y20 z20 st20 hQ20
  rw [show k20 = 2 from y20, show n20 = 20 from z20] at X20
  generalize e20 : T20.heap = h20 at hQ20
  obtain ⟨rfl, N20q, Kq20, ⟨E20, Fo20, Fp20, Fd20, Fb20⟩⟩ := hQ20
  have A_20 := own_A_keep Kq20 (ninS ne_b_w nin0) A_19
  have K_20 := Keep.trans K_19 Kq20 (allS (Or.inr gh_w) all0)
  have N20 : Fr n0 L20 := by rw [l20]; exact Fr.app N19 N20q
  refine own_step (fun _ zk => (st20).trans zk) ?_
  show own_E p e below _ (T20.setTop (mkF m 164 #[.val (.long p1), .second, .val (.int p2), .val (.long p3), .second, .val (.int p4), .val (.int p5), .val (.int p6), .val (.int (Int32.ofNat k1)), .val (.int (Int32.ofNat k2)), .val (.int (Int32.ofNat P)), .val (.int ff), .val (.ref b), .val (.ref w), .unset, .unset, .unset, .unset, .unset, .unset, .unset, .unset] []))
  refine own_step (fun _ zk => XS.aload X20.here hx rfl (hb hby at_164) rfl rfl zk) ?_
  show own_E p e below _ (T20.setTop (mkF m 166 #[.val (.long p1), .second, .val (.int p2), .val (.long p3), .second, .val (.int p4), .val (.int p5), .val (.int p6), .val (.int (Int32.ofNat k1)), .val (.int (Int32.ofNat k2)), .val (.int (Int32.ofNat P)), .val (.int ff), .val (.ref b), .val (.ref w), .unset, .unset, .unset, .unset, .unset, .unset, .unset, .unset] [(.ref w)]))
  obtain ⟨_, _, qa21, _, qc21⟩ := isOf (T := T20) hZ e20 E20
  obtain ⟨_, _, ⟨T21, L21, k21, n21⟩, -, X21, ⟨Lc21, hQ21, l21, y21, z21⟩, st21⟩ := X20.virtualBack hx (y := (⟨"com/example/furrow/furrow/codec/BitWriter", "pad", "()I"⟩ : MethodName)) (z := (⟨"com/example/furrow/furrow/codec/BitWriter", "pad", "()I"⟩ : MethodName)) hown (mvT hZ (hw _ (List.mem_of_getElem? (i := 24) rfl))) (mvT hZ (hw _ (List.mem_of_getElem? (i := 25) rfl))) (notFace_of_selects (args := #[]) (mvT hZ (hw _ (List.mem_of_getElem? (i := 27) rfl)))) (mvT hZ (hw _ (List.mem_of_getElem? (i := 27) rfl))) (mvT hZ (hw _ (List.mem_of_getElem? (i := 26) rfl))) (by decide) (backOf (W := 0) (rm3 l Z a0 hw [] w b p1 k1 (P) (fun _ => ff) h20 n0 (Nat.le_trans Z0 K_20.1) ge_w ge_b (Ne.symm ne_b_w) ⟨E20, Fo20, Fp20, Fd20, Fb20⟩ A_20 hk1 (by omega)) hZ (hw _ (List.mem_of_getElem? (i := 28) rfl)) (hw _ (List.mem_of_getElem? (i := 4) rfl)) (by decide) (by decide)) qa21 qc21 (g := (mkF m 166 #[.val (.long p1), .second, .val (.int p2), .val (.long p3), .second, .val (.int p4), .val (.int p5), .val (.int p6), .val (.int (Int32.ofNat k1)), .val (.int (Int32.ofNat k2)), .val (.int (Int32.ofNat P)), .val (.int ff), .val (.ref b), .val (.ref w), .unset, .unset, .unset, .unset, .unset, .unset, .unset, .unset] [(.ref w)])) rfl (by rw [hml]; rfl) (Steps.refl _) (argsL := []) (rest := []) (lenOf pd_0_2 rfl) rfl (by show 2 * 0 + _ ≤ _; exact Nat.le_of_eq rfl) (hb hby at_166) (fun _ _ => ⟨rfl, e20, (by decide : 2 + 0 ≤ _), (by decide : 20 + 0 ≤ _)⟩)
  dsimp only [Pt.U, Pt.locs, Pt.cells, Pt.slots] at X21 l21 y21 z21 st21 hQ21
  rw [show k21 = 2 from y21, show n21 = 20 from z21] at X21
  generalize e21 : T21.heap = h21 at hQ21
  obtain ⟨rfl, N21q, Kq21, ⟨E21, Fo21, Fp21, Fd21, Fb21⟩, A21⟩ := hQ21
  have K_21 := Keep.trans K_20 Kq21 (allS (Or.inr gh_w) (allS (Or.inr gh_b) all0))
  have N21 : Fr n0 L21 := by rw [l21]; exact Fr.app N20 N21q
  refine own_step (fun _ zk => (st21).trans zk) ?_
  show own_E p e below _ (T21.setTop (mkF m 169 #[.val (.long p1), .second, .val (.int p2), .val (.long p3), .second, .val (.int p4), .val (.int p5), .val (.int p6), .val (.int (Int32.ofNat k1)), .val (.int (Int32.ofNat k2)), .val (.int (Int32.ofNat P)), .val (.int ff), .val (.ref b), .val (.ref w), .unset, .unset, .unset, .unset, .unset, .unset, .unset, .unset] [(.int (Int32.ofNat (P + own_nb k1)))]))
  refine own_step (fun _ zk => XS.istore X21.here hx rfl (hb hby at_169) rfl (l' := #[.val (.long p1), .second, .val (.int p2), .val (.long p3), .second, .val (.int p4), .val (.int p5), .val (.int p6), .val (.int (Int32.ofNat k1)), .val (.int (Int32.ofNat k2)), .val (.int (Int32.ofNat P)), .val (.int ff), .val (.ref b), .val (.ref w), .val (.int (Int32.ofNat (P + own_nb k1))), .unset, .unset, .unset, .unset, .unset, .unset, .unset]) rfl zk) ?_
  show own_E p e below _ (T21.setTop (mkF m 171 #[.val (.long p1), .second, .val (.int p2), .val (.long p3), .second, .val (.int p4), .val (.int p5), .val (.int p6), .val (.int (Int32.ofNat k1)), .val (.int (Int32.ofNat k2)), .val (.int (Int32.ofNat P)), .val (.int ff), .val (.ref b), .val (.ref w), .val (.int (Int32.ofNat (P + own_nb k1))), .unset, .unset, .unset, .unset, .unset, .unset, .unset] []))
  refine own_step (fun _ zk => XS.aload X21.here hx rfl (hb hby at_171) rfl rfl zk) ?_
  show own_E p e below _ (T21.setTop (mkF m 173 #[.val (.long p1), .second, .val (.int p2), .val (.long p3), .second, .val (.int p4), .val (.int p5), .val (.int p6), .val (.int (Int32.ofNat k1)), .val (.int (Int32.ofNat k2)), .val (.int (Int32.ofNat P)), .val (.int ff), .val (.ref b), .val (.ref w), .val (.int (Int32.ofNat (P + own_nb k1))), .unset, .unset, .unset, .unset, .unset, .unset, .unset] [(.ref w)]))
  refine own_step (fun _ zk => Jvm.Free.XT.lloadN X21.here hx rfl (hb hby at_173) rfl zk) ?_
  show own_E p e below _ (T21.setTop (mkF m 174 #[.val (.long p1), .second, .val (.int p2), .val (.long p3), .second, .val (.int p4), .val (.int p5), .val (.int p6), .val (.int (Int32.ofNat k1)), .val (.int (Int32.ofNat k2)), .val (.int (Int32.ofNat P)), .val (.int ff), .val (.ref b), .val (.ref w), .val (.int (Int32.ofNat (P + own_nb k1))), .unset, .unset, .unset, .unset, .unset, .unset, .unset] [(.long p3), (.ref w)]))
  refine own_step (fun _ zk => XS.iload X21.here hx rfl (hb hby at_174) rfl zk) ?_
  show own_E p e below _ (T21.setTop (mkF m 176 #[.val (.long p1), .second, .val (.int p2), .val (.long p3), .second, .val (.int p4), .val (.int p5), .val (.int p6), .val (.int (Int32.ofNat k1)), .val (.int (Int32.ofNat k2)), .val (.int (Int32.ofNat P)), .val (.int ff), .val (.ref b), .val (.ref w), .val (.int (Int32.ofNat (P + own_nb k1))), .unset, .unset, .unset, .unset, .unset, .unset, .unset] [(.int (Int32.ofNat k2)), (.long p3), (.ref w)]))
  obtain ⟨_, _, qa22, _, qc22⟩ := isOf (T := T21) hZ e21 E21
  obtain ⟨_, _, ⟨T22, L22, k22, n22⟩, -, X22, ⟨Lc22, hQ22, l22, y22, z22⟩, st22⟩ := X21.virtualBack hx (y := (⟨"com/example/furrow/furrow/codec/BitWriter", "write", "(JI)V"⟩ : MethodName)) (z := (⟨"com/example/furrow/furrow/codec/BitWriter", "write", "(JI)V"⟩ : MethodName)) hown (mvT hZ (hw _ (List.mem_of_getElem? (i := 15) rfl))) (mvT hZ (hw _ (List.mem_of_getElem? (i := 16) rfl))) (notFace_of_selects (args := #[]) (mvT hZ (hw _ (List.mem_of_getElem? (i := 18) rfl)))) (mvT hZ (hw _ (List.mem_of_getElem? (i := 18) rfl))) (mvT hZ (hw _ (List.mem_of_getElem? (i := 17) rfl))) (by decide) (backOf (W := 0) (rm2 l Z a0 hw [] w p3 (Int32.ofNat k2) b (Int32.ofNat (P + own_nb k1)) k2 h21 n0 (Nat.le_trans Z0 K_21.1) ge_w ⟨E21, Fo21, Fp21, Fd21, Fb21⟩ rfl hk2) hZ (hw _ (List.mem_of_getElem? (i := 19) rfl)) (hw _ (List.mem_of_getElem? (i := 4) rfl)) (by decide) (by decide)) qa22 qc22 (g := (mkF m 176 #[.val (.long p1), .second, .val (.int p2), .val (.long p3), .second, .val (.int p4), .val (.int p5), .val (.int p6), .val (.int (Int32.ofNat k1)), .val (.int (Int32.ofNat k2)), .val (.int (Int32.ofNat P)), .val (.int ff), .val (.ref b), .val (.ref w), .val (.int (Int32.ofNat (P + own_nb k1))), .unset, .unset, .unset, .unset, .unset, .unset, .unset] [(.int (Int32.ofNat k2)), (.long p3), (.ref w)])) rfl (by rw [hml]; rfl) (Steps.refl _) (argsL := [(.long p3), (.int (Int32.ofNat k2))]) (rest := []) (lenOf pd_0_1 rfl) rfl (by show 2 * 0 + _ ≤ _; exact Nat.le_of_eq rfl) (hb hby at_176) (fun _ _ => ⟨rfl, e21, (by decide : 2 + 0 ≤ _), (by decide : 20 + 0 ≤ _)⟩)
  dsimp only [Pt.U, Pt.locs, Pt.cells, Pt.slots] at X22 l22 y22 z22 st22 hQ22
  rw [show k22 = 2 from y22, show n22 = 20 from z22] at X22
  generalize e22 : T22.heap = h22 at hQ22
  obtain ⟨rfl, N22q, Kq22, ⟨E22, Fo22, Fp22, Fd22, Fb22⟩⟩ := hQ22
  have A_22 := own_A_keep Kq22 (ninS ne_b_w nin0) A21
  have K_22 := Keep.trans K_21 Kq22 (allS (Or.inr gh_w) all0)
  have N22 : Fr n0 L22 := by rw [l22]; exact Fr.app N21 N22q
  refine own_step (fun _ zk => (st22).trans zk) ?_
  show own_E p e below _ (T22.setTop (mkF m 179 #[.val (.long p1), .second, .val (.int p2), .val (.long p3), .second, .val (.int p4), .val (.int p5), .val (.int p6), .val (.int (Int32.ofNat k1)), .val (.int (Int32.ofNat k2)), .val (.int (Int32.ofNat P)), .val (.int ff), .val (.ref b), .val (.ref w), .val (.int (Int32.ofNat (P + own_nb k1))), .unset, .unset, .unset, .unset, .unset, .unset, .unset] []))
  refine own_step (fun _ zk => XS.aload X22.here hx rfl (hb hby at_179) rfl rfl zk) ?_
  show own_E p e below _ (T22.setTop (mkF m 181 #[.val (.long p1), .second, .val (.int p2), .val (.long p3), .second, .val (.int p4), .val (.int p5), .val (.int p6), .val (.int (Int32.ofNat k1)), .val (.int (Int32.ofNat k2)), .val (.int (Int32.ofNat P)), .val (.int ff), .val (.ref b), .val (.ref w), .val (.int (Int32.ofNat (P + own_nb k1))), .unset, .unset, .unset, .unset, .unset, .unset, .unset] [(.ref w)]))
  obtain ⟨_, _, qa23, _, qc23⟩ := isOf (T := T22) hZ e22 E22
  obtain ⟨_, _, ⟨T23, L23, k23, n23⟩, -, X23, ⟨Lc23, hQ23, l23, y23, z23⟩, st23⟩ := X22.virtualBack hx (y := (⟨"com/example/furrow/furrow/codec/BitWriter", "pad", "()I"⟩ : MethodName)) (z := (⟨"com/example/furrow/furrow/codec/BitWriter", "pad", "()I"⟩ : MethodName)) hown (mvT hZ (hw _ (List.mem_of_getElem? (i := 24) rfl))) (mvT hZ (hw _ (List.mem_of_getElem? (i := 25) rfl))) (notFace_of_selects (args := #[]) (mvT hZ (hw _ (List.mem_of_getElem? (i := 27) rfl)))) (mvT hZ (hw _ (List.mem_of_getElem? (i := 27) rfl))) (mvT hZ (hw _ (List.mem_of_getElem? (i := 26) rfl))) (by decide) (backOf (W := 0) (rm3 l Z a0 hw [] w b p3 k2 ((P + own_nb k1)) (own_pat (own_low p1 k1) P (own_nb k1) (fun _ => ff)) h22 n0 (Nat.le_trans Z0 K_22.1) ge_w ge_b (Ne.symm ne_b_w) ⟨E22, Fo22, Fp22, Fd22, Fb22⟩ A_22 hk2 (own_p11 hP7 hk1)) hZ (hw _ (List.mem_of_getElem? (i := 28) rfl)) (hw _ (List.mem_of_getElem? (i := 4) rfl)) (by decide) (by decide)) qa23 qc23 (g := (mkF m 181 #[.val (.long p1), .second, .val (.int p2), .val (.long p3), .second, .val (.int p4), .val (.int p5), .val (.int p6), .val (.int (Int32.ofNat k1)), .val (.int (Int32.ofNat k2)), .val (.int (Int32.ofNat P)), .val (.int ff), .val (.ref b), .val (.ref w), .val (.int (Int32.ofNat (P + own_nb k1))), .unset, .unset, .unset, .unset, .unset, .unset, .unset] [(.ref w)])) rfl (by rw [hml]; rfl) (Steps.refl _) (argsL := []) (rest := []) (lenOf pd_0_2 rfl) rfl (by show 2 * 0 + _ ≤ _; exact Nat.le_of_eq rfl) (hb hby at_181) (fun _ _ => ⟨rfl, e22, (by decide : 2 + 0 ≤ _), (by decide : 20 + 0 ≤ _)⟩)
  dsimp only [Pt.U, Pt.locs, Pt.cells, Pt.slots] at X23 l23 y23 z23 st23 hQ23
  rw [show k23 = 2 from y23, show n23 = 20 from z23] at X23
  generalize e23 : T23.heap = h23 at hQ23
  obtain ⟨rfl, N23q, Kq23, ⟨E23, Fo23, Fp23, Fd23, Fb23⟩, A23⟩ := hQ23
  have K_23 := Keep.trans K_22 Kq23 (allS (Or.inr gh_w) (allS (Or.inr gh_b) all0))
  have N23 : Fr n0 L23 := by rw [l23]; exact Fr.app N22 N23q
  refine own_step (fun _ zk => (st23).trans zk) ?_
  show own_E p e below _ (T23.setTop (mkF m 184 #[.val (.long p1), .second, .val (.int p2), .val (.long p3), .second, .val (.int p4), .val (.int p5), .val (.int p6), .val (.int (Int32.ofNat k1)), .val (.int (Int32.ofNat k2)), .val (.int (Int32.ofNat P)), .val (.int ff), .val (.ref b), .val (.ref w), .val (.int (Int32.ofNat (P + own_nb k1))), .unset, .unset, .unset, .unset, .unset, .unset, .unset] [(.int (Int32.ofNat ((P + own_nb k1) + own_nb k2)))]))
  refine own_step (fun _ zk => XS.istore X23.here hx rfl (hb hby at_184) rfl (l' := #[.val (.long p1), .second, .val (.int p2), .val (.long p3), .second, .val (.int p4), .val (.int p5), .val (.int p6), .val (.int (Int32.ofNat k1)), .val (.int (Int32.ofNat k2)), .val (.int (Int32.ofNat P)), .val (.int ff), .val (.ref b), .val (.ref w), .val (.int (Int32.ofNat (P + own_nb k1))), .val (.int (Int32.ofNat ((P + own_nb k1) + own_nb k2))), .unset, .unset, .unset, .unset, .unset, .unset]) rfl zk) ?_
  show own_E p e below _ (T23.setTop (mkF m 186 #[.val (.long p1), .second, .val (.int p2), .val (.long p3), .second, .val (.int p4), .val (.int p5), .val (.int p6), .val (.int (Int32.ofNat k1)), .val (.int (Int32.ofNat k2)), .val (.int (Int32.ofNat P)), .val (.int ff), .val (.ref b), .val (.ref w), .val (.int (Int32.ofNat (P + own_nb k1))), .val (.int (Int32.ofNat ((P + own_nb k1) + own_nb k2))), .unset, .unset, .unset, .unset, .unset, .unset] []))
  refine own_step (fun _ zk => XS.iload X23.here hx rfl (hb hby at_186) rfl zk) ?_
  show own_E p e below _ (T23.setTop (mkF m 188 #[.val (.long p1), .second, .val (.int p2), .val (.long p3), .second, .val (.int p4), .val (.int p5), .val (.int p6), .val (.int (Int32.ofNat k1)), .val (.int (Int32.ofNat k2)), .val (.int (Int32.ofNat P)), .val (.int ff), .val (.ref b), .val (.ref w), .val (.int (Int32.ofNat (P + own_nb k1))), .val (.int (Int32.ofNat ((P + own_nb k1) + own_nb k2))), .unset, .unset, .unset, .unset, .unset, .unset] [(.int (Int32.ofNat k1))]))
  refine own_step (fun _ zk => XS.bipush X23.here hx rfl (hb hby at_188) zk) ?_
  show own_E p e below _ (T23.setTop (mkF m 190 #[.val (.long p1), .second, .val (.int p2), .val (.long p3), .second, .val (.int p4), .val (.int p5), .val (.int p6), .val (.int (Int32.ofNat k1)), .val (.int (Int32.ofNat k2)), .val (.int (Int32.ofNat P)), .val (.int ff), .val (.ref b), .val (.ref w), .val (.int (Int32.ofNat (P + own_nb k1))), .val (.int (Int32.ofNat ((P + own_nb k1) + own_nb k2))), .unset, .unset, .unset, .unset, .unset, .unset] [(.int (7 : Int32)), (.int (Int32.ofNat k1))]))
  refine own_step (fun _ zk => XS.iadd X23.here hx rfl (hb hby at_190) rfl zk) ?_
  show own_E p e below _ (T23.setTop (mkF m 191 #[.val (.long p1), .second, .val (.int p2), .val (.long p3), .second, .val (.int p4), .val (.int p5), .val (.int p6), .val (.int (Int32.ofNat k1)), .val (.int (Int32.ofNat k2)), .val (.int (Int32.ofNat P)), .val (.int ff), .val (.ref b), .val (.ref w), .val (.int (Int32.ofNat (P + own_nb k1))), .val (.int (Int32.ofNat ((P + own_nb k1) + own_nb k2))), .unset, .unset, .unset, .unset, .unset, .unset] [(.int ((Int32.ofNat k1) + (7 : Int32)))]))
  refine own_step (fun _ zk => XS.iconst X23.here hx rfl (hb hby at_191) zk) ?_
  show own_E p e below _ (T23.setTop (mkF m 192 #[.val (.long p1), .second, .val (.int p2), .val (.long p3), .second, .val (.int p4), .val (.int p5), .val (.int p6), .val (.int (Int32.ofNat k1)), .val (.int (Int32.ofNat k2)), .val (.int (Int32.ofNat P)), .val (.int ff), .val (.ref b), .val (.ref w), .val (.int (Int32.ofNat (P + own_nb k1))), .val (.int (Int32.ofNat ((P + own_nb k1) + own_nb k2))), .unset, .unset, .unset, .unset, .unset, .unset] [(.int (3 : Int32)), (.int ((Int32.ofNat k1) + (7 : Int32)))]))
  refine own_step (fun _ zk => Jvm.Free.XT.iushr X23.here hx rfl (hb hby at_192) rfl zk) ?_
  show own_E p e below _ (T23.setTop (mkF m 193 #[.val (.long p1), .second, .val (.int p2), .val (.long p3), .second, .val (.int p4), .val (.int p5), .val (.int p6), .val (.int (Int32.ofNat k1)), .val (.int (Int32.ofNat k2)), .val (.int (Int32.ofNat P)), .val (.int ff), .val (.ref b), .val (.ref w), .val (.int (Int32.ofNat (P + own_nb k1))), .val (.int (Int32.ofNat ((P + own_nb k1) + own_nb k2))), .unset, .unset, .unset, .unset, .unset, .unset] [(.int (Jvm.Free.XT.ushr ((Int32.ofNat k1) + (7 : Int32)) (3 : Int32)))]))
  rw [own_nb_e (k := k1) rfl hk1]
  show own_E p e below _ (T23.setTop (mkF m 193 #[.val (.long p1), .second, .val (.int p2), .val (.long p3), .second, .val (.int p4), .val (.int p5), .val (.int p6), .val (.int (Int32.ofNat k1)), .val (.int (Int32.ofNat k2)), .val (.int (Int32.ofNat P)), .val (.int ff), .val (.ref b), .val (.ref w), .val (.int (Int32.ofNat (P + own_nb k1))), .val (.int (Int32.ofNat ((P + own_nb k1) + own_nb k2))), .unset, .unset, .unset, .unset, .unset, .unset] [(.int (Int32.ofNat (own_nb k1)))]))
  refine own_step (fun _ zk => XS.istore X23.here hx rfl (hb hby at_193) rfl (l' := #[.val (.long p1), .second, .val (.int p2), .val (.long p3), .second, .val (.int p4), .val (.int p5), .val (.int p6), .val (.int (Int32.ofNat k1)), .val (.int (Int32.ofNat k2)), .val (.int (Int32.ofNat P)), .val (.int ff), .val (.ref b), .val (.ref w), .val (.int (Int32.ofNat (P + own_nb k1))), .val (.int (Int32.ofNat ((P + own_nb k1) + own_nb k2))), .val (.int (Int32.ofNat (own_nb k1))), .unset, .unset, .unset, .unset, .unset]) rfl zk) ?_
  show own_E p e below _ (T23.setTop (mkF m 195 #[.val (.long p1), .second, .val (.int p2), .val (.long p3), .second, .val (.int p4), .val (.int p5), .val (.int p6), .val (.int (Int32.ofNat k1)), .val (.int (Int32.ofNat k2)), .val (.int (Int32.ofNat P)), .val (.int ff), .val (.ref b), .val (.ref w), .val (.int (Int32.ofNat (P + own_nb k1))), .val (.int (Int32.ofNat ((P + own_nb k1) + own_nb k2))), .val (.int (Int32.ofNat (own_nb k1))), .unset, .unset, .unset, .unset, .unset] []))
  refine own_step (fun _ zk => XS.iload X23.here hx rfl (hb hby at_195) rfl zk) ?_
  show own_E p e below _ (T23.setTop (mkF m 197 #[.val (.long p1), .second, .val (.int p2), .val (.long p3), .second, .val (.int p4), .val (.int p5), .val (.int p6), .val (.int (Int32.ofNat k1)), .val (.int (Int32.ofNat k2)), .val (.int (Int32.ofNat P)), .val (.int ff), .val (.ref b), .val (.ref w), .val (.int (Int32.ofNat (P + own_nb k1))), .val (.int (Int32.ofNat ((P + own_nb k1) + own_nb k2))), .val (.int (Int32.ofNat (own_nb k1))), .unset, .unset, .unset, .unset, .unset] [(.int (Int32.ofNat k2))]))
  refine own_step (fun _ zk => XS.bipush X23.here hx rfl (hb hby at_197) zk) ?_
  show own_E p e below _ (T23.setTop (mkF m 199 #[.val (.long p1), .second, .val (.int p2), .val (.long p3), .second, .val (.int p4), .val (.int p5), .val (.int p6), .val (.int (Int32.ofNat k1)), .val (.int (Int32.ofNat k2)), .val (.int (Int32.ofNat P)), .val (.int ff), .val (.ref b), .val (.ref w), .val (.int (Int32.ofNat (P + own_nb k1))), .val (.int (Int32.ofNat ((P + own_nb k1) + own_nb k2))), .val (.int (Int32.ofNat (own_nb k1))), .unset, .unset, .unset, .unset, .unset] [(.int (7 : Int32)), (.int (Int32.ofNat k2))]))
  refine own_step (fun _ zk => XS.iadd X23.here hx rfl (hb hby at_199) rfl zk) ?_
  show own_E p e below _ (T23.setTop (mkF m 200 #[.val (.long p1), .second, .val (.int p2), .val (.long p3), .second, .val (.int p4), .val (.int p5), .val (.int p6), .val (.int (Int32.ofNat k1)), .val (.int (Int32.ofNat k2)), .val (.int (Int32.ofNat P)), .val (.int ff), .val (.ref b), .val (.ref w), .val (.int (Int32.ofNat (P + own_nb k1))), .val (.int (Int32.ofNat ((P + own_nb k1) + own_nb k2))), .val (.int (Int32.ofNat (own_nb k1))), .unset, .unset, .unset, .unset, .unset] [(.int ((Int32.ofNat k2) + (7 : Int32)))]))
  refine own_step (fun _ zk => XS.iconst X23.here hx rfl (hb hby at_200) zk) ?_
  show own_E p e below _ (T23.setTop (mkF m 201 #[.val (.long p1), .second, .val (.int p2), .val (.long p3), .second, .val (.int p4), .val (.int p5), .val (.int p6), .val (.int (Int32.ofNat k1)), .val (.int (Int32.ofNat k2)), .val (.int (Int32.ofNat P)), .val (.int ff), .val (.ref b), .val (.ref w), .val (.int (Int32.ofNat (P + own_nb k1))), .val (.int (Int32.ofNat ((P + own_nb k1) + own_nb k2))), .val (.int (Int32.ofNat (own_nb k1))), .unset, .unset, .unset, .unset, .unset] [(.int (3 : Int32)), (.int ((Int32.ofNat k2) + (7 : Int32)))]))
  refine own_step (fun _ zk => Jvm.Free.XT.iushr X23.here hx rfl (hb hby at_201) rfl zk) ?_
  show own_E p e below _ (T23.setTop (mkF m 202 #[.val (.long p1), .second, .val (.int p2), .val (.long p3), .second, .val (.int p4), .val (.int p5), .val (.int p6), .val (.int (Int32.ofNat k1)), .val (.int (Int32.ofNat k2)), .val (.int (Int32.ofNat P)), .val (.int ff), .val (.ref b), .val (.ref w), .val (.int (Int32.ofNat (P + own_nb k1))), .val (.int (Int32.ofNat ((P + own_nb k1) + own_nb k2))), .val (.int (Int32.ofNat (own_nb k1))), .unset, .unset, .unset, .unset, .unset] [(.int (Jvm.Free.XT.ushr ((Int32.ofNat k2) + (7 : Int32)) (3 : Int32)))]))
  rw [own_nb_e (k := k2) rfl hk2]
  show own_E p e below _ (T23.setTop (mkF m 202 #[.val (.long p1), .second, .val (.int p2), .val (.long p3), .second, .val (.int p4), .val (.int p5), .val (.int p6), .val (.int (Int32.ofNat k1)), .val (.int (Int32.ofNat k2)), .val (.int (Int32.ofNat P)), .val (.int ff), .val (.ref b), .val (.ref w), .val (.int (Int32.ofNat (P + own_nb k1))), .val (.int (Int32.ofNat ((P + own_nb k1) + own_nb k2))), .val (.int (Int32.ofNat (own_nb k1))), .unset, .unset, .unset, .unset, .unset] [(.int (Int32.ofNat (own_nb k2)))]))
  refine own_step (fun _ zk => XS.istore X23.here hx rfl (hb hby at_202) rfl (l' := #[.val (.long p1), .second, .val (.int p2), .val (.long p3), .second, .val (.int p4), .val (.int p5), .val (.int p6), .val (.int (Int32.ofNat k1)), .val (.int (Int32.ofNat k2)), .val (.int (Int32.ofNat P)), .val (.int ff), .val (.ref b), .val (.ref w), .val (.int (Int32.ofNat (P + own_nb k1))), .val (.int (Int32.ofNat ((P + own_nb k1) + own_nb k2))), .val (.int (Int32.ofNat (own_nb k1))), .val (.int (Int32.ofNat (own_nb k2))), .unset, .unset, .unset, .unset]) rfl zk) ?_
  show own_E p e below _ (T23.setTop (mkF m 204 #[.val (.long p1), .second, .val (.int p2), .val (.long p3), .second, .val (.int p4), .val (.int p5), .val (.int p6), .val (.int (Int32.ofNat k1)), .val (.int (Int32.ofNat k2)), .val (.int (Int32.ofNat P)), .val (.int ff), .val (.ref b), .val (.ref w), .val (.int (Int32.ofNat (P + own_nb k1))), .val (.int (Int32.ofNat ((P + own_nb k1) + own_nb k2))), .val (.int (Int32.ofNat (own_nb k1))), .val (.int (Int32.ofNat (own_nb k2))), .unset, .unset, .unset, .unset] []))
  refine own_step (fun _ zk => Jvm.Free.XT.lloadN X23.here hx rfl (hb hby at_204) rfl zk) ?_
  show own_E p e below _ (T23.setTop (mkF m 205 #[.val (.long p1), .second, .val (.int p2), .val (.long p3), .second, .val (.int p4), .val (.int p5), .val (.int p6), .val (.int (Int32.ofNat k1)), .val (.int (Int32.ofNat k2)), .val (.int (Int32.ofNat P)), .val (.int ff), .val (.ref b), .val (.ref w), .val (.int (Int32.ofNat (P + own_nb k1))), .val (.int (Int32.ofNat ((P + own_nb k1) + own_nb k2))), .val (.int (Int32.ofNat (own_nb k1))), .val (.int (Int32.ofNat (own_nb k2))), .unset, .unset, .unset, .unset] [(.long p1)]))
  refine own_step (fun _ zk => XS.iload X23.here hx rfl (hb hby at_205) rfl zk) ?_
  show own_E p e below _ (T23.setTop (mkF m 207 #[.val (.long p1), .second, .val (.int p2), .val (.long p3), .second, .val (.int p4), .val (.int p5), .val (.int p6), .val (.int (Int32.ofNat k1)), .val (.int (Int32.ofNat k2)), .val (.int (Int32.ofNat P)), .val (.int ff), .val (.ref b), .val (.ref w), .val (.int (Int32.ofNat (P + own_nb k1))), .val (.int (Int32.ofNat ((P + own_nb k1) + own_nb k2))), .val (.int (Int32.ofNat (own_nb k1))), .val (.int (Int32.ofNat (own_nb k2))), .unset, .unset, .unset, .unset] [(.int (Int32.ofNat k1)), (.long p1)]))
  obtain ⟨_, _, ⟨T24, L24, k24, n24⟩, -, X24, ⟨Lc24, hQ24, l24, y24, z24⟩, st24⟩ := Jvm.LawKit.callS X23 hx (y := (⟨"com/example/furrow/furrow/codec/BitWriterPadPinLaw", "low", "(JI)J"⟩ : MethodName)) hown (mvT hZ (hw _ (List.mem_of_getElem? (i := 29) rfl))) (mvT hZ (hw _ (List.mem_of_getElem? (i := 30) rfl))) (mvT hZ (hw _ (List.mem_of_getElem? (i := 31) rfl))) (mvT hZ (hw _ (List.mem_of_getElem? (i := 32) rfl))) (by decide) (backOf (W := 0) (rm4 l Z a0 hw [] p1 (Int32.ofNat k1) k1 h23 n0 (Nat.le_trans Z0 K_23.1) rfl hk1) hZ (hw _ (List.mem_of_getElem? (i := 32) rfl)) (hw _ (List.mem_of_getElem? (i := 31) rfl)) (by decide) (by decide)) (g := (mkF m 207 #[.val (.long p1), .second, .val (.int p2), .val (.long p3), .second, .val (.int p4), .val (.int p5), .val (.int p6), .val (.int (Int32.ofNat k1)), .val (.int (Int32.ofNat k2)), .val (.int (Int32.ofNat P)), .val (.int ff), .val (.ref b), .val (.ref w), .val (.int (Int32.ofNat (P + own_nb k1))), .val (.int (Int32.ofNat ((P + own_nb k1) + own_nb k2))), .val (.int (Int32.ofNat (own_nb k1))), .val (.int (Int32.ofNat (own_nb k2))), .unset, .unset, .unset, .unset] [(.int (Int32.ofNat k1)), (.long p1)])) rfl (by rw [hml]; rfl) (argsL := [(.long p1), (.int (Int32.ofNat k1))]) (rest := []) (lenOf pd_0_3 rfl) rfl (by show 2 * 0 + _ ≤ _; exact Nat.le_of_eq rfl) (hb hby at_207) (fun _ _ => ⟨rfl, e23, (by decide : 2 + 0 ≤ _), (by decide : 20 + 0 ≤ _)⟩)
  dsimp only [Pt.U, Pt.locs, Pt.cells, Pt.slots] at X24 l24 y24 z24 st24 hQ24
  rw [show k24 = 2 from y24, show n24 = 20 from z24] at X24
  obtain ⟨rfl, N24q, e24⟩ := hQ24
  have N24 : Fr n0 L24 := by rw [l24]; exact Fr.app N23 N24q
  refine own_step (st24) ?_
  show own_E p e below _ (T24.setTop (mkF m 210 #[.val (.long p1), .second, .val (.int p2), .val (.long p3), .second, .val (.int p4), .val (.int p5), .val (.int p6), .val (.int (Int32.ofNat k1)), .val (.int (Int32.ofNat k2)), .val (.int (Int32.ofNat P)), .val (.int ff), .val (.ref b), .val (.ref w), .val (.int (Int32.ofNat (P + own_nb k1))), .val (.int (Int32.ofNat ((P + own_nb k1) + own_nb k2))), .val (.int (Int32.ofNat (own_nb k1))), .val (.int (Int32.ofNat (own_nb k2))), .unset, .unset, .unset, .unset] [(.long (own_low p1 k1))]))
  refine own_step (fun _ zk => Jvm.Free.XT.lstore X24.here hx rfl (hb hby at_210) rfl (l' := #[.val (.long p1), .second, .val (.int p2), .val (.long p3), .second, .val (.int p4), .val (.int p5), .val (.int p6), .val (.int (Int32.ofNat k1)), .val (.int (Int32.ofNat k2)), .val (.int (Int32.ofNat P)), .val (.int ff), .val (.ref b), .val (.ref w), .val (.int (Int32.ofNat (P + own_nb k1))), .val (.int (Int32.ofNat ((P + own_nb k1) + own_nb k2))), .val (.int (Int32.ofNat (own_nb k1))), .val (.int (Int32.ofNat (own_nb k2))), .val (.long (own_low p1 k1)), .second, .unset, .unset]) rfl zk) ?_
  show own_E p e below _ (T24.setTop (mkF m 212 #[.val (.long p1), .second, .val (.int p2), .val (.long p3), .second, .val (.int p4), .val (.int p5), .val (.int p6), .val (.int (Int32.ofNat k1)), .val (.int (Int32.ofNat k2)), .val (.int (Int32.ofNat P)), .val (.int ff), .val (.ref b), .val (.ref w), .val (.int (Int32.ofNat (P + own_nb k1))), .val (.int (Int32.ofNat ((P + own_nb k1) + own_nb k2))), .val (.int (Int32.ofNat (own_nb k1))), .val (.int (Int32.ofNat (own_nb k2))), .val (.long (own_low p1 k1)), .second, .unset, .unset] []))
  refine own_step (fun _ zk => Jvm.Free.XT.lloadN X24.here hx rfl (hb hby at_212) rfl zk) ?_
  show own_E p e below _ (T24.setTop (mkF m 213 #[.val (.long p1), .second, .val (.int p2), .val (.long p3), .second, .val (.int p4), .val (.int p5), .val (.int p6), .val (.int (Int32.ofNat k1)), .val (.int (Int32.ofNat k2)), .val (.int (Int32.ofNat P)), .val (.int ff), .val (.ref b), .val (.ref w), .val (.int (Int32.ofNat (P + own_nb k1))), .val (.int (Int32.ofNat ((P + own_nb k1) + own_nb k2))), .val (.int (Int32.ofNat (own_nb k1))), .val (.int (Int32.ofNat (own_nb k2))), .val (.long (own_low p1 k1)), .second, .unset, .unset] [(.long p3)]))
  refine own_step (fun _ zk => XS.iload X24.here hx rfl (hb hby at_213) rfl zk) ?_
  show own_E p e below _ (T24.setTop (mkF m 215 #[.val (.long p1), .second, .val (.int p2), .val (.long p3), .second, .val (.int p4), .val (.int p5), .val (.int p6), .val (.int (Int32.ofNat k1)), .val (.int (Int32.ofNat k2)), .val (.int (Int32.ofNat P)), .val (.int ff), .val (.ref b), .val (.ref w), .val (.int (Int32.ofNat (P + own_nb k1))), .val (.int (Int32.ofNat ((P + own_nb k1) + own_nb k2))), .val (.int (Int32.ofNat (own_nb k1))), .val (.int (Int32.ofNat (own_nb k2))), .val (.long (own_low p1 k1)), .second, .unset, .unset] [(.int (Int32.ofNat k2)), (.long p3)]))
  obtain ⟨_, _, ⟨T25, L25, k25, n25⟩, -, X25, ⟨Lc25, hQ25, l25, y25, z25⟩, st25⟩ := Jvm.LawKit.callS X24 hx (y := (⟨"com/example/furrow/furrow/codec/BitWriterPadPinLaw", "low", "(JI)J"⟩ : MethodName)) hown (mvT hZ (hw _ (List.mem_of_getElem? (i := 29) rfl))) (mvT hZ (hw _ (List.mem_of_getElem? (i := 30) rfl))) (mvT hZ (hw _ (List.mem_of_getElem? (i := 31) rfl))) (mvT hZ (hw _ (List.mem_of_getElem? (i := 32) rfl))) (by decide) (backOf (W := 0) (rm4 l Z a0 hw [] p3 (Int32.ofNat k2) k2 h23 n0 (Nat.le_trans Z0 K_23.1) rfl hk2) hZ (hw _ (List.mem_of_getElem? (i := 32) rfl)) (hw _ (List.mem_of_getElem? (i := 31) rfl)) (by decide) (by decide)) (g := (mkF m 215 #[.val (.long p1), .second, .val (.int p2), .val (.long p3), .second, .val (.int p4), .val (.int p5), .val (.int p6), .val (.int (Int32.ofNat k1)), .val (.int (Int32.ofNat k2)), .val (.int (Int32.ofNat P)), .val (.int ff), .val (.ref b), .val (.ref w), .val (.int (Int32.ofNat (P + own_nb k1))), .val (.int (Int32.ofNat ((P + own_nb k1) + own_nb k2))), .val (.int (Int32.ofNat (own_nb k1))), .val (.int (Int32.ofNat (own_nb k2))), .val (.long (own_low p1 k1)), .second, .unset, .unset] [(.int (Int32.ofNat k2)), (.long p3)])) rfl (by rw [hml]; rfl) (argsL := [(.long p3), (.int (Int32.ofNat k2))]) (rest := []) (lenOf pd_0_3 rfl) rfl (by show 2 * 0 + _ ≤ _; exact Nat.le_of_eq rfl) (hb hby at_215) (fun _ _ => ⟨rfl, e24, (by decide : 2 + 0 ≤ _), (by decide : 20 + 0 ≤ _)⟩)
  dsimp only [Pt.U, Pt.locs, Pt.cells, Pt.slots] at X25 l25 y25 z25 st25 hQ25
  rw [show k25 = 2 from y25, show n25 = 20 from z25] at X25
  obtain ⟨rfl, N25q, e25⟩ := hQ25
  have N25 : Fr n0 L25 := by rw [l25]; exact Fr.app N24 N25q
  refine own_step (st25) ?_
  show own_E p e below _ (T25.setTop (mkF m 218 #[.val (.long p1), .second, .val (.int p2), .val (.long p3), .second, .val (.int p4), .val (.int p5), .val (.int p6), .val (.int (Int32.ofNat k1)), .val (.int (Int32.ofNat k2)), .val (.int (Int32.ofNat P)), .val (.int ff), .val (.ref b), .val (.ref w), .val (.int (Int32.ofNat (P + own_nb k1))), .val (.int (Int32.ofNat ((P + own_nb k1) + own_nb k2))), .val (.int (Int32.ofNat (own_nb k1))), .val (.int (Int32.ofNat (own_nb k2))), .val (.long (own_low p1 k1)), .second, .unset, .unset] [(.long (own_low p3 k2))]))
  refine own_step (fun _ zk => Jvm.Free.XT.lstore X25.here hx rfl (hb hby at_218) rfl (l' := #[.val (.long p1), .second, .val (.int p2), .val (.long p3), .second, .val (.int p4), .val (.int p5), .val (.int p6), .val (.int (Int32.ofNat k1)), .val (.int (Int32.ofNat k2)), .val (.int (Int32.ofNat P)), .val (.int ff), .val (.ref b), .val (.ref w), .val (.int (Int32.ofNat (P + own_nb k1))), .val (.int (Int32.ofNat ((P + own_nb k1) + own_nb k2))), .val (.int (Int32.ofNat (own_nb k1))), .val (.int (Int32.ofNat (own_nb k2))), .val (.long (own_low p1 k1)), .second, .val (.long (own_low p3 k2)), .second]) rfl zk) ?_
  show own_E p e below _ (T25.setTop (mkF m 220 #[.val (.long p1), .second, .val (.int p2), .val (.long p3), .second, .val (.int p4), .val (.int p5), .val (.int p6), .val (.int (Int32.ofNat k1)), .val (.int (Int32.ofNat k2)), .val (.int (Int32.ofNat P)), .val (.int ff), .val (.ref b), .val (.ref w), .val (.int (Int32.ofNat (P + own_nb k1))), .val (.int (Int32.ofNat ((P + own_nb k1) + own_nb k2))), .val (.int (Int32.ofNat (own_nb k1))), .val (.int (Int32.ofNat (own_nb k2))), .val (.long (own_low p1 k1)), .second, .val (.long (own_low p3 k2)), .second] []))
  refine own_step (fun _ zk => XS.iload X25.here hx rfl (hb hby at_220) rfl zk) ?_
  show own_E p e below _ (T25.setTop (mkF m 222 #[.val (.long p1), .second, .val (.int p2), .val (.long p3), .second, .val (.int p4), .val (.int p5), .val (.int p6), .val (.int (Int32.ofNat k1)), .val (.int (Int32.ofNat k2)), .val (.int (Int32.ofNat P)), .val (.int ff), .val (.ref b), .val (.ref w), .val (.int (Int32.ofNat (P + own_nb k1))), .val (.int (Int32.ofNat ((P + own_nb k1) + own_nb k2))), .val (.int (Int32.ofNat (own_nb k1))), .val (.int (Int32.ofNat (own_nb k2))), .val (.long (own_low p1 k1)), .second, .val (.long (own_low p3 k2)), .second] [(.int (Int32.ofNat (P + own_nb k1)))]))
  refine own_step (fun _ zk => XS.iload X25.here hx rfl (hb hby at_222) rfl zk) ?_
  show own_E p e below _ (T25.setTop (mkF m 224 #[.val (.long p1), .second, .val (.int p2), .val (.long p3), .second, .val (.int p4), .val (.int p5), .val (.int p6), .val (.int (Int32.ofNat k1)), .val (.int (Int32.ofNat k2)), .val (.int (Int32.ofNat P)), .val (.int ff), .val (.ref b), .val (.ref w), .val (.int (Int32.ofNat (P + own_nb k1))), .val (.int (Int32.ofNat ((P + own_nb k1) + own_nb k2))), .val (.int (Int32.ofNat (own_nb k1))), .val (.int (Int32.ofNat (own_nb k2))), .val (.long (own_low p1 k1)), .second, .val (.long (own_low p3 k2)), .second] [(.int (Int32.ofNat P)), (.int (Int32.ofNat (P + own_nb k1)))]))
  refine own_step (fun _ zk => XS.iload X25.here hx rfl (hb hby at_224) rfl zk) ?_
  show own_E p e below _ (T25.setTop (mkF m 226 #[.val (.long p1), .second, .val (.int p2), .val (.long p3), .second, .val (.int p4), .val (.int p5), .val (.int p6), .val (.int (Int32.ofNat k1)), .val (.int (Int32.ofNat k2)), .val (.int (Int32.ofNat P)), .val (.int ff), .val (.ref b), .val (.ref w), .val (.int (Int32.ofNat (P + own_nb k1))), .val (.int (Int32.ofNat ((P + own_nb k1) + own_nb k2))), .val (.int (Int32.ofNat (own_nb k1))), .val (.int (Int32.ofNat (own_nb k2))), .val (.long (own_low p1 k1)), .second, .val (.long (own_low p3 k2)), .second] [(.int (Int32.ofNat (own_nb k1))), (.int (Int32.ofNat P)), (.int (Int32.ofNat (P + own_nb k1)))]))
  refine own_step (fun _ zk => XS.iadd X25.here hx rfl (hb hby at_226) rfl zk) ?_
  show own_E p e below _ (T25.setTop (mkF m 227 #[.val (.long p1), .second, .val (.int p2), .val (.long p3), .second, .val (.int p4), .val (.int p5), .val (.int p6), .val (.int (Int32.ofNat k1)), .val (.int (Int32.ofNat k2)), .val (.int (Int32.ofNat P)), .val (.int ff), .val (.ref b), .val (.ref w), .val (.int (Int32.ofNat (P + own_nb k1))), .val (.int (Int32.ofNat ((P + own_nb k1) + own_nb k2))), .val (.int (Int32.ofNat (own_nb k1))), .val (.int (Int32.ofNat (own_nb k2))), .val (.long (own_low p1 k1)), .second, .val (.long (own_low p3 k2)), .second] [(.int ((Int32.ofNat P) + (Int32.ofNat (own_nb k1)))), (.int (Int32.ofNat (P + own_nb k1)))]))
  refine own_step (fun _ zk => XS.icmpNo X25.here hx rfl (hb hby at_227) rfl (teq (own_add _ _).symm).2 zk) ?_
  show own_E p e below _ (T25.setTop (mkF m 230 #[.val (.long p1), .second, .val (.int p2), .val (.long p3), .second, .val (.int p4), .val (.int p5), .val (.int p6), .val (.int (Int32.ofNat k1)), .val (.int (Int32.ofNat k2)), .val (.int (Int32.ofNat P)), .val (.int ff), .val (.ref b), .val (.ref w), .val (.int (Int32.ofNat (P + own_nb k1))), .val (.int (Int32.ofNat ((P + own_nb k1) + own_nb k2))), .val (.int (Int32.ofNat (own_nb k1))), .val (.int (Int32.ofNat (own_nb k2))), .val (.long (own_low p1 k1)), .second, .val (.long (own_low p3 k2)), .second] []))
  refine own_step (fun _ zk => XS.iload X25.here hx rfl (hb hby at_230) rfl zk) ?_
  show own_E p e below _ (T25.setTop (mkF m 232 #[.val (.long p1), .second, .val (.int p2), .val (.long p3), .second, .val (.int p4), .val (.int p5), .val (.int p6), .val (.int (Int32.ofNat k1)), .val (.int (Int32.ofNat k2)), .val (.int (Int32.ofNat P)), .val (.int ff), .val (.ref b), .val (.ref w), .val (.int (Int32.ofNat (P + own_nb k1))), .val (.int (Int32.ofNat ((P + own_nb k1) + own_nb k2))), .val (.int (Int32.ofNat (own_nb k1))), .val (.int (Int32.ofNat (own_nb k2))), .val (.long (own_low p1 k1)), .second, .val (.long (own_low p3 k2)), .second] [(.int (Int32.ofNat ((P + own_nb k1) + own_nb k2)))]))
  refine own_step (fun _ zk => XS.iload X25.here hx rfl (hb hby at_232) rfl zk) ?_
  show own_E p e below _ (T25.setTop (mkF m 234 #[.val (.long p1), .second, .val (.int p2), .val (.long p3), .second, .val (.int p4), .val (.int p5), .val (.int p6), .val (.int (Int32.ofNat k1)), .val (.int (Int32.ofNat k2)), .val (.int (Int32.ofNat P)), .val (.int ff), .val (.ref b), .val (.ref w), .val (.int (Int32.ofNat (P + own_nb k1))), .val (.int (Int32.ofNat ((P + own_nb k1) + own_nb k2))), .val (.int (Int32.ofNat (own_nb k1))), .val (.int (Int32.ofNat (own_nb k2))), .val (.long (own_low p1 k1)), .second, .val (.long (own_low p3 k2)), .second] [(.int (Int32.ofNat P)), (.int (Int32.ofNat ((P + own_nb k1) + own_nb k2)))]))
  refine own_step (fun _ zk => XS.iload X25.here hx rfl (hb hby at_234) rfl zk) ?_
  show own_E p e below _ (T25.setTop (mkF m 236 #[.val (.long p1), .second, .val (.int p2), .val (.long p3), .second, .val (.int p4), .val (.int p5), .val (.int p6), .val (.int (Int32.ofNat k1)), .val (.int (Int32.ofNat k2)), .val (.int (Int32.ofNat P)), .val (.int ff), .val (.ref b), .val (.ref w), .val (.int (Int32.ofNat (P + own_nb k1))), .val (.int (Int32.ofNat ((P + own_nb k1) + own_nb k2))), .val (.int (Int32.ofNat (own_nb k1))), .val (.int (Int32.ofNat (own_nb k2))), .val (.long (own_low p1 k1)), .second, .val (.long (own_low p3 k2)), .second] [(.int (Int32.ofNat (own_nb k1))), (.int (Int32.ofNat P)), (.int (Int32.ofNat ((P + own_nb k1) + own_nb k2)))]))
  refine own_step (fun _ zk => XS.iadd X25.here hx rfl (hb hby at_236) rfl zk) ?_
  show own_E p e below _ (T25.setTop (mkF m 237 #[.val (.long p1), .second, .val (.int p2), .val (.long p3), .second, .val (.int p4), .val (.int p5), .val (.int p6), .val (.int (Int32.ofNat k1)), .val (.int (Int32.ofNat k2)), .val (.int (Int32.ofNat P)), .val (.int ff), .val (.ref b), .val (.ref w), .val (.int (Int32.ofNat (P + own_nb k1))), .val (.int (Int32.ofNat ((P + own_nb k1) + own_nb k2))), .val (.int (Int32.ofNat (own_nb k1))), .val (.int (Int32.ofNat (own_nb k2))), .val (.long (own_low p1 k1)), .second, .val (.long (own_low p3 k2)), .second] [(.int ((Int32.ofNat P) + (Int32.ofNat (own_nb k1)))), (.int (Int32.ofNat ((P + own_nb k1) + own_nb k2)))]))
  refine own_step (fun _ zk => XS.iload X25.here hx rfl (hb hby at_237) rfl zk) ?_
  show own_E p e below _ (T25.setTop (mkF m 239 #[.val (.long p1), .second, .val (.int p2), .val (.long p3), .second, .val (.int p4), .val (.int p5), .val (.int p6), .val (.int (Int32.ofNat k1)), .val (.int (Int32.ofNat k2)), .val (.int (Int32.ofNat P)), .val (.int ff), .val (.ref b), .val (.ref w), .val (.int (Int32.ofNat (P + own_nb k1))), .val (.int (Int32.ofNat ((P + own_nb k1) + own_nb k2))), .val (.int (Int32.ofNat (own_nb k1))), .val (.int (Int32.ofNat (own_nb k2))), .val (.long (own_low p1 k1)), .second, .val (.long (own_low p3 k2)), .second] [(.int (Int32.ofNat (own_nb k2))), (.int ((Int32.ofNat P) + (Int32.ofNat (own_nb k1)))), (.int (Int32.ofNat ((P + own_nb k1) + own_nb k2)))]))
  refine own_step (fun _ zk => XS.iadd X25.here hx rfl (hb hby at_239) rfl zk) ?_
  show own_E p e below _ (T25.setTop (mkF m 240 #[.val (.long p1), .second, .val (.int p2), .val (.long p3), .second, .val (.int p4), .val (.int p5), .val (.int p6), .val (.int (Int32.ofNat k1)), .val (.int (Int32.ofNat k2)), .val (.int (Int32.ofNat P)), .val (.int ff), .val (.ref b), .val (.ref w), .val (.int (Int32.ofNat (P + own_nb k1))), .val (.int (Int32.ofNat ((P + own_nb k1) + own_nb k2))), .val (.int (Int32.ofNat (own_nb k1))), .val (.int (Int32.ofNat (own_nb k2))), .val (.long (own_low p1 k1)), .second, .val (.long (own_low p3 k2)), .second] [(.int (((Int32.ofNat P) + (Int32.ofNat (own_nb k1))) + (Int32.ofNat (own_nb k2)))), (.int (Int32.ofNat ((P + own_nb k1) + own_nb k2)))]))
  refine own_step (fun _ zk => XS.icmpYes X25.here hx rfl (pc0 := 240) (pc' := 245) rfl (hb hby at_240) rfl (teq (by rw [own_add, own_add])).1 (by decide) (by decide) zk) ?_
  show own_E p e below _ (T25.setTop (mkF m 245 #[.val (.long p1), .second, .val (.int p2), .val (.long p3), .second, .val (.int p4), .val (.int p5), .val (.int p6), .val (.int (Int32.ofNat k1)), .val (.int (Int32.ofNat k2)), .val (.int (Int32.ofNat P)), .val (.int ff), .val (.ref b), .val (.ref w), .val (.int (Int32.ofNat (P + own_nb k1))), .val (.int (Int32.ofNat ((P + own_nb k1) + own_nb k2))), .val (.int (Int32.ofNat (own_nb k1))), .val (.int (Int32.ofNat (own_nb k2))), .val (.long (own_low p1 k1)), .second, .val (.long (own_low p3 k2)), .second] []))
  refine own_step (fun _ zk => XS.aload X25.here hx rfl (hb hby at_245) rfl rfl zk) ?_
  show own_E p e below _ (T25.setTop (mkF m 247 #[.val (.long p1), .second, .val (.int p2), .val (.long p3), .second, .val (.int p4), .val (.int p5), .val (.int p6), .val (.int (Int32.ofNat k1)), .val (.int (Int32.ofNat k2)), .val (.int (Int32.ofNat P)), .val (.int ff), .val (.ref b), .val (.ref w), .val (.int (Int32.ofNat (P + own_nb k1))), .val (.int (Int32.ofNat ((P + own_nb k1) + own_nb k2))), .val (.int (Int32.ofNat (own_nb k1))), .val (.int (Int32.ofNat (own_nb k2))), .val (.long (own_low p1 k1)), .second, .val (.long (own_low p3 k2)), .second] [(.ref b)]))
  refine own_step (fun _ zk => XS.iconst X25.here hx rfl (hb hby at_247) zk) ?_
  show own_E p e below _ (T25.setTop (mkF m 248 #[.val (.long p1), .second, .val (.int p2), .val (.long p3), .second, .val (.int p4), .val (.int p5), .val (.int p6), .val (.int (Int32.ofNat k1)), .val (.int (Int32.ofNat k2)), .val (.int (Int32.ofNat P)), .val (.int ff), .val (.ref b), .val (.ref w), .val (.int (Int32.ofNat (P + own_nb k1))), .val (.int (Int32.ofNat ((P + own_nb k1) + own_nb k2))), .val (.int (Int32.ofNat (own_nb k1))), .val (.int (Int32.ofNat (own_nb k2))), .val (.long (own_low p1 k1)), .second, .val (.long (own_low p3 k2)), .second] [(.int (0 : Int32)), (.ref b)]))
  refine own_step (fun _ zk => XS.iload X25.here hx rfl (hb hby at_248) rfl zk) ?_
  show own_E p e below _ (T25.setTop (mkF m 250 #[.val (.long p1), .second, .val (.int p2), .val (.long p3), .second, .val (.int p4), .val (.int p5), .val (.int p6), .val (.int (Int32.ofNat k1)), .val (.int (Int32.ofNat k2)), .val (.int (Int32.ofNat P)), .val (.int ff), .val (.ref b), .val (.ref w), .val (.int (Int32.ofNat (P + own_nb k1))), .val (.int (Int32.ofNat ((P + own_nb k1) + own_nb k2))), .val (.int (Int32.ofNat (own_nb k1))), .val (.int (Int32.ofNat (own_nb k2))), .val (.long (own_low p1 k1)), .second, .val (.long (own_low p3 k2)), .second] [(.int (Int32.ofNat P)), (.int (0 : Int32)), (.ref b)]))
  refine own_step (fun _ zk => XS.iload X25.here hx rfl (hb hby at_250) rfl zk) ?_
  show own_E p e below _ (T25.setTop (mkF m 252 #[.val (.long p1), .second, .val (.int p2), .val (.long p3), .second, .val (.int p4), .val (.int p5), .val (.int p6), .val (.int (Int32.ofNat k1)), .val (.int (Int32.ofNat k2)), .val (.int (Int32.ofNat P)), .val (.int ff), .val (.ref b), .val (.ref w), .val (.int (Int32.ofNat (P + own_nb k1))), .val (.int (Int32.ofNat ((P + own_nb k1) + own_nb k2))), .val (.int (Int32.ofNat (own_nb k1))), .val (.int (Int32.ofNat (own_nb k2))), .val (.long (own_low p1 k1)), .second, .val (.long (own_low p3 k2)), .second] [(.int (Int32.ofNat (own_nb k1))), (.int (Int32.ofNat P)), (.int (0 : Int32)), (.ref b)]))
  refine own_step (fun _ zk => Jvm.Free.XT.lload X25.here hx rfl (hb hby at_252) rfl zk) ?_
  show own_E p e below _ (T25.setTop (mkF m 254 #[.val (.long p1), .second, .val (.int p2), .val (.long p3), .second, .val (.int p4), .val (.int p5), .val (.int p6), .val (.int (Int32.ofNat k1)), .val (.int (Int32.ofNat k2)), .val (.int (Int32.ofNat P)), .val (.int ff), .val (.ref b), .val (.ref w), .val (.int (Int32.ofNat (P + own_nb k1))), .val (.int (Int32.ofNat ((P + own_nb k1) + own_nb k2))), .val (.int (Int32.ofNat (own_nb k1))), .val (.int (Int32.ofNat (own_nb k2))), .val (.long (own_low p1 k1)), .second, .val (.long (own_low p3 k2)), .second] [(.long (own_low p1 k1)), (.int (Int32.ofNat (own_nb k1))), (.int (Int32.ofNat P)), (.int (0 : Int32)), (.ref b)]))
  refine own_step (fun _ zk => XS.iload X25.here hx rfl (hb hby at_254) rfl zk) ?_
  show own_E p e below _ (T25.setTop (mkF m 256 #[.val (.long p1), .second, .val (.int p2), .val (.long p3), .second, .val (.int p4), .val (.int p5), .val (.int p6), .val (.int (Int32.ofNat k1)), .val (.int (Int32.ofNat k2)), .val (.int (Int32.ofNat P)), .val (.int ff), .val (.ref b), .val (.ref w), .val (.int (Int32.ofNat (P + own_nb k1))), .val (.int (Int32.ofNat ((P + own_nb k1) + own_nb k2))), .val (.int (Int32.ofNat (own_nb k1))), .val (.int (Int32.ofNat (own_nb k2))), .val (.long (own_low p1 k1)), .second, .val (.long (own_low p3 k2)), .second] [(.int (Int32.ofNat (own_nb k2))), (.long (own_low p1 k1)), (.int (Int32.ofNat (own_nb k1))), (.int (Int32.ofNat P)), (.int (0 : Int32)), (.ref b)]))
  refine own_step (fun _ zk => Jvm.Free.XT.lload X25.here hx rfl (hb hby at_256) rfl zk) ?_
  show own_E p e below _ (T25.setTop (mkF m 258 #[.val (.long p1), .second, .val (.int p2), .val (.long p3), .second, .val (.int p4), .val (.int p5), .val (.int p6), .val (.int (Int32.ofNat k1)), .val (.int (Int32.ofNat k2)), .val (.int (Int32.ofNat P)), .val (.int ff), .val (.ref b), .val (.ref w), .val (.int (Int32.ofNat (P + own_nb k1))), .val (.int (Int32.ofNat ((P + own_nb k1) + own_nb k2))), .val (.int (Int32.ofNat (own_nb k1))), .val (.int (Int32.ofNat (own_nb k2))), .val (.long (own_low p1 k1)), .second, .val (.long (own_low p3 k2)), .second] [(.long (own_low p3 k2)), (.int (Int32.ofNat (own_nb k2))), (.long (own_low p1 k1)), (.int (Int32.ofNat (own_nb k1))), (.int (Int32.ofNat P)), (.int (0 : Int32)), (.ref b)]))
  refine own_step (fun _ zk => XS.iload X25.here hx rfl (hb hby at_258) rfl zk) ?_
  show own_E p e below _ (T25.setTop (mkF m 260 #[.val (.long p1), .second, .val (.int p2), .val (.long p3), .second, .val (.int p4), .val (.int p5), .val (.int p6), .val (.int (Int32.ofNat k1)), .val (.int (Int32.ofNat k2)), .val (.int (Int32.ofNat P)), .val (.int ff), .val (.ref b), .val (.ref w), .val (.int (Int32.ofNat (P + own_nb k1))), .val (.int (Int32.ofNat ((P + own_nb k1) + own_nb k2))), .val (.int (Int32.ofNat (own_nb k1))), .val (.int (Int32.ofNat (own_nb k2))), .val (.long (own_low p1 k1)), .second, .val (.long (own_low p3 k2)), .second] [(.int ff), (.long (own_low p3 k2)), (.int (Int32.ofNat (own_nb k2))), (.long (own_low p1 k1)), (.int (Int32.ofNat (own_nb k1))), (.int (Int32.ofNat P)), (.int (0 : Int32)), (.ref b)]))
  obtain ⟨_, _, ⟨T26, L26, k26, n26⟩, -, X26, ⟨Lc26, hQ26, l26, y26, z26⟩, st26⟩ := Jvm.LawKit.callS X25 hx (y := (⟨"com/example/furrow/furrow/codec/BitWriterPadPinLaw", "ok", "([BIIIJIJB)Z"⟩ : MethodName)) hown (mvT hZ (hw _ (List.mem_of_getElem? (i := 33) rfl))) (mvT hZ (hw _ (List.mem_of_getElem? (i := 34) rfl))) (mvT hZ (hw _ (List.mem_of_getElem? (i := 31) rfl))) (mvT hZ (hw _ (List.mem_of_getElem? (i := 35) rfl))) (by decide) (backOf (W := 0) (rm5 l Z a0 hw [] b (0 : Int32) (Int32.ofNat P) (Int32.ofNat (own_nb k1)) (own_low p1 k1) (Int32.ofNat (own_nb k2)) (own_low p3 k2) ff (own_pat (own_low p3 k2) (P + own_nb k1) (own_nb k2) (own_pat (own_low p1 k1) P (own_nb k1) (fun _ => ff))) 0 h23 n0 (Nat.le_trans Z0 K_23.1) A23 rfl (by decide) (own_e_eq _ _ ff 0 P _ _ (by decide) hP7 (own_nb4 hk1) (own_nb4 hk2))) hZ (hw _ (List.mem_of_getElem? (i := 35) rfl)) (hw _ (List.mem_of_getElem? (i := 31) rfl)) (by decide) (by decide)) (g := (mkF m 260 #[.val (.long p1), .second, .val (.int p2), .val (.long p3), .second, .val (.int p4), .val (.int p5), .val (.int p6), .val (.int (Int32.ofNat k1)), .val (.int (Int32.ofNat k2)), .val (.int (Int32.ofNat P)), .val (.int ff), .val (.ref b), .val (.ref w), .val (.int (Int32.ofNat (P + own_nb k1))), .val (.int (Int32.ofNat ((P + own_nb k1) + own_nb k2))), .val (.int (Int32.ofNat (own_nb k1))), .val (.int (Int32.ofNat (own_nb k2))), .val (.long (own_low p1 k1)), .second, .val (.long (own_low p3 k2)), .second] [(.int ff), (.long (own_low p3 k2)), (.int (Int32.ofNat (own_nb k2))), (.long (own_low p1 k1)), (.int (Int32.ofNat (own_nb k1))), (.int (Int32.ofNat P)), (.int (0 : Int32)), (.ref b)])) rfl (by rw [hml]; rfl) (argsL := [(.ref b), (.int (0 : Int32)), (.int (Int32.ofNat P)), (.int (Int32.ofNat (own_nb k1))), (.long (own_low p1 k1)), (.int (Int32.ofNat (own_nb k2))), (.long (own_low p3 k2)), (.int ff)]) (rest := []) (lenOf pd_0_4 rfl) rfl (by show 2 * 0 + _ ≤ _; exact Nat.le_of_eq rfl) (hb hby at_260) (fun _ _ => ⟨rfl, e25, (by decide : 2 + 0 ≤ _), (by decide : 20 + 0 ≤ _)⟩)
  dsimp only [Pt.U, Pt.locs, Pt.cells, Pt.slots] at X26 l26 y26 z26 st26 hQ26
  rw [show k26 = 2 from y26, show n26 = 20 from z26] at X26
  obtain ⟨rfl, N26q, e26⟩ := hQ26
  have N26 : Fr n0 L26 := by rw [l26]; exact Fr.app N25 N26q
  refine own_step (st26) ?_
  show own_E p e below _ (T26.setTop (mkF m 263 #[.val (.long p1), .second, .val (.int p2), .val (.long p3), .second, .val (.int p4), .val (.int p5), .val (.int p6), .val (.int (Int32.ofNat k1)), .val (.int (Int32.ofNat k2)), .val (.int (Int32.ofNat P)), .val (.int ff), .val (.ref b), .val (.ref w), .val (.int (Int32.ofNat (P + own_nb k1))), .val (.int (Int32.ofNat ((P + own_nb k1) + own_nb k2))), .val (.int (Int32.ofNat (own_nb k1))), .val (.int (Int32.ofNat (own_nb k2))), .val (.long (own_low p1 k1)), .second, .val (.long (own_low p3 k2)), .second] [(.int (1 : Int32))]))
  refine own_step (fun _ zk => XS.ifNo X26.here hx rfl (hb hby at_263) rfl ((if0 _ _).trans (feq (by decide)).1) zk) ?_
  show own_E p e below _ (T26.setTop (mkF m 266 #[.val (.long p1), .second, .val (.int p2), .val (.long p3), .second, .val (.int p4), .val (.int p5), .val (.int p6), .val (.int (Int32.ofNat k1)), .val (.int (Int32.ofNat k2)), .val (.int (Int32.ofNat P)), .val (.int ff), .val (.ref b), .val (.ref w), .val (.int (Int32.ofNat (P + own_nb k1))), .val (.int (Int32.ofNat ((P + own_nb k1) + own_nb k2))), .val (.int (Int32.ofNat (own_nb k1))), .val (.int (Int32.ofNat (own_nb k2))), .val (.long (own_low p1 k1)), .second, .val (.long (own_low p3 k2)), .second] []))
  refine own_step (fun _ zk => XS.aload X26.here hx rfl (hb hby at_266) rfl rfl zk) ?_
  show own_E p e below _ (T26.setTop (mkF m 268 #[.val (.long p1), .second, .val (.int p2), .val (.long p3), .second, .val (.int p4), .val (.int p5), .val (.int p6), .val (.int (Int32.ofNat k1)), .val (.int (Int32.ofNat k2)), .val (.int (Int32.ofNat P)), .val (.int ff), .val (.ref b), .val (.ref w), .val (.int (Int32.ofNat (P + own_nb k1))), .val (.int (Int32.ofNat ((P + own_nb k1) + own_nb k2))), .val (.int (Int32.ofNat (own_nb k1))), .val (.int (Int32.ofNat (own_nb k2))), .val (.long (own_low p1 k1)), .second, .val (.long (own_low p3 k2)), .second] [(.ref b)]))
  refine own_step (fun _ zk => XS.iconst X26.here hx rfl (hb hby at_268) zk) ?_
  show own_E p e below _ (T26.setTop (mkF m 269 #[.val (.long p1), .second, .val (.int p2), .val (.long p3), .second, .val (.int p4), .val (.int p5), .val (.int p6), .val (.int (Int32.ofNat k1)), .val (.int (Int32.ofNat k2)), .val (.int (Int32.ofNat P)), .val (.int ff), .val (.ref b), .val (.ref w), .val (.int (Int32.ofNat (P + own_nb k1))), .val (.int (Int32.ofNat ((P + own_nb k1) + own_nb k2))), .val (.int (Int32.ofNat (own_nb k1))), .val (.int (Int32.ofNat (own_nb k2))), .val (.long (own_low p1 k1)), .second, .val (.long (own_low p3 k2)), .second] [(.int (1 : Int32)), (.ref b)]))
  refine own_step (fun _ zk => XS.iload X26.here hx rfl (hb hby at_269) rfl zk) ?_
  show own_E p e below _ (T26.setTop (mkF m 271 #[.val (.long p1), .second, .val (.int p2), .val (.long p3), .second, .val (.int p4), .val (.int p5), .val (.int p6), .val (.int (Int32.ofNat k1)), .val (.int (Int32.ofNat k2)), .val (.int (Int32.ofNat P)), .val (.int ff), .val (.ref b), .val (.ref w), .val (.int (Int32.ofNat (P + own_nb k1))), .val (.int (Int32.ofNat ((P + own_nb k1) + own_nb k2))), .val (.int (Int32.ofNat (own_nb k1))), .val (.int (Int32.ofNat (own_nb k2))), .val (.long (own_low p1 k1)), .second, .val (.long (own_low p3 k2)), .second] [(.int (Int32.ofNat P)), (.int (1 : Int32)), (.ref b)]))
  refine own_step (fun _ zk => XS.iload X26.here hx rfl (hb hby at_271) rfl zk) ?_
  show own_E p e below _ (T26.setTop (mkF m 273 #[.val (.long p1), .second, .val (.int p2), .val (.long p3), .second, .val (.int p4), .val (.int p5), .val (.int p6), .val (.int (Int32.ofNat k1)), .val (.int (Int32.ofNat k2)), .val (.int (Int32.ofNat P)), .val (.int ff), .val (.ref b), .val (.ref w), .val (.int (Int32.ofNat (P + own_nb k1))), .val (.int (Int32.ofNat ((P + own_nb k1) + own_nb k2))), .val (.int (Int32.ofNat (own_nb k1))), .val (.int (Int32.ofNat (own_nb k2))), .val (.long (own_low p1 k1)), .second, .val (.long (own_low p3 k2)), .second] [(.int (Int32.ofNat (own_nb k1))), (.int (Int32.ofNat P)), (.int (1 : Int32)), (.ref b)]))
  refine own_step (fun _ zk => Jvm.Free.XT.lload X26.here hx rfl (hb hby at_273) rfl zk) ?_
  show own_E p e below _ (T26.setTop (mkF m 275 #[.val (.long p1), .second, .val (.int p2), .val (.long p3), .second, .val (.int p4), .val (.int p5), .val (.int p6), .val (.int (Int32.ofNat k1)), .val (.int (Int32.ofNat k2)), .val (.int (Int32.ofNat P)), .val (.int ff), .val (.ref b), .val (.ref w), .val (.int (Int32.ofNat (P + own_nb k1))), .val (.int (Int32.ofNat ((P + own_nb k1) + own_nb k2))), .val (.int (Int32.ofNat (own_nb k1))), .val (.int (Int32.ofNat (own_nb k2))), .val (.long (own_low p1 k1)), .second, .val (.long (own_low p3 k2)), .second] [(.long (own_low p1 k1)), (.int (Int32.ofNat (own_nb k1))), (.int (Int32.ofNat P)), (.int (1 : Int32)), (.ref b)]))
  refine own_step (fun _ zk => XS.iload X26.here hx rfl (hb hby at_275) rfl zk) ?_
  show own_E p e below _ (T26.setTop (mkF m 277 #[.val (.long p1), .second, .val (.int p2), .val (.long p3), .second, .val (.int p4), .val (.int p5), .val (.int p6), .val (.int (Int32.ofNat k1)), .val (.int (Int32.ofNat k2)), .val (.int (Int32.ofNat P)), .val (.int ff), .val (.ref b), .val (.ref w), .val (.int (Int32.ofNat (P + own_nb k1))), .val (.int (Int32.ofNat ((P + own_nb k1) + own_nb k2))), .val (.int (Int32.ofNat (own_nb k1))), .val (.int (Int32.ofNat (own_nb k2))), .val (.long (own_low p1 k1)), .second, .val (.long (own_low p3 k2)), .second] [(.int (Int32.ofNat (own_nb k2))), (.long (own_low p1 k1)), (.int (Int32.ofNat (own_nb k1))), (.int (Int32.ofNat P)), (.int (1 : Int32)), (.ref b)]))
  refine own_step (fun _ zk => Jvm.Free.XT.lload X26.here hx rfl (hb hby at_277) rfl zk) ?_
  show own_E p e below _ (T26.setTop (mkF m 279 #[.val (.long p1), .second, .val (.int p2), .val (.long p3), .second, .val (.int p4), .val (.int p5), .val (.int p6), .val (.int (Int32.ofNat k1)), .val (.int (Int32.ofNat k2)), .val (.int (Int32.ofNat P)), .val (.int ff), .val (.ref b), .val (.ref w), .val (.int (Int32.ofNat (P + own_nb k1))), .val (.int (Int32.ofNat ((P + own_nb k1) + own_nb k2))), .val (.int (Int32.ofNat (own_nb k1))), .val (.int (Int32.ofNat (own_nb k2))), .val (.long (own_low p1 k1)), .second, .val (.long (own_low p3 k2)), .second] [(.long (own_low p3 k2)), (.int (Int32.ofNat (own_nb k2))), (.long (own_low p1 k1)), (.int (Int32.ofNat (own_nb k1))), (.int (Int32.ofNat P)), (.int (1 : Int32)), (.ref b)]))
  refine own_step (fun _ zk => XS.iload X26.here hx rfl (hb hby at_279) rfl zk) ?_
  show own_E p e below _ (T26.setTop (mkF m 281 #[.val (.long p1), .second, .val (.int p2), .val (.long p3), .second, .val (.int p4), .val (.int p5), .val (.int p6), .val (.int (Int32.ofNat k1)), .val (.int (Int32.ofNat k2)), .val (.int (Int32.ofNat P)), .val (.int ff), .val (.ref b), .val (.ref w), .val (.int (Int32.ofNat (P + own_nb k1))), .val (.int (Int32.ofNat ((P + own_nb k1) + own_nb k2))), .val (.int (Int32.ofNat (own_nb k1))), .val (.int (Int32.ofNat (own_nb k2))), .val (.long (own_low p1 k1)), .second, .val (.long (own_low p3 k2)), .second] [(.int ff), (.long (own_low p3 k2)), (.int (Int32.ofNat (own_nb k2))), (.long (own_low p1 k1)), (.int (Int32.ofNat (own_nb k1))), (.int (Int32.ofNat P)), (.int (1 : Int32)), (.ref b)]))
  obtain ⟨_, _, ⟨T27, L27, k27, n27⟩, -, X27, ⟨Lc27, hQ27, l27, y27, z27⟩, st27⟩ := Jvm.LawKit.callS X26 hx (y := (⟨"com/example/furrow/furrow/codec/BitWriterPadPinLaw", "ok", "([BIIIJIJB)Z"⟩ : MethodName)) hown (mvT hZ (hw _ (List.mem_of_getElem? (i := 33) rfl))) (mvT hZ (hw _ (List.mem_of_getElem? (i := 34) rfl))) (mvT hZ (hw _ (List.mem_of_getElem? (i := 31) rfl))) (mvT hZ (hw _ (List.mem_of_getElem? (i := 35) rfl))) (by decide) (backOf (W := 0) (rm5 l Z a0 hw [] b (1 : Int32) (Int32.ofNat P) (Int32.ofNat (own_nb k1)) (own_low p1 k1) (Int32.ofNat (own_nb k2)) (own_low p3 k2) ff (own_pat (own_low p3 k2) (P + own_nb k1) (own_nb k2) (own_pat (own_low p1 k1) P (own_nb k1) (fun _ => ff))) 1 h23 n0 (Nat.le_trans Z0 K_23.1) A23 rfl (by decide) (own_e_eq _ _ ff 1 P _ _ (by decide) hP7 (own_nb4 hk1) (own_nb4 hk2))) hZ (hw _ (List.mem_of_getElem? (i := 35) rfl)) (hw _ (List.mem_of_getElem? (i := 31) rfl)) (by decide) (by decide)) (g := (mkF m 281 #[.val (.long p1), .second, .val (.int p2), .val (.long p3), .second, .val (.int p4), .val (.int p5), .val (.int p6), .val (.int (Int32.ofNat k1)), .val (.int (Int32.ofNat k2)), .val (.int (Int32.ofNat P)), .val (.int ff), .val (.ref b), .val (.ref w), .val (.int (Int32.ofNat (P + own_nb k1))), .val (.int (Int32.ofNat ((P + own_nb k1) + own_nb k2))), .val (.int (Int32.ofNat (own_nb k1))), .val (.int (Int32.ofNat (own_nb k2))), .val (.long (own_low p1 k1)), .second, .val (.long (own_low p3 k2)), .second] [(.int ff), (.long (own_low p3 k2)), (.int (Int32.ofNat (own_nb k2))), (.long (own_low p1 k1)), (.int (Int32.ofNat (own_nb k1))), (.int (Int32.ofNat P)), (.int (1 : Int32)), (.ref b)])) rfl (by rw [hml]; rfl) (argsL := [(.ref b), (.int (1 : Int32)), (.int (Int32.ofNat P)), (.int (Int32.ofNat (own_nb k1))), (.long (own_low p1 k1)), (.int (Int32.ofNat (own_nb k2))), (.long (own_low p3 k2)), (.int ff)]) (rest := []) (lenOf pd_0_4 rfl) rfl (by show 2 * 0 + _ ≤ _; exact Nat.le_of_eq rfl) (hb hby at_281) (fun _ _ => ⟨rfl, e26, (by decide : 2 + 0 ≤ _), (by decide : 20 + 0 ≤ _)⟩)
  dsimp only [Pt.U, Pt.locs, Pt.cells, Pt.slots] at X27 l27 y27 z27 st27 hQ27
  rw [show k27 = 2 from y27, show n27 = 20 from z27] at X27
  obtain ⟨rfl, N27q, e27⟩ := hQ27
  have N27 : Fr n0 L27 := by rw [l27]; exact Fr.app N26 N27q
  refine own_step (st27) ?_
  show own_E p e below _ (T27.setTop (mkF m 284 #[.val (.long p1), .second, .val (.int p2), .val (.long p3), .second, .val (.int p4), .val (.int p5), .val (.int p6), .val (.int (Int32.ofNat k1)), .val (.int (Int32.ofNat k2)), .val (.int (Int32.ofNat P)), .val (.int ff), .val (.ref b), .val (.ref w), .val (.int (Int32.ofNat (P + own_nb k1))), .val (.int (Int32.ofNat ((P + own_nb k1) + own_nb k2))), .val (.int (Int32.ofNat (own_nb k1))), .val (.int (Int32.ofNat (own_nb k2))), .val (.long (own_low p1 k1)), .second, .val (.long (own_low p3 k2)), .second] [(.int (1 : Int32))]))
  refine own_step (fun _ zk => XS.ifNo X27.here hx rfl (hb hby at_284) rfl ((if0 _ _).trans (feq (by decide)).1) zk) ?_
  show own_E p e below _ (T27.setTop (mkF m 287 #[.val (.long p1), .second, .val (.int p2), .val (.long p3), .second, .val (.int p4), .val (.int p5), .val (.int p6), .val (.int (Int32.ofNat k1)), .val (.int (Int32.ofNat k2)), .val (.int (Int32.ofNat P)), .val (.int ff), .val (.ref b), .val (.ref w), .val (.int (Int32.ofNat (P + own_nb k1))), .val (.int (Int32.ofNat ((P + own_nb k1) + own_nb k2))), .val (.int (Int32.ofNat (own_nb k1))), .val (.int (Int32.ofNat (own_nb k2))), .val (.long (own_low p1 k1)), .second, .val (.long (own_low p3 k2)), .second] []))
  refine own_step (fun _ zk => XS.aload X27.here hx rfl (hb hby at_287) rfl rfl zk) ?_
  show own_E p e below _ (T27.setTop (mkF m 289 #[.val (.long p1), .second, .val (.int p2), .val (.long p3), .second, .val (.int p4), .val (.int p5), .val (.int p6), .val (.int (Int32.ofNat k1)), .val (.int (Int32.ofNat k2)), .val (.int (Int32.ofNat P)), .val (.int ff), .val (.ref b), .val (.ref w), .val (.int (Int32.ofNat (P + own_nb k1))), .val (.int (Int32.ofNat ((P + own_nb k1) + own_nb k2))), .val (.int (Int32.ofNat (own_nb k1))), .val (.int (Int32.ofNat (own_nb k2))), .val (.long (own_low p1 k1)), .second, .val (.long (own_low p3 k2)), .second] [(.ref b)]))
  refine own_step (fun _ zk => XS.iconst X27.here hx rfl (hb hby at_289) zk) ?_
  show own_E p e below _ (T27.setTop (mkF m 290 #[.val (.long p1), .second, .val (.int p2), .val (.long p3), .second, .val (.int p4), .val (.int p5), .val (.int p6), .val (.int (Int32.ofNat k1)), .val (.int (Int32.ofNat k2)), .val (.int (Int32.ofNat P)), .val (.int ff), .val (.ref b), .val (.ref w), .val (.int (Int32.ofNat (P + own_nb k1))), .val (.int (Int32.ofNat ((P + own_nb k1) + own_nb k2))), .val (.int (Int32.ofNat (own_nb k1))), .val (.int (Int32.ofNat (own_nb k2))), .val (.long (own_low p1 k1)), .second, .val (.long (own_low p3 k2)), .second] [(.int (2 : Int32)), (.ref b)]))
  refine own_step (fun _ zk => XS.iload X27.here hx rfl (hb hby at_290) rfl zk) ?_
  show own_E p e below _ (T27.setTop (mkF m 292 #[.val (.long p1), .second, .val (.int p2), .val (.long p3), .second, .val (.int p4), .val (.int p5), .val (.int p6), .val (.int (Int32.ofNat k1)), .val (.int (Int32.ofNat k2)), .val (.int (Int32.ofNat P)), .val (.int ff), .val (.ref b), .val (.ref w), .val (.int (Int32.ofNat (P + own_nb k1))), .val (.int (Int32.ofNat ((P + own_nb k1) + own_nb k2))), .val (.int (Int32.ofNat (own_nb k1))), .val (.int (Int32.ofNat (own_nb k2))), .val (.long (own_low p1 k1)), .second, .val (.long (own_low p3 k2)), .second] [(.int (Int32.ofNat P)), (.int (2 : Int32)), (.ref b)]))
  refine own_step (fun _ zk => XS.iload X27.here hx rfl (hb hby at_292) rfl zk) ?_
  show own_E p e below _ (T27.setTop (mkF m 294 #[.val (.long p1), .second, .val (.int p2), .val (.long p3), .second, .val (.int p4), .val (.int p5), .val (.int p6), .val (.int (Int32.ofNat k1)), .val (.int (Int32.ofNat k2)), .val (.int (Int32.ofNat P)), .val (.int ff), .val (.ref b), .val (.ref w), .val (.int (Int32.ofNat (P + own_nb k1))), .val (.int (Int32.ofNat ((P + own_nb k1) + own_nb k2))), .val (.int (Int32.ofNat (own_nb k1))), .val (.int (Int32.ofNat (own_nb k2))), .val (.long (own_low p1 k1)), .second, .val (.long (own_low p3 k2)), .second] [(.int (Int32.ofNat (own_nb k1))), (.int (Int32.ofNat P)), (.int (2 : Int32)), (.ref b)]))
  refine own_step (fun _ zk => Jvm.Free.XT.lload X27.here hx rfl (hb hby at_294) rfl zk) ?_
  show own_E p e below _ (T27.setTop (mkF m 296 #[.val (.long p1), .second, .val (.int p2), .val (.long p3), .second, .val (.int p4), .val (.int p5), .val (.int p6), .val (.int (Int32.ofNat k1)), .val (.int (Int32.ofNat k2)), .val (.int (Int32.ofNat P)), .val (.int ff), .val (.ref b), .val (.ref w), .val (.int (Int32.ofNat (P + own_nb k1))), .val (.int (Int32.ofNat ((P + own_nb k1) + own_nb k2))), .val (.int (Int32.ofNat (own_nb k1))), .val (.int (Int32.ofNat (own_nb k2))), .val (.long (own_low p1 k1)), .second, .val (.long (own_low p3 k2)), .second] [(.long (own_low p1 k1)), (.int (Int32.ofNat (own_nb k1))), (.int (Int32.ofNat P)), (.int (2 : Int32)), (.ref b)]))
  refine own_step (fun _ zk => XS.iload X27.here hx rfl (hb hby at_296) rfl zk) ?_
  show own_E p e below _ (T27.setTop (mkF m 298 #[.val (.long p1), .second, .val (.int p2), .val (.long p3), .second, .val (.int p4), .val (.int p5), .val (.int p6), .val (.int (Int32.ofNat k1)), .val (.int (Int32.ofNat k2)), .val (.int (Int32.ofNat P)), .val (.int ff), .val (.ref b), .val (.ref w), .val (.int (Int32.ofNat (P + own_nb k1))), .val (.int (Int32.ofNat ((P + own_nb k1) + own_nb k2))), .val (.int (Int32.ofNat (own_nb k1))), .val (.int (Int32.ofNat (own_nb k2))), .val (.long (own_low p1 k1)), .second, .val (.long (own_low p3 k2)), .second] [(.int (Int32.ofNat (own_nb k2))), (.long (own_low p1 k1)), (.int (Int32.ofNat (own_nb k1))), (.int (Int32.ofNat P)), (.int (2 : Int32)), (.ref b)]))
  refine own_step (fun _ zk => Jvm.Free.XT.lload X27.here hx rfl (hb hby at_298) rfl zk) ?_
  show own_E p e below _ (T27.setTop (mkF m 300 #[.val (.long p1), .second, .val (.int p2), .val (.long p3), .second, .val (.int p4), .val (.int p5), .val (.int p6), .val (.int (Int32.ofNat k1)), .val (.int (Int32.ofNat k2)), .val (.int (Int32.ofNat P)), .val (.int ff), .val (.ref b), .val (.ref w), .val (.int (Int32.ofNat (P + own_nb k1))), .val (.int (Int32.ofNat ((P + own_nb k1) + own_nb k2))), .val (.int (Int32.ofNat (own_nb k1))), .val (.int (Int32.ofNat (own_nb k2))), .val (.long (own_low p1 k1)), .second, .val (.long (own_low p3 k2)), .second] [(.long (own_low p3 k2)), (.int (Int32.ofNat (own_nb k2))), (.long (own_low p1 k1)), (.int (Int32.ofNat (own_nb k1))), (.int (Int32.ofNat P)), (.int (2 : Int32)), (.ref b)]))
  refine own_step (fun _ zk => XS.iload X27.here hx rfl (hb hby at_300) rfl zk) ?_
  show own_E p e below _ (T27.setTop (mkF m 302 #[.val (.long p1), .second, .val (.int p2), .val (.long p3), .second, .val (.int p4), .val (.int p5), .val (.int p6), .val (.int (Int32.ofNat k1)), .val (.int (Int32.ofNat k2)), .val (.int (Int32.ofNat P)), .val (.int ff), .val (.ref b), .val (.ref w), .val (.int (Int32.ofNat (P + own_nb k1))), .val (.int (Int32.ofNat ((P + own_nb k1) + own_nb k2))), .val (.int (Int32.ofNat (own_nb k1))), .val (.int (Int32.ofNat (own_nb k2))), .val (.long (own_low p1 k1)), .second, .val (.long (own_low p3 k2)), .second] [(.int ff), (.long (own_low p3 k2)), (.int (Int32.ofNat (own_nb k2))), (.long (own_low p1 k1)), (.int (Int32.ofNat (own_nb k1))), (.int (Int32.ofNat P)), (.int (2 : Int32)), (.ref b)]))
  obtain ⟨_, _, ⟨T28, L28, k28, n28⟩, -, X28, ⟨Lc28, hQ28, l28, y28, z28⟩, st28⟩ := Jvm.LawKit.callS X27 hx (y := (⟨"com/example/furrow/furrow/codec/BitWriterPadPinLaw", "ok", "([BIIIJIJB)Z"⟩ : MethodName)) hown (mvT hZ (hw _ (List.mem_of_getElem? (i := 33) rfl))) (mvT hZ (hw _ (List.mem_of_getElem? (i := 34) rfl))) (mvT hZ (hw _ (List.mem_of_getElem? (i := 31) rfl))) (mvT hZ (hw _ (List.mem_of_getElem? (i := 35) rfl))) (by decide) (backOf (W := 0) (rm5 l Z a0 hw [] b (2 : Int32) (Int32.ofNat P) (Int32.ofNat (own_nb k1)) (own_low p1 k1) (Int32.ofNat (own_nb k2)) (own_low p3 k2) ff (own_pat (own_low p3 k2) (P + own_nb k1) (own_nb k2) (own_pat (own_low p1 k1) P (own_nb k1) (fun _ => ff))) 2 h23 n0 (Nat.le_trans Z0 K_23.1) A23 rfl (by decide) (own_e_eq _ _ ff 2 P _ _ (by decide) hP7 (own_nb4 hk1) (own_nb4 hk2))) hZ (hw _ (List.mem_of_getElem? (i := 35) rfl)) (hw _ (List.mem_of_getElem? (i := 31) rfl)) (by decide) (by decide)) (g := (mkF m 302 #[.val (.long p1), .second, .val (.int p2), .val (.long p3), .second, .val (.int p4), .val (.int p5), .val (.int p6), .val (.int (Int32.ofNat k1)), .val (.int (Int32.ofNat k2)), .val (.int (Int32.ofNat P)), .val (.int ff), .val (.ref b), .val (.ref w), .val (.int (Int32.ofNat (P + own_nb k1))), .val (.int (Int32.ofNat ((P + own_nb k1) + own_nb k2))), .val (.int (Int32.ofNat (own_nb k1))), .val (.int (Int32.ofNat (own_nb k2))), .val (.long (own_low p1 k1)), .second, .val (.long (own_low p3 k2)), .second] [(.int ff), (.long (own_low p3 k2)), (.int (Int32.ofNat (own_nb k2))), (.long (own_low p1 k1)), (.int (Int32.ofNat (own_nb k1))), (.int (Int32.ofNat P)), (.int (2 : Int32)), (.ref b)])) rfl (by rw [hml]; rfl) (argsL := [(.ref b), (.int (2 : Int32)), (.int (Int32.ofNat P)), (.int (Int32.ofNat (own_nb k1))), (.long (own_low p1 k1)), (.int (Int32.ofNat (own_nb k2))), (.long (own_low p3 k2)), (.int ff)]) (rest := []) (lenOf pd_0_4 rfl) rfl (by show 2 * 0 + _ ≤ _; exact Nat.le_of_eq rfl) (hb hby at_302) (fun _ _ => ⟨rfl, e27, (by decide : 2 + 0 ≤ _), (by decide : 20 + 0 ≤ _)⟩)
  dsimp only [Pt.U, Pt.locs, Pt.cells, Pt.slots] at X28 l28 y28 z28 st28 hQ28
  rw [show k28 = 2 from y28, show n28 = 20 from z28] at X28
  obtain ⟨rfl, N28q, e28⟩ := hQ28
  have N28 : Fr n0 L28 := by rw [l28]; exact Fr.app N27 N28q
  refine own_step (st28) ?_
  show own_E p e below _ (T28.setTop (mkF m 305 #[.val (.long p1), .second, .val (.int p2), .val (.long p3), .second, .val (.int p4), .val (.int p5), .val (.int p6), .val (.int (Int32.ofNat k1)), .val (.int (Int32.ofNat k2)), .val (.int (Int32.ofNat P)), .val (.int ff), .val (.ref b), .val (.ref w), .val (.int (Int32.ofNat (P + own_nb k1))), .val (.int (Int32.ofNat ((P + own_nb k1) + own_nb k2))), .val (.int (Int32.ofNat (own_nb k1))), .val (.int (Int32.ofNat (own_nb k2))), .val (.long (own_low p1 k1)), .second, .val (.long (own_low p3 k2)), .second] [(.int (1 : Int32))]))
  refine own_step (fun _ zk => XS.ifNo X28.here hx rfl (hb hby at_305) rfl ((if0 _ _).trans (feq (by decide)).1) zk) ?_
  show own_E p e below _ (T28.setTop (mkF m 308 #[.val (.long p1), .second, .val (.int p2), .val (.long p3), .second, .val (.int p4), .val (.int p5), .val (.int p6), .val (.int (Int32.ofNat k1)), .val (.int (Int32.ofNat k2)), .val (.int (Int32.ofNat P)), .val (.int ff), .val (.ref b), .val (.ref w), .val (.int (Int32.ofNat (P + own_nb k1))), .val (.int (Int32.ofNat ((P + own_nb k1) + own_nb k2))), .val (.int (Int32.ofNat (own_nb k1))), .val (.int (Int32.ofNat (own_nb k2))), .val (.long (own_low p1 k1)), .second, .val (.long (own_low p3 k2)), .second] []))
  refine own_step (fun _ zk => XS.aload X28.here hx rfl (hb hby at_308) rfl rfl zk) ?_
  show own_E p e below _ (T28.setTop (mkF m 310 #[.val (.long p1), .second, .val (.int p2), .val (.long p3), .second, .val (.int p4), .val (.int p5), .val (.int p6), .val (.int (Int32.ofNat k1)), .val (.int (Int32.ofNat k2)), .val (.int (Int32.ofNat P)), .val (.int ff), .val (.ref b), .val (.ref w), .val (.int (Int32.ofNat (P + own_nb k1))), .val (.int (Int32.ofNat ((P + own_nb k1) + own_nb k2))), .val (.int (Int32.ofNat (own_nb k1))), .val (.int (Int32.ofNat (own_nb k2))), .val (.long (own_low p1 k1)), .second, .val (.long (own_low p3 k2)), .second] [(.ref b)]))
  refine own_step (fun _ zk => XS.iconst X28.here hx rfl (hb hby at_310) zk) ?_
  show own_E p e below _ (T28.setTop (mkF m 311 #[.val (.long p1), .second, .val (.int p2), .val (.long p3), .second, .val (.int p4), .val (.int p5), .val (.int p6), .val (.int (Int32.ofNat k1)), .val (.int (Int32.ofNat k2)), .val (.int (Int32.ofNat P)), .val (.int ff), .val (.ref b), .val (.ref w), .val (.int (Int32.ofNat (P + own_nb k1))), .val (.int (Int32.ofNat ((P + own_nb k1) + own_nb k2))), .val (.int (Int32.ofNat (own_nb k1))), .val (.int (Int32.ofNat (own_nb k2))), .val (.long (own_low p1 k1)), .second, .val (.long (own_low p3 k2)), .second] [(.int (3 : Int32)), (.ref b)]))
  refine own_step (fun _ zk => XS.iload X28.here hx rfl (hb hby at_311) rfl zk) ?_
  show own_E p e below _ (T28.setTop (mkF m 313 #[.val (.long p1), .second, .val (.int p2), .val (.long p3), .second, .val (.int p4), .val (.int p5), .val (.int p6), .val (.int (Int32.ofNat k1)), .val (.int (Int32.ofNat k2)), .val (.int (Int32.ofNat P)), .val (.int ff), .val (.ref b), .val (.ref w), .val (.int (Int32.ofNat (P + own_nb k1))), .val (.int (Int32.ofNat ((P + own_nb k1) + own_nb k2))), .val (.int (Int32.ofNat (own_nb k1))), .val (.int (Int32.ofNat (own_nb k2))), .val (.long (own_low p1 k1)), .second, .val (.long (own_low p3 k2)), .second] [(.int (Int32.ofNat P)), (.int (3 : Int32)), (.ref b)]))
  refine own_step (fun _ zk => XS.iload X28.here hx rfl (hb hby at_313) rfl zk) ?_
  show own_E p e below _ (T28.setTop (mkF m 315 #[.val (.long p1), .second, .val (.int p2), .val (.long p3), .second, .val (.int p4), .val (.int p5), .val (.int p6), .val (.int (Int32.ofNat k1)), .val (.int (Int32.ofNat k2)), .val (.int (Int32.ofNat P)), .val (.int ff), .val (.ref b), .val (.ref w), .val (.int (Int32.ofNat (P + own_nb k1))), .val (.int (Int32.ofNat ((P + own_nb k1) + own_nb k2))), .val (.int (Int32.ofNat (own_nb k1))), .val (.int (Int32.ofNat (own_nb k2))), .val (.long (own_low p1 k1)), .second, .val (.long (own_low p3 k2)), .second] [(.int (Int32.ofNat (own_nb k1))), (.int (Int32.ofNat P)), (.int (3 : Int32)), (.ref b)]))
  refine own_step (fun _ zk => Jvm.Free.XT.lload X28.here hx rfl (hb hby at_315) rfl zk) ?_
  show own_E p e below _ (T28.setTop (mkF m 317 #[.val (.long p1), .second, .val (.int p2), .val (.long p3), .second, .val (.int p4), .val (.int p5), .val (.int p6), .val (.int (Int32.ofNat k1)), .val (.int (Int32.ofNat k2)), .val (.int (Int32.ofNat P)), .val (.int ff), .val (.ref b), .val (.ref w), .val (.int (Int32.ofNat (P + own_nb k1))), .val (.int (Int32.ofNat ((P + own_nb k1) + own_nb k2))), .val (.int (Int32.ofNat (own_nb k1))), .val (.int (Int32.ofNat (own_nb k2))), .val (.long (own_low p1 k1)), .second, .val (.long (own_low p3 k2)), .second] [(.long (own_low p1 k1)), (.int (Int32.ofNat (own_nb k1))), (.int (Int32.ofNat P)), (.int (3 : Int32)), (.ref b)]))
  refine own_step (fun _ zk => XS.iload X28.here hx rfl (hb hby at_317) rfl zk) ?_
  show own_E p e below _ (T28.setTop (mkF m 319 #[.val (.long p1), .second, .val (.int p2), .val (.long p3), .second, .val (.int p4), .val (.int p5), .val (.int p6), .val (.int (Int32.ofNat k1)), .val (.int (Int32.ofNat k2)), .val (.int (Int32.ofNat P)), .val (.int ff), .val (.ref b), .val (.ref w), .val (.int (Int32.ofNat (P + own_nb k1))), .val (.int (Int32.ofNat ((P + own_nb k1) + own_nb k2))), .val (.int (Int32.ofNat (own_nb k1))), .val (.int (Int32.ofNat (own_nb k2))), .val (.long (own_low p1 k1)), .second, .val (.long (own_low p3 k2)), .second] [(.int (Int32.ofNat (own_nb k2))), (.long (own_low p1 k1)), (.int (Int32.ofNat (own_nb k1))), (.int (Int32.ofNat P)), (.int (3 : Int32)), (.ref b)]))
  refine own_step (fun _ zk => Jvm.Free.XT.lload X28.here hx rfl (hb hby at_319) rfl zk) ?_
  show own_E p e below _ (T28.setTop (mkF m 321 #[.val (.long p1), .second, .val (.int p2), .val (.long p3), .second, .val (.int p4), .val (.int p5), .val (.int p6), .val (.int (Int32.ofNat k1)), .val (.int (Int32.ofNat k2)), .val (.int (Int32.ofNat P)), .val (.int ff), .val (.ref b), .val (.ref w), .val (.int (Int32.ofNat (P + own_nb k1))), .val (.int (Int32.ofNat ((P + own_nb k1) + own_nb k2))), .val (.int (Int32.ofNat (own_nb k1))), .val (.int (Int32.ofNat (own_nb k2))), .val (.long (own_low p1 k1)), .second, .val (.long (own_low p3 k2)), .second] [(.long (own_low p3 k2)), (.int (Int32.ofNat (own_nb k2))), (.long (own_low p1 k1)), (.int (Int32.ofNat (own_nb k1))), (.int (Int32.ofNat P)), (.int (3 : Int32)), (.ref b)]))
  refine own_step (fun _ zk => XS.iload X28.here hx rfl (hb hby at_321) rfl zk) ?_
  show own_E p e below _ (T28.setTop (mkF m 323 #[.val (.long p1), .second, .val (.int p2), .val (.long p3), .second, .val (.int p4), .val (.int p5), .val (.int p6), .val (.int (Int32.ofNat k1)), .val (.int (Int32.ofNat k2)), .val (.int (Int32.ofNat P)), .val (.int ff), .val (.ref b), .val (.ref w), .val (.int (Int32.ofNat (P + own_nb k1))), .val (.int (Int32.ofNat ((P + own_nb k1) + own_nb k2))), .val (.int (Int32.ofNat (own_nb k1))), .val (.int (Int32.ofNat (own_nb k2))), .val (.long (own_low p1 k1)), .second, .val (.long (own_low p3 k2)), .second] [(.int ff), (.long (own_low p3 k2)), (.int (Int32.ofNat (own_nb k2))), (.long (own_low p1 k1)), (.int (Int32.ofNat (own_nb k1))), (.int (Int32.ofNat P)), (.int (3 : Int32)), (.ref b)]))
  obtain ⟨_, _, ⟨T29, L29, k29, n29⟩, -, X29, ⟨Lc29, hQ29, l29, y29, z29⟩, st29⟩ := Jvm.LawKit.callS X28 hx (y := (⟨"com/example/furrow/furrow/codec/BitWriterPadPinLaw", "ok", "([BIIIJIJB)Z"⟩ : MethodName)) hown (mvT hZ (hw _ (List.mem_of_getElem? (i := 33) rfl))) (mvT hZ (hw _ (List.mem_of_getElem? (i := 34) rfl))) (mvT hZ (hw _ (List.mem_of_getElem? (i := 31) rfl))) (mvT hZ (hw _ (List.mem_of_getElem? (i := 35) rfl))) (by decide) (backOf (W := 0) (rm5 l Z a0 hw [] b (3 : Int32) (Int32.ofNat P) (Int32.ofNat (own_nb k1)) (own_low p1 k1) (Int32.ofNat (own_nb k2)) (own_low p3 k2) ff (own_pat (own_low p3 k2) (P + own_nb k1) (own_nb k2) (own_pat (own_low p1 k1) P (own_nb k1) (fun _ => ff))) 3 h23 n0 (Nat.le_trans Z0 K_23.1) A23 rfl (by decide) (own_e_eq _ _ ff 3 P _ _ (by decide) hP7 (own_nb4 hk1) (own_nb4 hk2))) hZ (hw _ (List.mem_of_getElem? (i := 35) rfl)) (hw _ (List.mem_of_getElem? (i := 31) rfl)) (by decide) (by decide)) (g := (mkF m 323 #[.val (.long p1), .second, .val (.int p2), .val (.long p3), .second, .val (.int p4), .val (.int p5), .val (.int p6), .val (.int (Int32.ofNat k1)), .val (.int (Int32.ofNat k2)), .val (.int (Int32.ofNat P)), .val (.int ff), .val (.ref b), .val (.ref w), .val (.int (Int32.ofNat (P + own_nb k1))), .val (.int (Int32.ofNat ((P + own_nb k1) + own_nb k2))), .val (.int (Int32.ofNat (own_nb k1))), .val (.int (Int32.ofNat (own_nb k2))), .val (.long (own_low p1 k1)), .second, .val (.long (own_low p3 k2)), .second] [(.int ff), (.long (own_low p3 k2)), (.int (Int32.ofNat (own_nb k2))), (.long (own_low p1 k1)), (.int (Int32.ofNat (own_nb k1))), (.int (Int32.ofNat P)), (.int (3 : Int32)), (.ref b)])) rfl (by rw [hml]; rfl) (argsL := [(.ref b), (.int (3 : Int32)), (.int (Int32.ofNat P)), (.int (Int32.ofNat (own_nb k1))), (.long (own_low p1 k1)), (.int (Int32.ofNat (own_nb k2))), (.long (own_low p3 k2)), (.int ff)]) (rest := []) (lenOf pd_0_4 rfl) rfl (by show 2 * 0 + _ ≤ _; exact Nat.le_of_eq rfl) (hb hby at_323) (fun _ _ => ⟨rfl, e28, (by decide : 2 + 0 ≤ _), (by decide : 20 + 0 ≤ _)⟩)
  dsimp only [Pt.U, Pt.locs, Pt.cells, Pt.slots] at X29 l29 y29 z29 st29 hQ29
  rw [show k29 = 2 from y29, show n29 = 20 from z29] at X29
  obtain ⟨rfl, N29q, e29⟩ := hQ29
  have N29 : Fr n0 L29 := by rw [l29]; exact Fr.app N28 N29q
  refine own_step (st29) ?_
  show own_E p e below _ (T29.setTop (mkF m 326 #[.val (.long p1), .second, .val (.int p2), .val (.long p3), .second, .val (.int p4), .val (.int p5), .val (.int p6), .val (.int (Int32.ofNat k1)), .val (.int (Int32.ofNat k2)), .val (.int (Int32.ofNat P)), .val (.int ff), .val (.ref b), .val (.ref w), .val (.int (Int32.ofNat (P + own_nb k1))), .val (.int (Int32.ofNat ((P + own_nb k1) + own_nb k2))), .val (.int (Int32.ofNat (own_nb k1))), .val (.int (Int32.ofNat (own_nb k2))), .val (.long (own_low p1 k1)), .second, .val (.long (own_low p3 k2)), .second] [(.int (1 : Int32))]))
  refine own_step (fun _ zk => XS.ifNo X29.here hx rfl (hb hby at_326) rfl ((if0 _ _).trans (feq (by decide)).1) zk) ?_
  show own_E p e below _ (T29.setTop (mkF m 329 #[.val (.long p1), .second, .val (.int p2), .val (.long p3), .second, .val (.int p4), .val (.int p5), .val (.int p6), .val (.int (Int32.ofNat k1)), .val (.int (Int32.ofNat k2)), .val (.int (Int32.ofNat P)), .val (.int ff), .val (.ref b), .val (.ref w), .val (.int (Int32.ofNat (P + own_nb k1))), .val (.int (Int32.ofNat ((P + own_nb k1) + own_nb k2))), .val (.int (Int32.ofNat (own_nb k1))), .val (.int (Int32.ofNat (own_nb k2))), .val (.long (own_low p1 k1)), .second, .val (.long (own_low p3 k2)), .second] []))
  refine own_step (fun _ zk => XS.aload X29.here hx rfl (hb hby at_329) rfl rfl zk) ?_
  show own_E p e below _ (T29.setTop (mkF m 331 #[.val (.long p1), .second, .val (.int p2), .val (.long p3), .second, .val (.int p4), .val (.int p5), .val (.int p6), .val (.int (Int32.ofNat k1)), .val (.int (Int32.ofNat k2)), .val (.int (Int32.ofNat P)), .val (.int ff), .val (.ref b), .val (.ref w), .val (.int (Int32.ofNat (P + own_nb k1))), .val (.int (Int32.ofNat ((P + own_nb k1) + own_nb k2))), .val (.int (Int32.ofNat (own_nb k1))), .val (.int (Int32.ofNat (own_nb k2))), .val (.long (own_low p1 k1)), .second, .val (.long (own_low p3 k2)), .second] [(.ref b)]))
  refine own_step (fun _ zk => XS.iconst X29.here hx rfl (hb hby at_331) zk) ?_
  show own_E p e below _ (T29.setTop (mkF m 332 #[.val (.long p1), .second, .val (.int p2), .val (.long p3), .second, .val (.int p4), .val (.int p5), .val (.int p6), .val (.int (Int32.ofNat k1)), .val (.int (Int32.ofNat k2)), .val (.int (Int32.ofNat P)), .val (.int ff), .val (.ref b), .val (.ref w), .val (.int (Int32.ofNat (P + own_nb k1))), .val (.int (Int32.ofNat ((P + own_nb k1) + own_nb k2))), .val (.int (Int32.ofNat (own_nb k1))), .val (.int (Int32.ofNat (own_nb k2))), .val (.long (own_low p1 k1)), .second, .val (.long (own_low p3 k2)), .second] [(.int (4 : Int32)), (.ref b)]))
  refine own_step (fun _ zk => XS.iload X29.here hx rfl (hb hby at_332) rfl zk) ?_
  show own_E p e below _ (T29.setTop (mkF m 334 #[.val (.long p1), .second, .val (.int p2), .val (.long p3), .second, .val (.int p4), .val (.int p5), .val (.int p6), .val (.int (Int32.ofNat k1)), .val (.int (Int32.ofNat k2)), .val (.int (Int32.ofNat P)), .val (.int ff), .val (.ref b), .val (.ref w), .val (.int (Int32.ofNat (P + own_nb k1))), .val (.int (Int32.ofNat ((P + own_nb k1) + own_nb k2))), .val (.int (Int32.ofNat (own_nb k1))), .val (.int (Int32.ofNat (own_nb k2))), .val (.long (own_low p1 k1)), .second, .val (.long (own_low p3 k2)), .second] [(.int (Int32.ofNat P)), (.int (4 : Int32)), (.ref b)]))
  refine own_step (fun _ zk => XS.iload X29.here hx rfl (hb hby at_334) rfl zk) ?_
  show own_E p e below _ (T29.setTop (mkF m 336 #[.val (.long p1), .second, .val (.int p2), .val (.long p3), .second, .val (.int p4), .val (.int p5), .val (.int p6), .val (.int (Int32.ofNat k1)), .val (.int (Int32.ofNat k2)), .val (.int (Int32.ofNat P)), .val (.int ff), .val (.ref b), .val (.ref w), .val (.int (Int32.ofNat (P + own_nb k1))), .val (.int (Int32.ofNat ((P + own_nb k1) + own_nb k2))), .val (.int (Int32.ofNat (own_nb k1))), .val (.int (Int32.ofNat (own_nb k2))), .val (.long (own_low p1 k1)), .second, .val (.long (own_low p3 k2)), .second] [(.int (Int32.ofNat (own_nb k1))), (.int (Int32.ofNat P)), (.int (4 : Int32)), (.ref b)]))
  refine own_step (fun _ zk => Jvm.Free.XT.lload X29.here hx rfl (hb hby at_336) rfl zk) ?_
  show own_E p e below _ (T29.setTop (mkF m 338 #[.val (.long p1), .second, .val (.int p2), .val (.long p3), .second, .val (.int p4), .val (.int p5), .val (.int p6), .val (.int (Int32.ofNat k1)), .val (.int (Int32.ofNat k2)), .val (.int (Int32.ofNat P)), .val (.int ff), .val (.ref b), .val (.ref w), .val (.int (Int32.ofNat (P + own_nb k1))), .val (.int (Int32.ofNat ((P + own_nb k1) + own_nb k2))), .val (.int (Int32.ofNat (own_nb k1))), .val (.int (Int32.ofNat (own_nb k2))), .val (.long (own_low p1 k1)), .second, .val (.long (own_low p3 k2)), .second] [(.long (own_low p1 k1)), (.int (Int32.ofNat (own_nb k1))), (.int (Int32.ofNat P)), (.int (4 : Int32)), (.ref b)]))
  refine own_step (fun _ zk => XS.iload X29.here hx rfl (hb hby at_338) rfl zk) ?_
  show own_E p e below _ (T29.setTop (mkF m 340 #[.val (.long p1), .second, .val (.int p2), .val (.long p3), .second, .val (.int p4), .val (.int p5), .val (.int p6), .val (.int (Int32.ofNat k1)), .val (.int (Int32.ofNat k2)), .val (.int (Int32.ofNat P)), .val (.int ff), .val (.ref b), .val (.ref w), .val (.int (Int32.ofNat (P + own_nb k1))), .val (.int (Int32.ofNat ((P + own_nb k1) + own_nb k2))), .val (.int (Int32.ofNat (own_nb k1))), .val (.int (Int32.ofNat (own_nb k2))), .val (.long (own_low p1 k1)), .second, .val (.long (own_low p3 k2)), .second] [(.int (Int32.ofNat (own_nb k2))), (.long (own_low p1 k1)), (.int (Int32.ofNat (own_nb k1))), (.int (Int32.ofNat P)), (.int (4 : Int32)), (.ref b)]))
  refine own_step (fun _ zk => Jvm.Free.XT.lload X29.here hx rfl (hb hby at_340) rfl zk) ?_
  show own_E p e below _ (T29.setTop (mkF m 342 #[.val (.long p1), .second, .val (.int p2), .val (.long p3), .second, .val (.int p4), .val (.int p5), .val (.int p6), .val (.int (Int32.ofNat k1)), .val (.int (Int32.ofNat k2)), .val (.int (Int32.ofNat P)), .val (.int ff), .val (.ref b), .val (.ref w), .val (.int (Int32.ofNat (P + own_nb k1))), .val (.int (Int32.ofNat ((P + own_nb k1) + own_nb k2))), .val (.int (Int32.ofNat (own_nb k1))), .val (.int (Int32.ofNat (own_nb k2))), .val (.long (own_low p1 k1)), .second, .val (.long (own_low p3 k2)), .second] [(.long (own_low p3 k2)), (.int (Int32.ofNat (own_nb k2))), (.long (own_low p1 k1)), (.int (Int32.ofNat (own_nb k1))), (.int (Int32.ofNat P)), (.int (4 : Int32)), (.ref b)]))
  refine own_step (fun _ zk => XS.iload X29.here hx rfl (hb hby at_342) rfl zk) ?_
  show own_E p e below _ (T29.setTop (mkF m 344 #[.val (.long p1), .second, .val (.int p2), .val (.long p3), .second, .val (.int p4), .val (.int p5), .val (.int p6), .val (.int (Int32.ofNat k1)), .val (.int (Int32.ofNat k2)), .val (.int (Int32.ofNat P)), .val (.int ff), .val (.ref b), .val (.ref w), .val (.int (Int32.ofNat (P + own_nb k1))), .val (.int (Int32.ofNat ((P + own_nb k1) + own_nb k2))), .val (.int (Int32.ofNat (own_nb k1))), .val (.int (Int32.ofNat (own_nb k2))), .val (.long (own_low p1 k1)), .second, .val (.long (own_low p3 k2)), .second] [(.int ff), (.long (own_low p3 k2)), (.int (Int32.ofNat (own_nb k2))), (.long (own_low p1 k1)), (.int (Int32.ofNat (own_nb k1))), (.int (Int32.ofNat P)), (.int (4 : Int32)), (.ref b)]))
  obtain ⟨_, _, ⟨T30, L30, k30, n30⟩, -, X30, ⟨Lc30, hQ30, l30, y30, z30⟩, st30⟩ := Jvm.LawKit.callS X29 hx (y := (⟨"com/example/furrow/furrow/codec/BitWriterPadPinLaw", "ok", "([BIIIJIJB)Z"⟩ : MethodName)) hown (mvT hZ (hw _ (List.mem_of_getElem? (i := 33) rfl))) (mvT hZ (hw _ (List.mem_of_getElem? (i := 34) rfl))) (mvT hZ (hw _ (List.mem_of_getElem? (i := 31) rfl))) (mvT hZ (hw _ (List.mem_of_getElem? (i := 35) rfl))) (by decide) (backOf (W := 0) (rm5 l Z a0 hw [] b (4 : Int32) (Int32.ofNat P) (Int32.ofNat (own_nb k1)) (own_low p1 k1) (Int32.ofNat (own_nb k2)) (own_low p3 k2) ff (own_pat (own_low p3 k2) (P + own_nb k1) (own_nb k2) (own_pat (own_low p1 k1) P (own_nb k1) (fun _ => ff))) 4 h23 n0 (Nat.le_trans Z0 K_23.1) A23 rfl (by decide) (own_e_eq _ _ ff 4 P _ _ (by decide) hP7 (own_nb4 hk1) (own_nb4 hk2))) hZ (hw _ (List.mem_of_getElem? (i := 35) rfl)) (hw _ (List.mem_of_getElem? (i := 31) rfl)) (by decide) (by decide)) (g := (mkF m 344 #[.val (.long p1), .second, .val (.int p2), .val (.long p3), .second, .val (.int p4), .val (.int p5), .val (.int p6), .val (.int (Int32.ofNat k1)), .val (.int (Int32.ofNat k2)), .val (.int (Int32.ofNat P)), .val (.int ff), .val (.ref b), .val (.ref w), .val (.int (Int32.ofNat (P + own_nb k1))), .val (.int (Int32.ofNat ((P + own_nb k1) + own_nb k2))), .val (.int (Int32.ofNat (own_nb k1))), .val (.int (Int32.ofNat (own_nb k2))), .val (.long (own_low p1 k1)), .second, .val (.long (own_low p3 k2)), .second] [(.int ff), (.long (own_low p3 k2)), (.int (Int32.ofNat (own_nb k2))), (.long (own_low p1 k1)), (.int (Int32.ofNat (own_nb k1))), (.int (Int32.ofNat P)), (.int (4 : Int32)), (.ref b)])) rfl (by rw [hml]; rfl) (argsL := [(.ref b), (.int (4 : Int32)), (.int (Int32.ofNat P)), (.int (Int32.ofNat (own_nb k1))), (.long (own_low p1 k1)), (.int (Int32.ofNat (own_nb k2))), (.long (own_low p3 k2)), (.int ff)]) (rest := []) (lenOf pd_0_4 rfl) rfl (by show 2 * 0 + _ ≤ _; exact Nat.le_of_eq rfl) (hb hby at_344) (fun _ _ => ⟨rfl, e29, (by decide : 2 + 0 ≤ _), (by decide : 20 + 0 ≤ _)⟩)
  dsimp only [Pt.U, Pt.locs, Pt.cells, Pt.slots] at X30 l30 y30 z30 st30 hQ30
  rw [show k30 = 2 from y30, show n30 = 20 from z30] at X30
  obtain ⟨rfl, N30q, e30⟩ := hQ30
  have N30 : Fr n0 L30 := by rw [l30]; exact Fr.app N29 N30q
  refine own_step (st30) ?_
  show own_E p e below _ (T30.setTop (mkF m 347 #[.val (.long p1), .second, .val (.int p2), .val (.long p3), .second, .val (.int p4), .val (.int p5), .val (.int p6), .val (.int (Int32.ofNat k1)), .val (.int (Int32.ofNat k2)), .val (.int (Int32.ofNat P)), .val (.int ff), .val (.ref b), .val (.ref w), .val (.int (Int32.ofNat (P + own_nb k1))), .val (.int (Int32.ofNat ((P + own_nb k1) + own_nb k2))), .val (.int (Int32.ofNat (own_nb k1))), .val (.int (Int32.ofNat (own_nb k2))), .val (.long (own_low p1 k1)), .second, .val (.long (own_low p3 k2)), .second] [(.int (1 : Int32))]))
  refine own_step (fun _ zk => XS.ifNo X30.here hx rfl (hb hby at_347) rfl ((if0 _ _).trans (feq (by decide)).1) zk) ?_
  show own_E p e below _ (T30.setTop (mkF m 350 #[.val (.long p1), .second, .val (.int p2), .val (.long p3), .second, .val (.int p4), .val (.int p5), .val (.int p6), .val (.int (Int32.ofNat k1)), .val (.int (Int32.ofNat k2)), .val (.int (Int32.ofNat P)), .val (.int ff), .val (.ref b), .val (.ref w), .val (.int (Int32.ofNat (P + own_nb k1))), .val (.int (Int32.ofNat ((P + own_nb k1) + own_nb k2))), .val (.int (Int32.ofNat (own_nb k1))), .val (.int (Int32.ofNat (own_nb k2))), .val (.long (own_low p1 k1)), .second, .val (.long (own_low p3 k2)), .second] []))
  refine own_step (fun _ zk => XS.aload X30.here hx rfl (hb hby at_350) rfl rfl zk) ?_
  show own_E p e below _ (T30.setTop (mkF m 352 #[.val (.long p1), .second, .val (.int p2), .val (.long p3), .second, .val (.int p4), .val (.int p5), .val (.int p6), .val (.int (Int32.ofNat k1)), .val (.int (Int32.ofNat k2)), .val (.int (Int32.ofNat P)), .val (.int ff), .val (.ref b), .val (.ref w), .val (.int (Int32.ofNat (P + own_nb k1))), .val (.int (Int32.ofNat ((P + own_nb k1) + own_nb k2))), .val (.int (Int32.ofNat (own_nb k1))), .val (.int (Int32.ofNat (own_nb k2))), .val (.long (own_low p1 k1)), .second, .val (.long (own_low p3 k2)), .second] [(.ref b)]))
  refine own_step (fun _ zk => XS.iconst X30.here hx rfl (hb hby at_352) zk) ?_
  show own_E p e below _ (T30.setTop (mkF m 353 #[.val (.long p1), .second, .val (.int p2), .val (.long p3), .second, .val (.int p4), .val (.int p5), .val (.int p6), .val (.int (Int32.ofNat k1)), .val (.int (Int32.ofNat k2)), .val (.int (Int32.ofNat P)), .val (.int ff), .val (.ref b), .val (.ref w), .val (.int (Int32.ofNat (P + own_nb k1))), .val (.int (Int32.ofNat ((P + own_nb k1) + own_nb k2))), .val (.int (Int32.ofNat (own_nb k1))), .val (.int (Int32.ofNat (own_nb k2))), .val (.long (own_low p1 k1)), .second, .val (.long (own_low p3 k2)), .second] [(.int (5 : Int32)), (.ref b)]))
  refine own_step (fun _ zk => XS.iload X30.here hx rfl (hb hby at_353) rfl zk) ?_
  show own_E p e below _ (T30.setTop (mkF m 355 #[.val (.long p1), .second, .val (.int p2), .val (.long p3), .second, .val (.int p4), .val (.int p5), .val (.int p6), .val (.int (Int32.ofNat k1)), .val (.int (Int32.ofNat k2)), .val (.int (Int32.ofNat P)), .val (.int ff), .val (.ref b), .val (.ref w), .val (.int (Int32.ofNat (P + own_nb k1))), .val (.int (Int32.ofNat ((P + own_nb k1) + own_nb k2))), .val (.int (Int32.ofNat (own_nb k1))), .val (.int (Int32.ofNat (own_nb k2))), .val (.long (own_low p1 k1)), .second, .val (.long (own_low p3 k2)), .second] [(.int (Int32.ofNat P)), (.int (5 : Int32)), (.ref b)]))
  refine own_step (fun _ zk => XS.iload X30.here hx rfl (hb hby at_355) rfl zk) ?_
  show own_E p e below _ (T30.setTop (mkF m 357 #[.val (.long p1), .second, .val (.int p2), .val (.long p3), .second, .val (.int p4), .val (.int p5), .val (.int p6), .val (.int (Int32.ofNat k1)), .val (.int (Int32.ofNat k2)), .val (.int (Int32.ofNat P)), .val (.int ff), .val (.ref b), .val (.ref w), .val (.int (Int32.ofNat (P + own_nb k1))), .val (.int (Int32.ofNat ((P + own_nb k1) + own_nb k2))), .val (.int (Int32.ofNat (own_nb k1))), .val (.int (Int32.ofNat (own_nb k2))), .val (.long (own_low p1 k1)), .second, .val (.long (own_low p3 k2)), .second] [(.int (Int32.ofNat (own_nb k1))), (.int (Int32.ofNat P)), (.int (5 : Int32)), (.ref b)]))
  refine own_step (fun _ zk => Jvm.Free.XT.lload X30.here hx rfl (hb hby at_357) rfl zk) ?_
  show own_E p e below _ (T30.setTop (mkF m 359 #[.val (.long p1), .second, .val (.int p2), .val (.long p3), .second, .val (.int p4), .val (.int p5), .val (.int p6), .val (.int (Int32.ofNat k1)), .val (.int (Int32.ofNat k2)), .val (.int (Int32.ofNat P)), .val (.int ff), .val (.ref b), .val (.ref w), .val (.int (Int32.ofNat (P + own_nb k1))), .val (.int (Int32.ofNat ((P + own_nb k1) + own_nb k2))), .val (.int (Int32.ofNat (own_nb k1))), .val (.int (Int32.ofNat (own_nb k2))), .val (.long (own_low p1 k1)), .second, .val (.long (own_low p3 k2)), .second] [(.long (own_low p1 k1)), (.int (Int32.ofNat (own_nb k1))), (.int (Int32.ofNat P)), (.int (5 : Int32)), (.ref b)]))
  refine own_step (fun _ zk => XS.iload X30.here hx rfl (hb hby at_359) rfl zk) ?_
  show own_E p e below _ (T30.setTop (mkF m 361 #[.val (.long p1), .second, .val (.int p2), .val (.long p3), .second, .val (.int p4), .val (.int p5), .val (.int p6), .val (.int (Int32.ofNat k1)), .val (.int (Int32.ofNat k2)), .val (.int (Int32.ofNat P)), .val (.int ff), .val (.ref b), .val (.ref w), .val (.int (Int32.ofNat (P + own_nb k1))), .val (.int (Int32.ofNat ((P + own_nb k1) + own_nb k2))), .val (.int (Int32.ofNat (own_nb k1))), .val (.int (Int32.ofNat (own_nb k2))), .val (.long (own_low p1 k1)), .second, .val (.long (own_low p3 k2)), .second] [(.int (Int32.ofNat (own_nb k2))), (.long (own_low p1 k1)), (.int (Int32.ofNat (own_nb k1))), (.int (Int32.ofNat P)), (.int (5 : Int32)), (.ref b)]))
  refine own_step (fun _ zk => Jvm.Free.XT.lload X30.here hx rfl (hb hby at_361) rfl zk) ?_
  show own_E p e below _ (T30.setTop (mkF m 363 #[.val (.long p1), .second, .val (.int p2), .val (.long p3), .second, .val (.int p4), .val (.int p5), .val (.int p6), .val (.int (Int32.ofNat k1)), .val (.int (Int32.ofNat k2)), .val (.int (Int32.ofNat P)), .val (.int ff), .val (.ref b), .val (.ref w), .val (.int (Int32.ofNat (P + own_nb k1))), .val (.int (Int32.ofNat ((P + own_nb k1) + own_nb k2))), .val (.int (Int32.ofNat (own_nb k1))), .val (.int (Int32.ofNat (own_nb k2))), .val (.long (own_low p1 k1)), .second, .val (.long (own_low p3 k2)), .second] [(.long (own_low p3 k2)), (.int (Int32.ofNat (own_nb k2))), (.long (own_low p1 k1)), (.int (Int32.ofNat (own_nb k1))), (.int (Int32.ofNat P)), (.int (5 : Int32)), (.ref b)]))
  refine own_step (fun _ zk => XS.iload X30.here hx rfl (hb hby at_363) rfl zk) ?_
  show own_E p e below _ (T30.setTop (mkF m 365 #[.val (.long p1), .second, .val (.int p2), .val (.long p3), .second, .val (.int p4), .val (.int p5), .val (.int p6), .val (.int (Int32.ofNat k1)), .val (.int (Int32.ofNat k2)), .val (.int (Int32.ofNat P)), .val (.int ff), .val (.ref b), .val (.ref w), .val (.int (Int32.ofNat (P + own_nb k1))), .val (.int (Int32.ofNat ((P + own_nb k1) + own_nb k2))), .val (.int (Int32.ofNat (own_nb k1))), .val (.int (Int32.ofNat (own_nb k2))), .val (.long (own_low p1 k1)), .second, .val (.long (own_low p3 k2)), .second] [(.int ff), (.long (own_low p3 k2)), (.int (Int32.ofNat (own_nb k2))), (.long (own_low p1 k1)), (.int (Int32.ofNat (own_nb k1))), (.int (Int32.ofNat P)), (.int (5 : Int32)), (.ref b)]))
  obtain ⟨_, _, ⟨T31, L31, k31, n31⟩, -, X31, ⟨Lc31, hQ31, l31, y31, z31⟩, st31⟩ := Jvm.LawKit.callS X30 hx (y := (⟨"com/example/furrow/furrow/codec/BitWriterPadPinLaw", "ok", "([BIIIJIJB)Z"⟩ : MethodName)) hown (mvT hZ (hw _ (List.mem_of_getElem? (i := 33) rfl))) (mvT hZ (hw _ (List.mem_of_getElem? (i := 34) rfl))) (mvT hZ (hw _ (List.mem_of_getElem? (i := 31) rfl))) (mvT hZ (hw _ (List.mem_of_getElem? (i := 35) rfl))) (by decide) (backOf (W := 0) (rm5 l Z a0 hw [] b (5 : Int32) (Int32.ofNat P) (Int32.ofNat (own_nb k1)) (own_low p1 k1) (Int32.ofNat (own_nb k2)) (own_low p3 k2) ff (own_pat (own_low p3 k2) (P + own_nb k1) (own_nb k2) (own_pat (own_low p1 k1) P (own_nb k1) (fun _ => ff))) 5 h23 n0 (Nat.le_trans Z0 K_23.1) A23 rfl (by decide) (own_e_eq _ _ ff 5 P _ _ (by decide) hP7 (own_nb4 hk1) (own_nb4 hk2))) hZ (hw _ (List.mem_of_getElem? (i := 35) rfl)) (hw _ (List.mem_of_getElem? (i := 31) rfl)) (by decide) (by decide)) (g := (mkF m 365 #[.val (.long p1), .second, .val (.int p2), .val (.long p3), .second, .val (.int p4), .val (.int p5), .val (.int p6), .val (.int (Int32.ofNat k1)), .val (.int (Int32.ofNat k2)), .val (.int (Int32.ofNat P)), .val (.int ff), .val (.ref b), .val (.ref w), .val (.int (Int32.ofNat (P + own_nb k1))), .val (.int (Int32.ofNat ((P + own_nb k1) + own_nb k2))), .val (.int (Int32.ofNat (own_nb k1))), .val (.int (Int32.ofNat (own_nb k2))), .val (.long (own_low p1 k1)), .second, .val (.long (own_low p3 k2)), .second] [(.int ff), (.long (own_low p3 k2)), (.int (Int32.ofNat (own_nb k2))), (.long (own_low p1 k1)), (.int (Int32.ofNat (own_nb k1))), (.int (Int32.ofNat P)), (.int (5 : Int32)), (.ref b)])) rfl (by rw [hml]; rfl) (argsL := [(.ref b), (.int (5 : Int32)), (.int (Int32.ofNat P)), (.int (Int32.ofNat (own_nb k1))), (.long (own_low p1 k1)), (.int (Int32.ofNat (own_nb k2))), (.long (own_low p3 k2)), (.int ff)]) (rest := []) (lenOf pd_0_4 rfl) rfl (by show 2 * 0 + _ ≤ _; exact Nat.le_of_eq rfl) (hb hby at_365) (fun _ _ => ⟨rfl, e30, (by decide : 2 + 0 ≤ _), (by decide : 20 + 0 ≤ _)⟩)
  dsimp only [Pt.U, Pt.locs, Pt.cells, Pt.slots] at X31 l31 y31 z31 st31 hQ31
  rw [show k31 = 2 from y31, show n31 = 20 from z31] at X31
  obtain ⟨rfl, N31q, e31⟩ := hQ31
  have N31 : Fr n0 L31 := by rw [l31]; exact Fr.app N30 N31q
  refine own_step (st31) ?_
  show own_E p e below _ (T31.setTop (mkF m 368 #[.val (.long p1), .second, .val (.int p2), .val (.long p3), .second, .val (.int p4), .val (.int p5), .val (.int p6), .val (.int (Int32.ofNat k1)), .val (.int (Int32.ofNat k2)), .val (.int (Int32.ofNat P)), .val (.int ff), .val (.ref b), .val (.ref w), .val (.int (Int32.ofNat (P + own_nb k1))), .val (.int (Int32.ofNat ((P + own_nb k1) + own_nb k2))), .val (.int (Int32.ofNat (own_nb k1))), .val (.int (Int32.ofNat (own_nb k2))), .val (.long (own_low p1 k1)), .second, .val (.long (own_low p3 k2)), .second] [(.int (1 : Int32))]))
  refine own_step (fun _ zk => XS.ifNo X31.here hx rfl (hb hby at_368) rfl ((if0 _ _).trans (feq (by decide)).1) zk) ?_
  show own_E p e below _ (T31.setTop (mkF m 371 #[.val (.long p1), .second, .val (.int p2), .val (.long p3), .second, .val (.int p4), .val (.int p5), .val (.int p6), .val (.int (Int32.ofNat k1)), .val (.int (Int32.ofNat k2)), .val (.int (Int32.ofNat P)), .val (.int ff), .val (.ref b), .val (.ref w), .val (.int (Int32.ofNat (P + own_nb k1))), .val (.int (Int32.ofNat ((P + own_nb k1) + own_nb k2))), .val (.int (Int32.ofNat (own_nb k1))), .val (.int (Int32.ofNat (own_nb k2))), .val (.long (own_low p1 k1)), .second, .val (.long (own_low p3 k2)), .second] []))
  refine own_step (fun _ zk => XS.aload X31.here hx rfl (hb hby at_371) rfl rfl zk) ?_
  show own_E p e below _ (T31.setTop (mkF m 373 #[.val (.long p1), .second, .val (.int p2), .val (.long p3), .second, .val (.int p4), .val (.int p5), .val (.int p6), .val (.int (Int32.ofNat k1)), .val (.int (Int32.ofNat k2)), .val (.int (Int32.ofNat P)), .val (.int ff), .val (.ref b), .val (.ref w), .val (.int (Int32.ofNat (P + own_nb k1))), .val (.int (Int32.ofNat ((P + own_nb k1) + own_nb k2))), .val (.int (Int32.ofNat (own_nb k1))), .val (.int (Int32.ofNat (own_nb k2))), .val (.long (own_low p1 k1)), .second, .val (.long (own_low p3 k2)), .second] [(.ref b)]))
  refine own_step (fun _ zk => XS.bipush X31.here hx rfl (hb hby at_373) zk) ?_
  show own_E p e below _ (T31.setTop (mkF m 375 #[.val (.long p1), .second, .val (.int p2), .val (.long p3), .second, .val (.int p4), .val (.int p5), .val (.int p6), .val (.int (Int32.ofNat k1)), .val (.int (Int32.ofNat k2)), .val (.int (Int32.ofNat P)), .val (.int ff), .val (.ref b), .val (.ref w), .val (.int (Int32.ofNat (P + own_nb k1))), .val (.int (Int32.ofNat ((P + own_nb k1) + own_nb k2))), .val (.int (Int32.ofNat (own_nb k1))), .val (.int (Int32.ofNat (own_nb k2))), .val (.long (own_low p1 k1)), .second, .val (.long (own_low p3 k2)), .second] [(.int (6 : Int32)), (.ref b)]))
  refine own_step (fun _ zk => XS.iload X31.here hx rfl (hb hby at_375) rfl zk) ?_
  show own_E p e below _ (T31.setTop (mkF m 377 #[.val (.long p1), .second, .val (.int p2), .val (.long p3), .second, .val (.int p4), .val (.int p5), .val (.int p6), .val (.int (Int32.ofNat k1)), .val (.int (Int32.ofNat k2)), .val (.int (Int32.ofNat P)), .val (.int ff), .val (.ref b), .val (.ref w), .val (.int (Int32.ofNat (P + own_nb k1))), .val (.int (Int32.ofNat ((P + own_nb k1) + own_nb k2))), .val (.int (Int32.ofNat (own_nb k1))), .val (.int (Int32.ofNat (own_nb k2))), .val (.long (own_low p1 k1)), .second, .val (.long (own_low p3 k2)), .second] [(.int (Int32.ofNat P)), (.int (6 : Int32)), (.ref b)]))
  refine own_step (fun _ zk => XS.iload X31.here hx rfl (hb hby at_377) rfl zk) ?_
  show own_E p e below _ (T31.setTop (mkF m 379 #[.val (.long p1), .second, .val (.int p2), .val (.long p3), .second, .val (.int p4), .val (.int p5), .val (.int p6), .val (.int (Int32.ofNat k1)), .val (.int (Int32.ofNat k2)), .val (.int (Int32.ofNat P)), .val (.int ff), .val (.ref b), .val (.ref w), .val (.int (Int32.ofNat (P + own_nb k1))), .val (.int (Int32.ofNat ((P + own_nb k1) + own_nb k2))), .val (.int (Int32.ofNat (own_nb k1))), .val (.int (Int32.ofNat (own_nb k2))), .val (.long (own_low p1 k1)), .second, .val (.long (own_low p3 k2)), .second] [(.int (Int32.ofNat (own_nb k1))), (.int (Int32.ofNat P)), (.int (6 : Int32)), (.ref b)]))
  refine own_step (fun _ zk => Jvm.Free.XT.lload X31.here hx rfl (hb hby at_379) rfl zk) ?_
  show own_E p e below _ (T31.setTop (mkF m 381 #[.val (.long p1), .second, .val (.int p2), .val (.long p3), .second, .val (.int p4), .val (.int p5), .val (.int p6), .val (.int (Int32.ofNat k1)), .val (.int (Int32.ofNat k2)), .val (.int (Int32.ofNat P)), .val (.int ff), .val (.ref b), .val (.ref w), .val (.int (Int32.ofNat (P + own_nb k1))), .val (.int (Int32.ofNat ((P + own_nb k1) + own_nb k2))), .val (.int (Int32.ofNat (own_nb k1))), .val (.int (Int32.ofNat (own_nb k2))), .val (.long (own_low p1 k1)), .second, .val (.long (own_low p3 k2)), .second] [(.long (own_low p1 k1)), (.int (Int32.ofNat (own_nb k1))), (.int (Int32.ofNat P)), (.int (6 : Int32)), (.ref b)]))
  refine own_step (fun _ zk => XS.iload X31.here hx rfl (hb hby at_381) rfl zk) ?_
  show own_E p e below _ (T31.setTop (mkF m 383 #[.val (.long p1), .second, .val (.int p2), .val (.long p3), .second, .val (.int p4), .val (.int p5), .val (.int p6), .val (.int (Int32.ofNat k1)), .val (.int (Int32.ofNat k2)), .val (.int (Int32.ofNat P)), .val (.int ff), .val (.ref b), .val (.ref w), .val (.int (Int32.ofNat (P + own_nb k1))), .val (.int (Int32.ofNat ((P + own_nb k1) + own_nb k2))), .val (.int (Int32.ofNat (own_nb k1))), .val (.int (Int32.ofNat (own_nb k2))), .val (.long (own_low p1 k1)), .second, .val (.long (own_low p3 k2)), .second] [(.int (Int32.ofNat (own_nb k2))), (.long (own_low p1 k1)), (.int (Int32.ofNat (own_nb k1))), (.int (Int32.ofNat P)), (.int (6 : Int32)), (.ref b)]))
  refine own_step (fun _ zk => Jvm.Free.XT.lload X31.here hx rfl (hb hby at_383) rfl zk) ?_
  show own_E p e below _ (T31.setTop (mkF m 385 #[.val (.long p1), .second, .val (.int p2), .val (.long p3), .second, .val (.int p4), .val (.int p5), .val (.int p6), .val (.int (Int32.ofNat k1)), .val (.int (Int32.ofNat k2)), .val (.int (Int32.ofNat P)), .val (.int ff), .val (.ref b), .val (.ref w), .val (.int (Int32.ofNat (P + own_nb k1))), .val (.int (Int32.ofNat ((P + own_nb k1) + own_nb k2))), .val (.int (Int32.ofNat (own_nb k1))), .val (.int (Int32.ofNat (own_nb k2))), .val (.long (own_low p1 k1)), .second, .val (.long (own_low p3 k2)), .second] [(.long (own_low p3 k2)), (.int (Int32.ofNat (own_nb k2))), (.long (own_low p1 k1)), (.int (Int32.ofNat (own_nb k1))), (.int (Int32.ofNat P)), (.int (6 : Int32)), (.ref b)]))
  refine own_step (fun _ zk => XS.iload X31.here hx rfl (hb hby at_385) rfl zk) ?_
  show own_E p e below _ (T31.setTop (mkF m 387 #[.val (.long p1), .second, .val (.int p2), .val (.long p3), .second, .val (.int p4), .val (.int p5), .val (.int p6), .val (.int (Int32.ofNat k1)), .val (.int (Int32.ofNat k2)), .val (.int (Int32.ofNat P)), .val (.int ff), .val (.ref b), .val (.ref w), .val (.int (Int32.ofNat (P + own_nb k1))), .val (.int (Int32.ofNat ((P + own_nb k1) + own_nb k2))), .val (.int (Int32.ofNat (own_nb k1))), .val (.int (Int32.ofNat (own_nb k2))), .val (.long (own_low p1 k1)), .second, .val (.long (own_low p3 k2)), .second] [(.int ff), (.long (own_low p3 k2)), (.int (Int32.ofNat (own_nb k2))), (.long (own_low p1 k1)), (.int (Int32.ofNat (own_nb k1))), (.int (Int32.ofNat P)), (.int (6 : Int32)), (.ref b)]))
  obtain ⟨_, _, ⟨T32, L32, k32, n32⟩, -, X32, ⟨Lc32, hQ32, l32, y32, z32⟩, st32⟩ := Jvm.LawKit.callS X31 hx (y := (⟨"com/example/furrow/furrow/codec/BitWriterPadPinLaw", "ok", "([BIIIJIJB)Z"⟩ : MethodName)) hown (mvT hZ (hw _ (List.mem_of_getElem? (i := 33) rfl))) (mvT hZ (hw _ (List.mem_of_getElem? (i := 34) rfl))) (mvT hZ (hw _ (List.mem_of_getElem? (i := 31) rfl))) (mvT hZ (hw _ (List.mem_of_getElem? (i := 35) rfl))) (by decide) (backOf (W := 0) (rm5 l Z a0 hw [] b (6 : Int32) (Int32.ofNat P) (Int32.ofNat (own_nb k1)) (own_low p1 k1) (Int32.ofNat (own_nb k2)) (own_low p3 k2) ff (own_pat (own_low p3 k2) (P + own_nb k1) (own_nb k2) (own_pat (own_low p1 k1) P (own_nb k1) (fun _ => ff))) 6 h23 n0 (Nat.le_trans Z0 K_23.1) A23 rfl (by decide) (own_e_eq _ _ ff 6 P _ _ (by decide) hP7 (own_nb4 hk1) (own_nb4 hk2))) hZ (hw _ (List.mem_of_getElem? (i := 35) rfl)) (hw _ (List.mem_of_getElem? (i := 31) rfl)) (by decide) (by decide)) (g := (mkF m 387 #[.val (.long p1), .second, .val (.int p2), .val (.long p3), .second, .val (.int p4), .val (.int p5), .val (.int p6), .val (.int (Int32.ofNat k1)), .val (.int (Int32.ofNat k2)), .val (.int (Int32.ofNat P)), .val (.int ff), .val (.ref b), .val (.ref w), .val (.int (Int32.ofNat (P + own_nb k1))), .val (.int (Int32.ofNat ((P + own_nb k1) + own_nb k2))), .val (.int (Int32.ofNat (own_nb k1))), .val (.int (Int32.ofNat (own_nb k2))), .val (.long (own_low p1 k1)), .second, .val (.long (own_low p3 k2)), .second] [(.int ff), (.long (own_low p3 k2)), (.int (Int32.ofNat (own_nb k2))), (.long (own_low p1 k1)), (.int (Int32.ofNat (own_nb k1))), (.int (Int32.ofNat P)), (.int (6 : Int32)), (.ref b)])) rfl (by rw [hml]; rfl) (argsL := [(.ref b), (.int (6 : Int32)), (.int (Int32.ofNat P)), (.int (Int32.ofNat (own_nb k1))), (.long (own_low p1 k1)), (.int (Int32.ofNat (own_nb k2))), (.long (own_low p3 k2)), (.int ff)]) (rest := []) (lenOf pd_0_4 rfl) rfl (by show 2 * 0 + _ ≤ _; exact Nat.le_of_eq rfl) (hb hby at_387) (fun _ _ => ⟨rfl, e31, (by decide : 2 + 0 ≤ _), (by decide : 20 + 0 ≤ _)⟩)
  dsimp only [Pt.U, Pt.locs, Pt.cells, Pt.slots] at X32 l32 y32 z32 st32 hQ32
  rw [show k32 = 2 from y32, show n32 = 20 from z32] at X32
  obtain ⟨rfl, N32q, e32⟩ := hQ32
  have N32 : Fr n0 L32 := by rw [l32]; exact Fr.app N31 N32q
  refine own_step (st32) ?_
  show own_E p e below _ (T32.setTop (mkF m 390 #[.val (.long p1), .second, .val (.int p2), .val (.long p3), .second, .val (.int p4), .val (.int p5), .val (.int p6), .val (.int (Int32.ofNat k1)), .val (.int (Int32.ofNat k2)), .val (.int (Int32.ofNat P)), .val (.int ff), .val (.ref b), .val (.ref w), .val (.int (Int32.ofNat (P + own_nb k1))), .val (.int (Int32.ofNat ((P + own_nb k1) + own_nb k2))), .val (.int (Int32.ofNat (own_nb k1))), .val (.int (Int32.ofNat (own_nb k2))), .val (.long (own_low p1 k1)), .second, .val (.long (own_low p3 k2)), .second] [(.int (1 : Int32))]))
  refine own_step (fun _ zk => XS.ifNo X32.here hx rfl (hb hby at_390) rfl ((if0 _ _).trans (feq (by decide)).1) zk) ?_
  show own_E p e below _ (T32.setTop (mkF m 393 #[.val (.long p1), .second, .val (.int p2), .val (.long p3), .second, .val (.int p4), .val (.int p5), .val (.int p6), .val (.int (Int32.ofNat k1)), .val (.int (Int32.ofNat k2)), .val (.int (Int32.ofNat P)), .val (.int ff), .val (.ref b), .val (.ref w), .val (.int (Int32.ofNat (P + own_nb k1))), .val (.int (Int32.ofNat ((P + own_nb k1) + own_nb k2))), .val (.int (Int32.ofNat (own_nb k1))), .val (.int (Int32.ofNat (own_nb k2))), .val (.long (own_low p1 k1)), .second, .val (.long (own_low p3 k2)), .second] []))
  refine own_step (fun _ zk => XS.aload X32.here hx rfl (hb hby at_393) rfl rfl zk) ?_
  show own_E p e below _ (T32.setTop (mkF m 395 #[.val (.long p1), .second, .val (.int p2), .val (.long p3), .second, .val (.int p4), .val (.int p5), .val (.int p6), .val (.int (Int32.ofNat k1)), .val (.int (Int32.ofNat k2)), .val (.int (Int32.ofNat P)), .val (.int ff), .val (.ref b), .val (.ref w), .val (.int (Int32.ofNat (P + own_nb k1))), .val (.int (Int32.ofNat ((P + own_nb k1) + own_nb k2))), .val (.int (Int32.ofNat (own_nb k1))), .val (.int (Int32.ofNat (own_nb k2))), .val (.long (own_low p1 k1)), .second, .val (.long (own_low p3 k2)), .second] [(.ref b)]))
  refine own_step (fun _ zk => XS.bipush X32.here hx rfl (hb hby at_395) zk) ?_
  show own_E p e below _ (T32.setTop (mkF m 397 #[.val (.long p1), .second, .val (.int p2), .val (.long p3), .second, .val (.int p4), .val (.int p5), .val (.int p6), .val (.int (Int32.ofNat k1)), .val (.int (Int32.ofNat k2)), .val (.int (Int32.ofNat P)), .val (.int ff), .val (.ref b), .val (.ref w), .val (.int (Int32.ofNat (P + own_nb k1))), .val (.int (Int32.ofNat ((P + own_nb k1) + own_nb k2))), .val (.int (Int32.ofNat (own_nb k1))), .val (.int (Int32.ofNat (own_nb k2))), .val (.long (own_low p1 k1)), .second, .val (.long (own_low p3 k2)), .second] [(.int (7 : Int32)), (.ref b)]))
  refine own_step (fun _ zk => XS.iload X32.here hx rfl (hb hby at_397) rfl zk) ?_
  show own_E p e below _ (T32.setTop (mkF m 399 #[.val (.long p1), .second, .val (.int p2), .val (.long p3), .second, .val (.int p4), .val (.int p5), .val (.int p6), .val (.int (Int32.ofNat k1)), .val (.int (Int32.ofNat k2)), .val (.int (Int32.ofNat P)), .val (.int ff), .val (.ref b), .val (.ref w), .val (.int (Int32.ofNat (P + own_nb k1))), .val (.int (Int32.ofNat ((P + own_nb k1) + own_nb k2))), .val (.int (Int32.ofNat (own_nb k1))), .val (.int (Int32.ofNat (own_nb k2))), .val (.long (own_low p1 k1)), .second, .val (.long (own_low p3 k2)), .second] [(.int (Int32.ofNat P)), (.int (7 : Int32)), (.ref b)]))
  refine own_step (fun _ zk => XS.iload X32.here hx rfl (hb hby at_399) rfl zk) ?_
  show own_E p e below _ (T32.setTop (mkF m 401 #[.val (.long p1), .second, .val (.int p2), .val (.long p3), .second, .val (.int p4), .val (.int p5), .val (.int p6), .val (.int (Int32.ofNat k1)), .val (.int (Int32.ofNat k2)), .val (.int (Int32.ofNat P)), .val (.int ff), .val (.ref b), .val (.ref w), .val (.int (Int32.ofNat (P + own_nb k1))), .val (.int (Int32.ofNat ((P + own_nb k1) + own_nb k2))), .val (.int (Int32.ofNat (own_nb k1))), .val (.int (Int32.ofNat (own_nb k2))), .val (.long (own_low p1 k1)), .second, .val (.long (own_low p3 k2)), .second] [(.int (Int32.ofNat (own_nb k1))), (.int (Int32.ofNat P)), (.int (7 : Int32)), (.ref b)]))
  refine own_step (fun _ zk => Jvm.Free.XT.lload X32.here hx rfl (hb hby at_401) rfl zk) ?_
  show own_E p e below _ (T32.setTop (mkF m 403 #[.val (.long p1), .second, .val (.int p2), .val (.long p3), .second, .val (.int p4), .val (.int p5), .val (.int p6), .val (.int (Int32.ofNat k1)), .val (.int (Int32.ofNat k2)), .val (.int (Int32.ofNat P)), .val (.int ff), .val (.ref b), .val (.ref w), .val (.int (Int32.ofNat (P + own_nb k1))), .val (.int (Int32.ofNat ((P + own_nb k1) + own_nb k2))), .val (.int (Int32.ofNat (own_nb k1))), .val (.int (Int32.ofNat (own_nb k2))), .val (.long (own_low p1 k1)), .second, .val (.long (own_low p3 k2)), .second] [(.long (own_low p1 k1)), (.int (Int32.ofNat (own_nb k1))), (.int (Int32.ofNat P)), (.int (7 : Int32)), (.ref b)]))
  refine own_step (fun _ zk => XS.iload X32.here hx rfl (hb hby at_403) rfl zk) ?_
  show own_E p e below _ (T32.setTop (mkF m 405 #[.val (.long p1), .second, .val (.int p2), .val (.long p3), .second, .val (.int p4), .val (.int p5), .val (.int p6), .val (.int (Int32.ofNat k1)), .val (.int (Int32.ofNat k2)), .val (.int (Int32.ofNat P)), .val (.int ff), .val (.ref b), .val (.ref w), .val (.int (Int32.ofNat (P + own_nb k1))), .val (.int (Int32.ofNat ((P + own_nb k1) + own_nb k2))), .val (.int (Int32.ofNat (own_nb k1))), .val (.int (Int32.ofNat (own_nb k2))), .val (.long (own_low p1 k1)), .second, .val (.long (own_low p3 k2)), .second] [(.int (Int32.ofNat (own_nb k2))), (.long (own_low p1 k1)), (.int (Int32.ofNat (own_nb k1))), (.int (Int32.ofNat P)), (.int (7 : Int32)), (.ref b)]))
  refine own_step (fun _ zk => Jvm.Free.XT.lload X32.here hx rfl (hb hby at_405) rfl zk) ?_
  show own_E p e below _ (T32.setTop (mkF m 407 #[.val (.long p1), .second, .val (.int p2), .val (.long p3), .second, .val (.int p4), .val (.int p5), .val (.int p6), .val (.int (Int32.ofNat k1)), .val (.int (Int32.ofNat k2)), .val (.int (Int32.ofNat P)), .val (.int ff), .val (.ref b), .val (.ref w), .val (.int (Int32.ofNat (P + own_nb k1))), .val (.int (Int32.ofNat ((P + own_nb k1) + own_nb k2))), .val (.int (Int32.ofNat (own_nb k1))), .val (.int (Int32.ofNat (own_nb k2))), .val (.long (own_low p1 k1)), .second, .val (.long (own_low p3 k2)), .second] [(.long (own_low p3 k2)), (.int (Int32.ofNat (own_nb k2))), (.long (own_low p1 k1)), (.int (Int32.ofNat (own_nb k1))), (.int (Int32.ofNat P)), (.int (7 : Int32)), (.ref b)]))
  refine own_step (fun _ zk => XS.iload X32.here hx rfl (hb hby at_407) rfl zk) ?_
  show own_E p e below _ (T32.setTop (mkF m 409 #[.val (.long p1), .second, .val (.int p2), .val (.long p3), .second, .val (.int p4), .val (.int p5), .val (.int p6), .val (.int (Int32.ofNat k1)), .val (.int (Int32.ofNat k2)), .val (.int (Int32.ofNat P)), .val (.int ff), .val (.ref b), .val (.ref w), .val (.int (Int32.ofNat (P + own_nb k1))), .val (.int (Int32.ofNat ((P + own_nb k1) + own_nb k2))), .val (.int (Int32.ofNat (own_nb k1))), .val (.int (Int32.ofNat (own_nb k2))), .val (.long (own_low p1 k1)), .second, .val (.long (own_low p3 k2)), .second] [(.int ff), (.long (own_low p3 k2)), (.int (Int32.ofNat (own_nb k2))), (.long (own_low p1 k1)), (.int (Int32.ofNat (own_nb k1))), (.int (Int32.ofNat P)), (.int (7 : Int32)), (.ref b)]))
  obtain ⟨_, _, ⟨T33, L33, k33, n33⟩, -, X33, ⟨Lc33, hQ33, l33, y33, z33⟩, st33⟩ := Jvm.LawKit.callS X32 hx (y := (⟨"com/example/furrow/furrow/codec/BitWriterPadPinLaw", "ok", "([BIIIJIJB)Z"⟩ : MethodName)) hown (mvT hZ (hw _ (List.mem_of_getElem? (i := 33) rfl))) (mvT hZ (hw _ (List.mem_of_getElem? (i := 34) rfl))) (mvT hZ (hw _ (List.mem_of_getElem? (i := 31) rfl))) (mvT hZ (hw _ (List.mem_of_getElem? (i := 35) rfl))) (by decide) (backOf (W := 0) (rm5 l Z a0 hw [] b (7 : Int32) (Int32.ofNat P) (Int32.ofNat (own_nb k1)) (own_low p1 k1) (Int32.ofNat (own_nb k2)) (own_low p3 k2) ff (own_pat (own_low p3 k2) (P + own_nb k1) (own_nb k2) (own_pat (own_low p1 k1) P (own_nb k1) (fun _ => ff))) 7 h23 n0 (Nat.le_trans Z0 K_23.1) A23 rfl (by decide) (own_e_eq _ _ ff 7 P _ _ (by decide) hP7 (own_nb4 hk1) (own_nb4 hk2))) hZ (hw _ (List.mem_of_getElem? (i := 35) rfl)) (hw _ (List.mem_of_getElem? (i := 31) rfl)) (by decide) (by decide)) (g := (mkF m 409 #[.val (.long p1), .second, .val (.int p2), .val (.long p3), .second, .val (.int p4), .val (.int p5), .val (.int p6), .val (.int (Int32.ofNat k1)), .val (.int (Int32.ofNat k2)), .val (.int (Int32.ofNat P)), .val (.int ff), .val (.ref b), .val (.ref w), .val (.int (Int32.ofNat (P + own_nb k1))), .val (.int (Int32.ofNat ((P + own_nb k1) + own_nb k2))), .val (.int (Int32.ofNat (own_nb k1))), .val (.int (Int32.ofNat (own_nb k2))), .val (.long (own_low p1 k1)), .second, .val (.long (own_low p3 k2)), .second] [(.int ff), (.long (own_low p3 k2)), (.int (Int32.ofNat (own_nb k2))), (.long (own_low p1 k1)), (.int (Int32.ofNat (own_nb k1))), (.int (Int32.ofNat P)), (.int (7 : Int32)), (.ref b)])) rfl (by rw [hml]; rfl) (argsL := [(.ref b), (.int (7 : Int32)), (.int (Int32.ofNat P)), (.int (Int32.ofNat (own_nb k1))), (.long (own_low p1 k1)), (.int (Int32.ofNat (own_nb k2))), (.long (own_low p3 k2)), (.int ff)]) (rest := []) (lenOf pd_0_4 rfl) rfl (by show 2 * 0 + _ ≤ _; exact Nat.le_of_eq rfl) (hb hby at_409) (fun _ _ => ⟨rfl, e32, (by decide : 2 + 0 ≤ _), (by decide : 20 + 0 ≤ _)⟩)
  dsimp only [Pt.U, Pt.locs, Pt.cells, Pt.slots] at X33 l33 y33 z33 st33 hQ33
  rw [show k33 = 2 from y33, show n33 = 20 from z33] at X33
  obtain ⟨rfl, N33q, e33⟩ := hQ33
  have N33 : Fr n0 L33 := by rw [l33]; exact Fr.app N32 N33q
  refine own_step (st33) ?_
  show own_E p e below _ (T33.setTop (mkF m 412 #[.val (.long p1), .second, .val (.int p2), .val (.long p3), .second, .val (.int p4), .val (.int p5), .val (.int p6), .val (.int (Int32.ofNat k1)), .val (.int (Int32.ofNat k2)), .val (.int (Int32.ofNat P)), .val (.int ff), .val (.ref b), .val (.ref w), .val (.int (Int32.ofNat (P + own_nb k1))), .val (.int (Int32.ofNat ((P + own_nb k1) + own_nb k2))), .val (.int (Int32.ofNat (own_nb k1))), .val (.int (Int32.ofNat (own_nb k2))), .val (.long (own_low p1 k1)), .second, .val (.long (own_low p3 k2)), .second] [(.int (1 : Int32))]))
  refine own_step (fun _ zk => XS.ifNo X33.here hx rfl (hb hby at_412) rfl ((if0 _ _).trans (feq (by decide)).1) zk) ?_
  show own_E p e below _ (T33.setTop (mkF m 415 #[.val (.long p1), .second, .val (.int p2), .val (.long p3), .second, .val (.int p4), .val (.int p5), .val (.int p6), .val (.int (Int32.ofNat k1)), .val (.int (Int32.ofNat k2)), .val (.int (Int32.ofNat P)), .val (.int ff), .val (.ref b), .val (.ref w), .val (.int (Int32.ofNat (P + own_nb k1))), .val (.int (Int32.ofNat ((P + own_nb k1) + own_nb k2))), .val (.int (Int32.ofNat (own_nb k1))), .val (.int (Int32.ofNat (own_nb k2))), .val (.long (own_low p1 k1)), .second, .val (.long (own_low p3 k2)), .second] []))
  refine own_step (fun _ zk => XS.aload X33.here hx rfl (hb hby at_415) rfl rfl zk) ?_
  show own_E p e below _ (T33.setTop (mkF m 417 #[.val (.long p1), .second, .val (.int p2), .val (.long p3), .second, .val (.int p4), .val (.int p5), .val (.int p6), .val (.int (Int32.ofNat k1)), .val (.int (Int32.ofNat k2)), .val (.int (Int32.ofNat P)), .val (.int ff), .val (.ref b), .val (.ref w), .val (.int (Int32.ofNat (P + own_nb k1))), .val (.int (Int32.ofNat ((P + own_nb k1) + own_nb k2))), .val (.int (Int32.ofNat (own_nb k1))), .val (.int (Int32.ofNat (own_nb k2))), .val (.long (own_low p1 k1)), .second, .val (.long (own_low p3 k2)), .second] [(.ref b)]))
  refine own_step (fun _ zk => XS.bipush X33.here hx rfl (hb hby at_417) zk) ?_
  show own_E p e below _ (T33.setTop (mkF m 419 #[.val (.long p1), .second, .val (.int p2), .val (.long p3), .second, .val (.int p4), .val (.int p5), .val (.int p6), .val (.int (Int32.ofNat k1)), .val (.int (Int32.ofNat k2)), .val (.int (Int32.ofNat P)), .val (.int ff), .val (.ref b), .val (.ref w), .val (.int (Int32.ofNat (P + own_nb k1))), .val (.int (Int32.ofNat ((P + own_nb k1) + own_nb k2))), .val (.int (Int32.ofNat (own_nb k1))), .val (.int (Int32.ofNat (own_nb k2))), .val (.long (own_low p1 k1)), .second, .val (.long (own_low p3 k2)), .second] [(.int (8 : Int32)), (.ref b)]))
  refine own_step (fun _ zk => XS.iload X33.here hx rfl (hb hby at_419) rfl zk) ?_
  show own_E p e below _ (T33.setTop (mkF m 421 #[.val (.long p1), .second, .val (.int p2), .val (.long p3), .second, .val (.int p4), .val (.int p5), .val (.int p6), .val (.int (Int32.ofNat k1)), .val (.int (Int32.ofNat k2)), .val (.int (Int32.ofNat P)), .val (.int ff), .val (.ref b), .val (.ref w), .val (.int (Int32.ofNat (P + own_nb k1))), .val (.int (Int32.ofNat ((P + own_nb k1) + own_nb k2))), .val (.int (Int32.ofNat (own_nb k1))), .val (.int (Int32.ofNat (own_nb k2))), .val (.long (own_low p1 k1)), .second, .val (.long (own_low p3 k2)), .second] [(.int (Int32.ofNat P)), (.int (8 : Int32)), (.ref b)]))
  refine own_step (fun _ zk => XS.iload X33.here hx rfl (hb hby at_421) rfl zk) ?_
  show own_E p e below _ (T33.setTop (mkF m 423 #[.val (.long p1), .second, .val (.int p2), .val (.long p3), .second, .val (.int p4), .val (.int p5), .val (.int p6), .val (.int (Int32.ofNat k1)), .val (.int (Int32.ofNat k2)), .val (.int (Int32.ofNat P)), .val (.int ff), .val (.ref b), .val (.ref w), .val (.int (Int32.ofNat (P + own_nb k1))), .val (.int (Int32.ofNat ((P + own_nb k1) + own_nb k2))), .val (.int (Int32.ofNat (own_nb k1))), .val (.int (Int32.ofNat (own_nb k2))), .val (.long (own_low p1 k1)), .second, .val (.long (own_low p3 k2)), .second] [(.int (Int32.ofNat (own_nb k1))), (.int (Int32.ofNat P)), (.int (8 : Int32)), (.ref b)]))
  refine own_step (fun _ zk => Jvm.Free.XT.lload X33.here hx rfl (hb hby at_423) rfl zk) ?_
  show own_E p e below _ (T33.setTop (mkF m 425 #[.val (.long p1), .second, .val (.int p2), .val (.long p3), .second, .val (.int p4), .val (.int p5), .val (.int p6), .val (.int (Int32.ofNat k1)), .val (.int (Int32.ofNat k2)), .val (.int (Int32.ofNat P)), .val (.int ff), .val (.ref b), .val (.ref w), .val (.int (Int32.ofNat (P + own_nb k1))), .val (.int (Int32.ofNat ((P + own_nb k1) + own_nb k2))), .val (.int (Int32.ofNat (own_nb k1))), .val (.int (Int32.ofNat (own_nb k2))), .val (.long (own_low p1 k1)), .second, .val (.long (own_low p3 k2)), .second] [(.long (own_low p1 k1)), (.int (Int32.ofNat (own_nb k1))), (.int (Int32.ofNat P)), (.int (8 : Int32)), (.ref b)]))
  refine own_step (fun _ zk => XS.iload X33.here hx rfl (hb hby at_425) rfl zk) ?_
  show own_E p e below _ (T33.setTop (mkF m 427 #[.val (.long p1), .second, .val (.int p2), .val (.long p3), .second, .val (.int p4), .val (.int p5), .val (.int p6), .val (.int (Int32.ofNat k1)), .val (.int (Int32.ofNat k2)), .val (.int (Int32.ofNat P)), .val (.int ff), .val (.ref b), .val (.ref w), .val (.int (Int32.ofNat (P + own_nb k1))), .val (.int (Int32.ofNat ((P + own_nb k1) + own_nb k2))), .val (.int (Int32.ofNat (own_nb k1))), .val (.int (Int32.ofNat (own_nb k2))), .val (.long (own_low p1 k1)), .second, .val (.long (own_low p3 k2)), .second] [(.int (Int32.ofNat (own_nb k2))), (.long (own_low p1 k1)), (.int (Int32.ofNat (own_nb k1))), (.int (Int32.ofNat P)), (.int (8 : Int32)), (.ref b)]))
  refine own_step (fun _ zk => Jvm.Free.XT.lload X33.here hx rfl (hb hby at_427) rfl zk) ?_
  show own_E p e below _ (T33.setTop (mkF m 429 #[.val (.long p1), .second, .val (.int p2), .val (.long p3), .second, .val (.int p4), .val (.int p5), .val (.int p6), .val (.int (Int32.ofNat k1)), .val (.int (Int32.ofNat k2)), .val (.int (Int32.ofNat P)), .val (.int ff), .val (.ref b), .val (.ref w), .val (.int (Int32.ofNat (P + own_nb k1))), .val (.int (Int32.ofNat ((P + own_nb k1) + own_nb k2))), .val (.int (Int32.ofNat (own_nb k1))), .val (.int (Int32.ofNat (own_nb k2))), .val (.long (own_low p1 k1)), .second, .val (.long (own_low p3 k2)), .second] [(.long (own_low p3 k2)), (.int (Int32.ofNat (own_nb k2))), (.long (own_low p1 k1)), (.int (Int32.ofNat (own_nb k1))), (.int (Int32.ofNat P)), (.int (8 : Int32)), (.ref b)]))
  refine own_step (fun _ zk => XS.iload X33.here hx rfl (hb hby at_429) rfl zk) ?_
  show own_E p e below _ (T33.setTop (mkF m 431 #[.val (.long p1), .second, .val (.int p2), .val (.long p3), .second, .val (.int p4), .val (.int p5), .val (.int p6), .val (.int (Int32.ofNat k1)), .val (.int (Int32.ofNat k2)), .val (.int (Int32.ofNat P)), .val (.int ff), .val (.ref b), .val (.ref w), .val (.int (Int32.ofNat (P + own_nb k1))), .val (.int (Int32.ofNat ((P + own_nb k1) + own_nb k2))), .val (.int (Int32.ofNat (own_nb k1))), .val (.int (Int32.ofNat (own_nb k2))), .val (.long (own_low p1 k1)), .second, .val (.long (own_low p3 k2)), .second] [(.int ff), (.long (own_low p3 k2)), (.int (Int32.ofNat (own_nb k2))), (.long (own_low p1 k1)), (.int (Int32.ofNat (own_nb k1))), (.int (Int32.ofNat P)), (.int (8 : Int32)), (.ref b)]))
  obtain ⟨_, _, ⟨T34, L34, k34, n34⟩, -, X34, ⟨Lc34, hQ34, l34, y34, z34⟩, st34⟩ := Jvm.LawKit.callS X33 hx (y := (⟨"com/example/furrow/furrow/codec/BitWriterPadPinLaw", "ok", "([BIIIJIJB)Z"⟩ : MethodName)) hown (mvT hZ (hw _ (List.mem_of_getElem? (i := 33) rfl))) (mvT hZ (hw _ (List.mem_of_getElem? (i := 34) rfl))) (mvT hZ (hw _ (List.mem_of_getElem? (i := 31) rfl))) (mvT hZ (hw _ (List.mem_of_getElem? (i := 35) rfl))) (by decide) (backOf (W := 0) (rm5 l Z a0 hw [] b (8 : Int32) (Int32.ofNat P) (Int32.ofNat (own_nb k1)) (own_low p1 k1) (Int32.ofNat (own_nb k2)) (own_low p3 k2) ff (own_pat (own_low p3 k2) (P + own_nb k1) (own_nb k2) (own_pat (own_low p1 k1) P (own_nb k1) (fun _ => ff))) 8 h23 n0 (Nat.le_trans Z0 K_23.1) A23 rfl (by decide) (own_e_eq _ _ ff 8 P _ _ (by decide) hP7 (own_nb4 hk1) (own_nb4 hk2))) hZ (hw _ (List.mem_of_getElem? (i := 35) rfl)) (hw _ (List.mem_of_getElem? (i := 31) rfl)) (by decide) (by decide)) (g := (mkF m 431 #[.val (.long p1), .second, .val (.int p2), .val (.long p3), .second, .val (.int p4), .val (.int p5), .val (.int p6), .val (.int (Int32.ofNat k1)), .val (.int (Int32.ofNat k2)), .val (.int (Int32.ofNat P)), .val (.int ff), .val (.ref b), .val (.ref w), .val (.int (Int32.ofNat (P + own_nb k1))), .val (.int (Int32.ofNat ((P + own_nb k1) + own_nb k2))), .val (.int (Int32.ofNat (own_nb k1))), .val (.int (Int32.ofNat (own_nb k2))), .val (.long (own_low p1 k1)), .second, .val (.long (own_low p3 k2)), .second] [(.int ff), (.long (own_low p3 k2)), (.int (Int32.ofNat (own_nb k2))), (.long (own_low p1 k1)), (.int (Int32.ofNat (own_nb k1))), (.int (Int32.ofNat P)), (.int (8 : Int32)), (.ref b)])) rfl (by rw [hml]; rfl) (argsL := [(.ref b), (.int (8 : Int32)), (.int (Int32.ofNat P)), (.int (Int32.ofNat (own_nb k1))), (.long (own_low p1 k1)), (.int (Int32.ofNat (own_nb k2))), (.long (own_low p3 k2)), (.int ff)]) (rest := []) (lenOf pd_0_4 rfl) rfl (by show 2 * 0 + _ ≤ _; exact Nat.le_of_eq rfl) (hb hby at_431) (fun _ _ => ⟨rfl, e33, (by decide : 2 + 0 ≤ _), (by decide : 20 + 0 ≤ _)⟩)
  dsimp only [Pt.U, Pt.locs, Pt.cells, Pt.slots] at X34 l34 y34 z34 st34 hQ34
  rw [show k34 = 2 from y34, show n34 = 20 from z34] at X34
  obtain ⟨rfl, N34q, e34⟩ := hQ34
  have N34 : Fr n0 L34 := by rw [l34]; exact Fr.app N33 N34q
  refine own_step (st34) ?_
  show own_E p e below _ (T34.setTop (mkF m 434 #[.val (.long p1), .second, .val (.int p2), .val (.long p3), .second, .val (.int p4), .val (.int p5), .val (.int p6), .val (.int (Int32.ofNat k1)), .val (.int (Int32.ofNat k2)), .val (.int (Int32.ofNat P)), .val (.int ff), .val (.ref b), .val (.ref w), .val (.int (Int32.ofNat (P + own_nb k1))), .val (.int (Int32.ofNat ((P + own_nb k1) + own_nb k2))), .val (.int (Int32.ofNat (own_nb k1))), .val (.int (Int32.ofNat (own_nb k2))), .val (.long (own_low p1 k1)), .second, .val (.long (own_low p3 k2)), .second] [(.int (1 : Int32))]))
  refine own_step (fun _ zk => XS.ifNo X34.here hx rfl (hb hby at_434) rfl ((if0 _ _).trans (feq (by decide)).1) zk) ?_
  show own_E p e below _ (T34.setTop (mkF m 437 #[.val (.long p1), .second, .val (.int p2), .val (.long p3), .second, .val (.int p4), .val (.int p5), .val (.int p6), .val (.int (Int32.ofNat k1)), .val (.int (Int32.ofNat k2)), .val (.int (Int32.ofNat P)), .val (.int ff), .val (.ref b), .val (.ref w), .val (.int (Int32.ofNat (P + own_nb k1))), .val (.int (Int32.ofNat ((P + own_nb k1) + own_nb k2))), .val (.int (Int32.ofNat (own_nb k1))), .val (.int (Int32.ofNat (own_nb k2))), .val (.long (own_low p1 k1)), .second, .val (.long (own_low p3 k2)), .second] []))
  refine own_step (fun _ zk => XS.aload X34.here hx rfl (hb hby at_437) rfl rfl zk) ?_
  show own_E p e below _ (T34.setTop (mkF m 439 #[.val (.long p1), .second, .val (.int p2), .val (.long p3), .second, .val (.int p4), .val (.int p5), .val (.int p6), .val (.int (Int32.ofNat k1)), .val (.int (Int32.ofNat k2)), .val (.int (Int32.ofNat P)), .val (.int ff), .val (.ref b), .val (.ref w), .val (.int (Int32.ofNat (P + own_nb k1))), .val (.int (Int32.ofNat ((P + own_nb k1) + own_nb k2))), .val (.int (Int32.ofNat (own_nb k1))), .val (.int (Int32.ofNat (own_nb k2))), .val (.long (own_low p1 k1)), .second, .val (.long (own_low p3 k2)), .second] [(.ref b)]))
  refine own_step (fun _ zk => XS.bipush X34.here hx rfl (hb hby at_439) zk) ?_
  show own_E p e below _ (T34.setTop (mkF m 441 #[.val (.long p1), .second, .val (.int p2), .val (.long p3), .second, .val (.int p4), .val (.int p5), .val (.int p6), .val (.int (Int32.ofNat k1)), .val (.int (Int32.ofNat k2)), .val (.int (Int32.ofNat P)), .val (.int ff), .val (.ref b), .val (.ref w), .val (.int (Int32.ofNat (P + own_nb k1))), .val (.int (Int32.ofNat ((P + own_nb k1) + own_nb k2))), .val (.int (Int32.ofNat (own_nb k1))), .val (.int (Int32.ofNat (own_nb k2))), .val (.long (own_low p1 k1)), .second, .val (.long (own_low p3 k2)), .second] [(.int (9 : Int32)), (.ref b)]))
  refine own_step (fun _ zk => XS.iload X34.here hx rfl (hb hby at_441) rfl zk) ?_
  show own_E p e below _ (T34.setTop (mkF m 443 #[.val (.long p1), .second, .val (.int p2), .val (.long p3), .second, .val (.int p4), .val (.int p5), .val (.int p6), .val (.int (Int32.ofNat k1)), .val (.int (Int32.ofNat k2)), .val (.int (Int32.ofNat P)), .val (.int ff), .val (.ref b), .val (.ref w), .val (.int (Int32.ofNat (P + own_nb k1))), .val (.int (Int32.ofNat ((P + own_nb k1) + own_nb k2))), .val (.int (Int32.ofNat (own_nb k1))), .val (.int (Int32.ofNat (own_nb k2))), .val (.long (own_low p1 k1)), .second, .val (.long (own_low p3 k2)), .second] [(.int (Int32.ofNat P)), (.int (9 : Int32)), (.ref b)]))
  refine own_step (fun _ zk => XS.iload X34.here hx rfl (hb hby at_443) rfl zk) ?_
  show own_E p e below _ (T34.setTop (mkF m 445 #[.val (.long p1), .second, .val (.int p2), .val (.long p3), .second, .val (.int p4), .val (.int p5), .val (.int p6), .val (.int (Int32.ofNat k1)), .val (.int (Int32.ofNat k2)), .val (.int (Int32.ofNat P)), .val (.int ff), .val (.ref b), .val (.ref w), .val (.int (Int32.ofNat (P + own_nb k1))), .val (.int (Int32.ofNat ((P + own_nb k1) + own_nb k2))), .val (.int (Int32.ofNat (own_nb k1))), .val (.int (Int32.ofNat (own_nb k2))), .val (.long (own_low p1 k1)), .second, .val (.long (own_low p3 k2)), .second] [(.int (Int32.ofNat (own_nb k1))), (.int (Int32.ofNat P)), (.int (9 : Int32)), (.ref b)]))
  refine own_step (fun _ zk => Jvm.Free.XT.lload X34.here hx rfl (hb hby at_445) rfl zk) ?_
  show own_E p e below _ (T34.setTop (mkF m 447 #[.val (.long p1), .second, .val (.int p2), .val (.long p3), .second, .val (.int p4), .val (.int p5), .val (.int p6), .val (.int (Int32.ofNat k1)), .val (.int (Int32.ofNat k2)), .val (.int (Int32.ofNat P)), .val (.int ff), .val (.ref b), .val (.ref w), .val (.int (Int32.ofNat (P + own_nb k1))), .val (.int (Int32.ofNat ((P + own_nb k1) + own_nb k2))), .val (.int (Int32.ofNat (own_nb k1))), .val (.int (Int32.ofNat (own_nb k2))), .val (.long (own_low p1 k1)), .second, .val (.long (own_low p3 k2)), .second] [(.long (own_low p1 k1)), (.int (Int32.ofNat (own_nb k1))), (.int (Int32.ofNat P)), (.int (9 : Int32)), (.ref b)]))
  refine own_step (fun _ zk => XS.iload X34.here hx rfl (hb hby at_447) rfl zk) ?_
  show own_E p e below _ (T34.setTop (mkF m 449 #[.val (.long p1), .second, .val (.int p2), .val (.long p3), .second, .val (.int p4), .val (.int p5), .val (.int p6), .val (.int (Int32.ofNat k1)), .val (.int (Int32.ofNat k2)), .val (.int (Int32.ofNat P)), .val (.int ff), .val (.ref b), .val (.ref w), .val (.int (Int32.ofNat (P + own_nb k1))), .val (.int (Int32.ofNat ((P + own_nb k1) + own_nb k2))), .val (.int (Int32.ofNat (own_nb k1))), .val (.int (Int32.ofNat (own_nb k2))), .val (.long (own_low p1 k1)), .second, .val (.long (own_low p3 k2)), .second] [(.int (Int32.ofNat (own_nb k2))), (.long (own_low p1 k1)), (.int (Int32.ofNat (own_nb k1))), (.int (Int32.ofNat P)), (.int (9 : Int32)), (.ref b)]))
  refine own_step (fun _ zk => Jvm.Free.XT.lload X34.here hx rfl (hb hby at_449) rfl zk) ?_
  show own_E p e below _ (T34.setTop (mkF m 451 #[.val (.long p1), .second, .val (.int p2), .val (.long p3), .second, .val (.int p4), .val (.int p5), .val (.int p6), .val (.int (Int32.ofNat k1)), .val (.int (Int32.ofNat k2)), .val (.int (Int32.ofNat P)), .val (.int ff), .val (.ref b), .val (.ref w), .val (.int (Int32.ofNat (P + own_nb k1))), .val (.int (Int32.ofNat ((P + own_nb k1) + own_nb k2))), .val (.int (Int32.ofNat (own_nb k1))), .val (.int (Int32.ofNat (own_nb k2))), .val (.long (own_low p1 k1)), .second, .val (.long (own_low p3 k2)), .second] [(.long (own_low p3 k2)), (.int (Int32.ofNat (own_nb k2))), (.long (own_low p1 k1)), (.int (Int32.ofNat (own_nb k1))), (.int (Int32.ofNat P)), (.int (9 : Int32)), (.ref b)]))
  refine own_step (fun _ zk => XS.iload X34.here hx rfl (hb hby at_451) rfl zk) ?_
  show own_E p e below _ (T34.setTop (mkF m 453 #[.val (.long p1), .second, .val (.int p2), .val (.long p3), .second, .val (.int p4), .val (.int p5), .val (.int p6), .val (.int (Int32.ofNat k1)), .val (.int (Int32.ofNat k2)), .val (.int (Int32.ofNat P)), .val (.int ff), .val (.ref b), .val (.ref w), .val (.int (Int32.ofNat (P + own_nb k1))), .val (.int (Int32.ofNat ((P + own_nb k1) + own_nb k2))), .val (.int (Int32.ofNat (own_nb k1))), .val (.int (Int32.ofNat (own_nb k2))), .val (.long (own_low p1 k1)), .second, .val (.long (own_low p3 k2)), .second] [(.int ff), (.long (own_low p3 k2)), (.int (Int32.ofNat (own_nb k2))), (.long (own_low p1 k1)), (.int (Int32.ofNat (own_nb k1))), (.int (Int32.ofNat P)), (.int (9 : Int32)), (.ref b)]))
  obtain ⟨_, _, ⟨T35, L35, k35, n35⟩, -, X35, ⟨Lc35, hQ35, l35, y35, z35⟩, st35⟩ := Jvm.LawKit.callS X34 hx (y := (⟨"com/example/furrow/furrow/codec/BitWriterPadPinLaw", "ok", "([BIIIJIJB)Z"⟩ : MethodName)) hown (mvT hZ (hw _ (List.mem_of_getElem? (i := 33) rfl))) (mvT hZ (hw _ (List.mem_of_getElem? (i := 34) rfl))) (mvT hZ (hw _ (List.mem_of_getElem? (i := 31) rfl))) (mvT hZ (hw _ (List.mem_of_getElem? (i := 35) rfl))) (by decide) (backOf (W := 0) (rm5 l Z a0 hw [] b (9 : Int32) (Int32.ofNat P) (Int32.ofNat (own_nb k1)) (own_low p1 k1) (Int32.ofNat (own_nb k2)) (own_low p3 k2) ff (own_pat (own_low p3 k2) (P + own_nb k1) (own_nb k2) (own_pat (own_low p1 k1) P (own_nb k1) (fun _ => ff))) 9 h23 n0 (Nat.le_trans Z0 K_23.1) A23 rfl (by decide) (own_e_eq _ _ ff 9 P _ _ (by decide) hP7 (own_nb4 hk1) (own_nb4 hk2))) hZ (hw _ (List.mem_of_getElem? (i := 35) rfl)) (hw _ (List.mem_of_getElem? (i := 31) rfl)) (by decide) (by decide)) (g := (mkF m 453 #[.val (.long p1), .second, .val (.int p2), .val (.long p3), .second, .val (.int p4), .val (.int p5), .val (.int p6), .val (.int (Int32.ofNat k1)), .val (.int (Int32.ofNat k2)), .val (.int (Int32.ofNat P)), .val (.int ff), .val (.ref b), .val (.ref w), .val (.int (Int32.ofNat (P + own_nb k1))), .val (.int (Int32.ofNat ((P + own_nb k1) + own_nb k2))), .val (.int (Int32.ofNat (own_nb k1))), .val (.int (Int32.ofNat (own_nb k2))), .val (.long (own_low p1 k1)), .second, .val (.long (own_low p3 k2)), .second] [(.int ff), (.long (own_low p3 k2)), (.int (Int32.ofNat (own_nb k2))), (.long (own_low p1 k1)), (.int (Int32.ofNat (own_nb k1))), (.int (Int32.ofNat P)), (.int (9 : Int32)), (.ref b)])) rfl (by rw [hml]; rfl) (argsL := [(.ref b), (.int (9 : Int32)), (.int (Int32.ofNat P)), (.int (Int32.ofNat (own_nb k1))), (.long (own_low p1 k1)), (.int (Int32.ofNat (own_nb k2))), (.long (own_low p3 k2)), (.int ff)]) (rest := []) (lenOf pd_0_4 rfl) rfl (by show 2 * 0 + _ ≤ _; exact Nat.le_of_eq rfl) (hb hby at_453) (fun _ _ => ⟨rfl, e34, (by decide : 2 + 0 ≤ _), (by decide : 20 + 0 ≤ _)⟩)
  dsimp only [Pt.U, Pt.locs, Pt.cells, Pt.slots] at X35 l35 y35 z35 st35 hQ35
  rw [show k35 = 2 from y35, show n35 = 20 from z35] at X35
  obtain ⟨rfl, N35q, e35⟩ := hQ35
  have N35 : Fr n0 L35 := by rw [l35]; exact Fr.app N34 N35q
  refine own_step (st35) ?_
  show own_E p e below _ (T35.setTop (mkF m 456 #[.val (.long p1), .second, .val (.int p2), .val (.long p3), .second, .val (.int p4), .val (.int p5), .val (.int p6), .val (.int (Int32.ofNat k1)), .val (.int (Int32.ofNat k2)), .val (.int (Int32.ofNat P)), .val (.int ff), .val (.ref b), .val (.ref w), .val (.int (Int32.ofNat (P + own_nb k1))), .val (.int (Int32.ofNat ((P + own_nb k1) + own_nb k2))), .val (.int (Int32.ofNat (own_nb k1))), .val (.int (Int32.ofNat (own_nb k2))), .val (.long (own_low p1 k1)), .second, .val (.long (own_low p3 k2)), .second] [(.int (1 : Int32))]))
  refine own_step (fun _ zk => XS.ifNo X35.here hx rfl (hb hby at_456) rfl ((if0 _ _).trans (feq (by decide)).1) zk) ?_
  show own_E p e below _ (T35.setTop (mkF m 459 #[.val (.long p1), .second, .val (.int p2), .val (.long p3), .second, .val (.int p4), .val (.int p5), .val (.int p6), .val (.int (Int32.ofNat k1)), .val (.int (Int32.ofNat k2)), .val (.int (Int32.ofNat P)), .val (.int ff), .val (.ref b), .val (.ref w), .val (.int (Int32.ofNat (P + own_nb k1))), .val (.int (Int32.ofNat ((P + own_nb k1) + own_nb k2))), .val (.int (Int32.ofNat (own_nb k1))), .val (.int (Int32.ofNat (own_nb k2))), .val (.long (own_low p1 k1)), .second, .val (.long (own_low p3 k2)), .second] []))
  refine own_step (fun _ zk => XS.aload X35.here hx rfl (hb hby at_459) rfl rfl zk) ?_
  show own_E p e below _ (T35.setTop (mkF m 461 #[.val (.long p1), .second, .val (.int p2), .val (.long p3), .second, .val (.int p4), .val (.int p5), .val (.int p6), .val (.int (Int32.ofNat k1)), .val (.int (Int32.ofNat k2)), .val (.int (Int32.ofNat P)), .val (.int ff), .val (.ref b), .val (.ref w), .val (.int (Int32.ofNat (P + own_nb k1))), .val (.int (Int32.ofNat ((P + own_nb k1) + own_nb k2))), .val (.int (Int32.ofNat (own_nb k1))), .val (.int (Int32.ofNat (own_nb k2))), .val (.long (own_low p1 k1)), .second, .val (.long (own_low p3 k2)), .second] [(.ref b)]))
  refine own_step (fun _ zk => XS.bipush X35.here hx rfl (hb hby at_461) zk) ?_
  show own_E p e below _ (T35.setTop (mkF m 463 #[.val (.long p1), .second, .val (.int p2), .val (.long p3), .second, .val (.int p4), .val (.int p5), .val (.int p6), .val (.int (Int32.ofNat k1)), .val (.int (Int32.ofNat k2)), .val (.int (Int32.ofNat P)), .val (.int ff), .val (.ref b), .val (.ref w), .val (.int (Int32.ofNat (P + own_nb k1))), .val (.int (Int32.ofNat ((P + own_nb k1) + own_nb k2))), .val (.int (Int32.ofNat (own_nb k1))), .val (.int (Int32.ofNat (own_nb k2))), .val (.long (own_low p1 k1)), .second, .val (.long (own_low p3 k2)), .second] [(.int (10 : Int32)), (.ref b)]))
  refine own_step (fun _ zk => XS.iload X35.here hx rfl (hb hby at_463) rfl zk) ?_
  show own_E p e below _ (T35.setTop (mkF m 465 #[.val (.long p1), .second, .val (.int p2), .val (.long p3), .second, .val (.int p4), .val (.int p5), .val (.int p6), .val (.int (Int32.ofNat k1)), .val (.int (Int32.ofNat k2)), .val (.int (Int32.ofNat P)), .val (.int ff), .val (.ref b), .val (.ref w), .val (.int (Int32.ofNat (P + own_nb k1))), .val (.int (Int32.ofNat ((P + own_nb k1) + own_nb k2))), .val (.int (Int32.ofNat (own_nb k1))), .val (.int (Int32.ofNat (own_nb k2))), .val (.long (own_low p1 k1)), .second, .val (.long (own_low p3 k2)), .second] [(.int (Int32.ofNat P)), (.int (10 : Int32)), (.ref b)]))
  refine own_step (fun _ zk => XS.iload X35.here hx rfl (hb hby at_465) rfl zk) ?_
  show own_E p e below _ (T35.setTop (mkF m 467 #[.val (.long p1), .second, .val (.int p2), .val (.long p3), .second, .val (.int p4), .val (.int p5), .val (.int p6), .val (.int (Int32.ofNat k1)), .val (.int (Int32.ofNat k2)), .val (.int (Int32.ofNat P)), .val (.int ff), .val (.ref b), .val (.ref w), .val (.int (Int32.ofNat (P + own_nb k1))), .val (.int (Int32.ofNat ((P + own_nb k1) + own_nb k2))), .val (.int (Int32.ofNat (own_nb k1))), .val (.int (Int32.ofNat (own_nb k2))), .val (.long (own_low p1 k1)), .second, .val (.long (own_low p3 k2)), .second] [(.int (Int32.ofNat (own_nb k1))), (.int (Int32.ofNat P)), (.int (10 : Int32)), (.ref b)]))
  refine own_step (fun _ zk => Jvm.Free.XT.lload X35.here hx rfl (hb hby at_467) rfl zk) ?_
  show own_E p e below _ (T35.setTop (mkF m 469 #[.val (.long p1), .second, .val (.int p2), .val (.long p3), .second, .val (.int p4), .val (.int p5), .val (.int p6), .val (.int (Int32.ofNat k1)), .val (.int (Int32.ofNat k2)), .val (.int (Int32.ofNat P)), .val (.int ff), .val (.ref b), .val (.ref w), .val (.int (Int32.ofNat (P + own_nb k1))), .val (.int (Int32.ofNat ((P + own_nb k1) + own_nb k2))), .val (.int (Int32.ofNat (own_nb k1))), .val (.int (Int32.ofNat (own_nb k2))), .val (.long (own_low p1 k1)), .second, .val (.long (own_low p3 k2)), .second] [(.long (own_low p1 k1)), (.int (Int32.ofNat (own_nb k1))), (.int (Int32.ofNat P)), (.int (10 : Int32)), (.ref b)]))
  refine own_step (fun _ zk => XS.iload X35.here hx rfl (hb hby at_469) rfl zk) ?_
  show own_E p e below _ (T35.setTop (mkF m 471 #[.val (.long p1), .second, .val (.int p2), .val (.long p3), .second, .val (.int p4), .val (.int p5), .val (.int p6), .val (.int (Int32.ofNat k1)), .val (.int (Int32.ofNat k2)), .val (.int (Int32.ofNat P)), .val (.int ff), .val (.ref b), .val (.ref w), .val (.int (Int32.ofNat (P + own_nb k1))), .val (.int (Int32.ofNat ((P + own_nb k1) + own_nb k2))), .val (.int (Int32.ofNat (own_nb k1))), .val (.int (Int32.ofNat (own_nb k2))), .val (.long (own_low p1 k1)), .second, .val (.long (own_low p3 k2)), .second] [(.int (Int32.ofNat (own_nb k2))), (.long (own_low p1 k1)), (.int (Int32.ofNat (own_nb k1))), (.int (Int32.ofNat P)), (.int (10 : Int32)), (.ref b)]))
  refine own_step (fun _ zk => Jvm.Free.XT.lload X35.here hx rfl (hb hby at_471) rfl zk) ?_
  show own_E p e below _ (T35.setTop (mkF m 473 #[.val (.long p1), .second, .val (.int p2), .val (.long p3), .second, .val (.int p4), .val (.int p5), .val (.int p6), .val (.int (Int32.ofNat k1)), .val (.int (Int32.ofNat k2)), .val (.int (Int32.ofNat P)), .val (.int ff), .val (.ref b), .val (.ref w), .val (.int (Int32.ofNat (P + own_nb k1))), .val (.int (Int32.ofNat ((P + own_nb k1) + own_nb k2))), .val (.int (Int32.ofNat (own_nb k1))), .val (.int (Int32.ofNat (own_nb k2))), .val (.long (own_low p1 k1)), .second, .val (.long (own_low p3 k2)), .second] [(.long (own_low p3 k2)), (.int (Int32.ofNat (own_nb k2))), (.long (own_low p1 k1)), (.int (Int32.ofNat (own_nb k1))), (.int (Int32.ofNat P)), (.int (10 : Int32)), (.ref b)]))
  refine own_step (fun _ zk => XS.iload X35.here hx rfl (hb hby at_473) rfl zk) ?_
  show own_E p e below _ (T35.setTop (mkF m 475 #[.val (.long p1), .second, .val (.int p2), .val (.long p3), .second, .val (.int p4), .val (.int p5), .val (.int p6), .val (.int (Int32.ofNat k1)), .val (.int (Int32.ofNat k2)), .val (.int (Int32.ofNat P)), .val (.int ff), .val (.ref b), .val (.ref w), .val (.int (Int32.ofNat (P + own_nb k1))), .val (.int (Int32.ofNat ((P + own_nb k1) + own_nb k2))), .val (.int (Int32.ofNat (own_nb k1))), .val (.int (Int32.ofNat (own_nb k2))), .val (.long (own_low p1 k1)), .second, .val (.long (own_low p3 k2)), .second] [(.int ff), (.long (own_low p3 k2)), (.int (Int32.ofNat (own_nb k2))), (.long (own_low p1 k1)), (.int (Int32.ofNat (own_nb k1))), (.int (Int32.ofNat P)), (.int (10 : Int32)), (.ref b)]))
  obtain ⟨_, _, ⟨T36, L36, k36, n36⟩, -, X36, ⟨Lc36, hQ36, l36, y36, z36⟩, st36⟩ := Jvm.LawKit.callS X35 hx (y := (⟨"com/example/furrow/furrow/codec/BitWriterPadPinLaw", "ok", "([BIIIJIJB)Z"⟩ : MethodName)) hown (mvT hZ (hw _ (List.mem_of_getElem? (i := 33) rfl))) (mvT hZ (hw _ (List.mem_of_getElem? (i := 34) rfl))) (mvT hZ (hw _ (List.mem_of_getElem? (i := 31) rfl))) (mvT hZ (hw _ (List.mem_of_getElem? (i := 35) rfl))) (by decide) (backOf (W := 0) (rm5 l Z a0 hw [] b (10 : Int32) (Int32.ofNat P) (Int32.ofNat (own_nb k1)) (own_low p1 k1) (Int32.ofNat (own_nb k2)) (own_low p3 k2) ff (own_pat (own_low p3 k2) (P + own_nb k1) (own_nb k2) (own_pat (own_low p1 k1) P (own_nb k1) (fun _ => ff))) 10 h23 n0 (Nat.le_trans Z0 K_23.1) A23 rfl (by decide) (own_e_eq _ _ ff 10 P _ _ (by decide) hP7 (own_nb4 hk1) (own_nb4 hk2))) hZ (hw _ (List.mem_of_getElem? (i := 35) rfl)) (hw _ (List.mem_of_getElem? (i := 31) rfl)) (by decide) (by decide)) (g := (mkF m 475 #[.val (.long p1), .second, .val (.int p2), .val (.long p3), .second, .val (.int p4), .val (.int p5), .val (.int p6), .val (.int (Int32.ofNat k1)), .val (.int (Int32.ofNat k2)), .val (.int (Int32.ofNat P)), .val (.int ff), .val (.ref b), .val (.ref w), .val (.int (Int32.ofNat (P + own_nb k1))), .val (.int (Int32.ofNat ((P + own_nb k1) + own_nb k2))), .val (.int (Int32.ofNat (own_nb k1))), .val (.int (Int32.ofNat (own_nb k2))), .val (.long (own_low p1 k1)), .second, .val (.long (own_low p3 k2)), .second] [(.int ff), (.long (own_low p3 k2)), (.int (Int32.ofNat (own_nb k2))), (.long (own_low p1 k1)), (.int (Int32.ofNat (own_nb k1))), (.int (Int32.ofNat P)), (.int (10 : Int32)), (.ref b)])) rfl (by rw [hml]; rfl) (argsL := [(.ref b), (.int (10 : Int32)), (.int (Int32.ofNat P)), (.int (Int32.ofNat (own_nb k1))), (.long (own_low p1 k1)), (.int (Int32.ofNat (own_nb k2))), (.long (own_low p3 k2)), (.int ff)]) (rest := []) (lenOf pd_0_4 rfl) rfl (by show 2 * 0 + _ ≤ _; exact Nat.le_of_eq rfl) (hb hby at_475) (fun _ _ => ⟨rfl, e35, (by decide : 2 + 0 ≤ _), (by decide : 20 + 0 ≤ _)⟩)
  dsimp only [Pt.U, Pt.locs, Pt.cells, Pt.slots] at X36 l36 y36 z36 st36 hQ36
  rw [show k36 = 2 from y36, show n36 = 20 from z36] at X36
  obtain ⟨rfl, N36q, e36⟩ := hQ36
  have N36 : Fr n0 L36 := by rw [l36]; exact Fr.app N35 N36q
  refine own_step (st36) ?_
  show own_E p e below _ (T36.setTop (mkF m 478 #[.val (.long p1), .second, .val (.int p2), .val (.long p3), .second, .val (.int p4), .val (.int p5), .val (.int p6), .val (.int (Int32.ofNat k1)), .val (.int (Int32.ofNat k2)), .val (.int (Int32.ofNat P)), .val (.int ff), .val (.ref b), .val (.ref w), .val (.int (Int32.ofNat (P + own_nb k1))), .val (.int (Int32.ofNat ((P + own_nb k1) + own_nb k2))), .val (.int (Int32.ofNat (own_nb k1))), .val (.int (Int32.ofNat (own_nb k2))), .val (.long (own_low p1 k1)), .second, .val (.long (own_low p3 k2)), .second] [(.int (1 : Int32))]))
  refine own_step (fun _ zk => XS.ifNo X36.here hx rfl (hb hby at_478) rfl ((if0 _ _).trans (feq (by decide)).1) zk) ?_
  show own_E p e below _ (T36.setTop (mkF m 481 #[.val (.long p1), .second, .val (.int p2), .val (.long p3), .second, .val (.int p4), .val (.int p5), .val (.int p6), .val (.int (Int32.ofNat k1)), .val (.int (Int32.ofNat k2)), .val (.int (Int32.ofNat P)), .val (.int ff), .val (.ref b), .val (.ref w), .val (.int (Int32.ofNat (P + own_nb k1))), .val (.int (Int32.ofNat ((P + own_nb k1) + own_nb k2))), .val (.int (Int32.ofNat (own_nb k1))), .val (.int (Int32.ofNat (own_nb k2))), .val (.long (own_low p1 k1)), .second, .val (.long (own_low p3 k2)), .second] []))
  refine own_step (fun _ zk => XS.aload X36.here hx rfl (hb hby at_481) rfl rfl zk) ?_
  show own_E p e below _ (T36.setTop (mkF m 483 #[.val (.long p1), .second, .val (.int p2), .val (.long p3), .second, .val (.int p4), .val (.int p5), .val (.int p6), .val (.int (Int32.ofNat k1)), .val (.int (Int32.ofNat k2)), .val (.int (Int32.ofNat P)), .val (.int ff), .val (.ref b), .val (.ref w), .val (.int (Int32.ofNat (P + own_nb k1))), .val (.int (Int32.ofNat ((P + own_nb k1) + own_nb k2))), .val (.int (Int32.ofNat (own_nb k1))), .val (.int (Int32.ofNat (own_nb k2))), .val (.long (own_low p1 k1)), .second, .val (.long (own_low p3 k2)), .second] [(.ref b)]))
  refine own_step (fun _ zk => XS.bipush X36.here hx rfl (hb hby at_483) zk) ?_
  show own_E p e below _ (T36.setTop (mkF m 485 #[.val (.long p1), .second, .val (.int p2), .val (.long p3), .second, .val (.int p4), .val (.int p5), .val (.int p6), .val (.int (Int32.ofNat k1)), .val (.int (Int32.ofNat k2)), .val (.int (Int32.ofNat P)), .val (.int ff), .val (.ref b), .val (.ref w), .val (.int (Int32.ofNat (P + own_nb k1))), .val (.int (Int32.ofNat ((P + own_nb k1) + own_nb k2))), .val (.int (Int32.ofNat (own_nb k1))), .val (.int (Int32.ofNat (own_nb k2))), .val (.long (own_low p1 k1)), .second, .val (.long (own_low p3 k2)), .second] [(.int (11 : Int32)), (.ref b)]))
  refine own_step (fun _ zk => XS.iload X36.here hx rfl (hb hby at_485) rfl zk) ?_
  show own_E p e below _ (T36.setTop (mkF m 487 #[.val (.long p1), .second, .val (.int p2), .val (.long p3), .second, .val (.int p4), .val (.int p5), .val (.int p6), .val (.int (Int32.ofNat k1)), .val (.int (Int32.ofNat k2)), .val (.int (Int32.ofNat P)), .val (.int ff), .val (.ref b), .val (.ref w), .val (.int (Int32.ofNat (P + own_nb k1))), .val (.int (Int32.ofNat ((P + own_nb k1) + own_nb k2))), .val (.int (Int32.ofNat (own_nb k1))), .val (.int (Int32.ofNat (own_nb k2))), .val (.long (own_low p1 k1)), .second, .val (.long (own_low p3 k2)), .second] [(.int (Int32.ofNat P)), (.int (11 : Int32)), (.ref b)]))
  refine own_step (fun _ zk => XS.iload X36.here hx rfl (hb hby at_487) rfl zk) ?_
  show own_E p e below _ (T36.setTop (mkF m 489 #[.val (.long p1), .second, .val (.int p2), .val (.long p3), .second, .val (.int p4), .val (.int p5), .val (.int p6), .val (.int (Int32.ofNat k1)), .val (.int (Int32.ofNat k2)), .val (.int (Int32.ofNat P)), .val (.int ff), .val (.ref b), .val (.ref w), .val (.int (Int32.ofNat (P + own_nb k1))), .val (.int (Int32.ofNat ((P + own_nb k1) + own_nb k2))), .val (.int (Int32.ofNat (own_nb k1))), .val (.int (Int32.ofNat (own_nb k2))), .val (.long (own_low p1 k1)), .second, .val (.long (own_low p3 k2)), .second] [(.int (Int32.ofNat (own_nb k1))), (.int (Int32.ofNat P)), (.int (11 : Int32)), (.ref b)]))
  refine own_step (fun _ zk => Jvm.Free.XT.lload X36.here hx rfl (hb hby at_489) rfl zk) ?_
  show own_E p e below _ (T36.setTop (mkF m 491 #[.val (.long p1), .second, .val (.int p2), .val (.long p3), .second, .val (.int p4), .val (.int p5), .val (.int p6), .val (.int (Int32.ofNat k1)), .val (.int (Int32.ofNat k2)), .val (.int (Int32.ofNat P)), .val (.int ff), .val (.ref b), .val (.ref w), .val (.int (Int32.ofNat (P + own_nb k1))), .val (.int (Int32.ofNat ((P + own_nb k1) + own_nb k2))), .val (.int (Int32.ofNat (own_nb k1))), .val (.int (Int32.ofNat (own_nb k2))), .val (.long (own_low p1 k1)), .second, .val (.long (own_low p3 k2)), .second] [(.long (own_low p1 k1)), (.int (Int32.ofNat (own_nb k1))), (.int (Int32.ofNat P)), (.int (11 : Int32)), (.ref b)]))
  refine own_step (fun _ zk => XS.iload X36.here hx rfl (hb hby at_491) rfl zk) ?_
  show own_E p e below _ (T36.setTop (mkF m 493 #[.val (.long p1), .second, .val (.int p2), .val (.long p3), .second, .val (.int p4), .val (.int p5), .val (.int p6), .val (.int (Int32.ofNat k1)), .val (.int (Int32.ofNat k2)), .val (.int (Int32.ofNat P)), .val (.int ff), .val (.ref b), .val (.ref w), .val (.int (Int32.ofNat (P + own_nb k1))), .val (.int (Int32.ofNat ((P + own_nb k1) + own_nb k2))), .val (.int (Int32.ofNat (own_nb k1))), .val (.int (Int32.ofNat (own_nb k2))), .val (.long (own_low p1 k1)), .second, .val (.long (own_low p3 k2)), .second] [(.int (Int32.ofNat (own_nb k2))), (.long (own_low p1 k1)), (.int (Int32.ofNat (own_nb k1))), (.int (Int32.ofNat P)), (.int (11 : Int32)), (.ref b)]))
  refine own_step (fun _ zk => Jvm.Free.XT.lload X36.here hx rfl (hb hby at_493) rfl zk) ?_
  show own_E p e below _ (T36.setTop (mkF m 495 #[.val (.long p1), .second, .val (.int p2), .val (.long p3), .second, .val (.int p4), .val (.int p5), .val (.int p6), .val (.int (Int32.ofNat k1)), .val (.int (Int32.ofNat k2)), .val (.int (Int32.ofNat P)), .val (.int ff), .val (.ref b), .val (.ref w), .val (.int (Int32.ofNat (P + own_nb k1))), .val (.int (Int32.ofNat ((P + own_nb k1) + own_nb k2))), .val (.int (Int32.ofNat (own_nb k1))), .val (.int (Int32.ofNat (own_nb k2))), .val (.long (own_low p1 k1)), .second, .val (.long (own_low p3 k2)), .second] [(.long (own_low p3 k2)), (.int (Int32.ofNat (own_nb k2))), (.long (own_low p1 k1)), (.int (Int32.ofNat (own_nb k1))), (.int (Int32.ofNat P)), (.int (11 : Int32)), (.ref b)]))
  refine own_step (fun _ zk => XS.iload X36.here hx rfl (hb hby at_495) rfl zk) ?_
  show own_E p e below _ (T36.setTop (mkF m 497 #[.val (.long p1), .second, .val (.int p2), .val (.long p3), .second, .val (.int p4), .val (.int p5), .val (.int p6), .val (.int (Int32.ofNat k1)), .val (.int (Int32.ofNat k2)), .val (.int (Int32.ofNat P)), .val (.int ff), .val (.ref b), .val (.ref w), .val (.int (Int32.ofNat (P + own_nb k1))), .val (.int (Int32.ofNat ((P + own_nb k1) + own_nb k2))), .val (.int (Int32.ofNat (own_nb k1))), .val (.int (Int32.ofNat (own_nb k2))), .val (.long (own_low p1 k1)), .second, .val (.long (own_low p3 k2)), .second] [(.int ff), (.long (own_low p3 k2)), (.int (Int32.ofNat (own_nb k2))), (.long (own_low p1 k1)), (.int (Int32.ofNat (own_nb k1))), (.int (Int32.ofNat P)), (.int (11 : Int32)), (.ref b)]))
  obtain ⟨_, _, ⟨T37, L37, k37, n37⟩, -, X37, ⟨Lc37, hQ37, l37, y37, z37⟩, st37⟩ := Jvm.LawKit.callS X36 hx (y := (⟨"com/example/furrow/furrow/codec/BitWriterPadPinLaw", "ok", "([BIIIJIJB)Z"⟩ : MethodName)) hown (mvT hZ (hw _ (List.mem_of_getElem? (i := 33) rfl))) (mvT hZ (hw _ (List.mem_of_getElem? (i := 34) rfl))) (mvT hZ (hw _ (List.mem_of_getElem? (i := 31) rfl))) (mvT hZ (hw _ (List.mem_of_getElem? (i := 35) rfl))) (by decide) (backOf (W := 0) (rm5 l Z a0 hw [] b (11 : Int32) (Int32.ofNat P) (Int32.ofNat (own_nb k1)) (own_low p1 k1) (Int32.ofNat (own_nb k2)) (own_low p3 k2) ff (own_pat (own_low p3 k2) (P + own_nb k1) (own_nb k2) (own_pat (own_low p1 k1) P (own_nb k1) (fun _ => ff))) 11 h23 n0 (Nat.le_trans Z0 K_23.1) A23 rfl (by decide) (own_e_eq _ _ ff 11 P _ _ (by decide) hP7 (own_nb4 hk1) (own_nb4 hk2))) hZ (hw _ (List.mem_of_getElem? (i := 35) rfl)) (hw _ (List.mem_of_getElem? (i := 31) rfl)) (by decide) (by decide)) (g := (mkF m 497 #[.val (.long p1), .second, .val (.int p2), .val (.long p3), .second, .val (.int p4), .val (.int p5), .val (.int p6), .val (.int (Int32.ofNat k1)), .val (.int (Int32.ofNat k2)), .val (.int (Int32.ofNat P)), .val (.int ff), .val (.ref b), .val (.ref w), .val (.int (Int32.ofNat (P + own_nb k1))), .val (.int (Int32.ofNat ((P + own_nb k1) + own_nb k2))), .val (.int (Int32.ofNat (own_nb k1))), .val (.int (Int32.ofNat (own_nb k2))), .val (.long (own_low p1 k1)), .second, .val (.long (own_low p3 k2)), .second] [(.int ff), (.long (own_low p3 k2)), (.int (Int32.ofNat (own_nb k2))), (.long (own_low p1 k1)), (.int (Int32.ofNat (own_nb k1))), (.int (Int32.ofNat P)), (.int (11 : Int32)), (.ref b)])) rfl (by rw [hml]; rfl) (argsL := [(.ref b), (.int (11 : Int32)), (.int (Int32.ofNat P)), (.int (Int32.ofNat (own_nb k1))), (.long (own_low p1 k1)), (.int (Int32.ofNat (own_nb k2))), (.long (own_low p3 k2)), (.int ff)]) (rest := []) (lenOf pd_0_4 rfl) rfl (by show 2 * 0 + _ ≤ _; exact Nat.le_of_eq rfl) (hb hby at_497) (fun _ _ => ⟨rfl, e36, (by decide : 2 + 0 ≤ _), (by decide : 20 + 0 ≤ _)⟩)
  dsimp only [Pt.U, Pt.locs, Pt.cells, Pt.slots] at X37 l37 y37 z37 st37 hQ37
  rw [show k37 = 2 from y37, show n37 = 20 from z37] at X37
  obtain ⟨rfl, N37q, e37⟩ := hQ37
  have N37 : Fr n0 L37 := by rw [l37]; exact Fr.app N36 N37q
  refine own_step (st37) ?_
  show own_E p e below _ (T37.setTop (mkF m 500 #[.val (.long p1), .second, .val (.int p2), .val (.long p3), .second, .val (.int p4), .val (.int p5), .val (.int p6), .val (.int (Int32.ofNat k1)), .val (.int (Int32.ofNat k2)), .val (.int (Int32.ofNat P)), .val (.int ff), .val (.ref b), .val (.ref w), .val (.int (Int32.ofNat (P + own_nb k1))), .val (.int (Int32.ofNat ((P + own_nb k1) + own_nb k2))), .val (.int (Int32.ofNat (own_nb k1))), .val (.int (Int32.ofNat (own_nb k2))), .val (.long (own_low p1 k1)), .second, .val (.long (own_low p3 k2)), .second] [(.int (1 : Int32))]))
  refine own_step (fun _ zk => XS.ifNo X37.here hx rfl (hb hby at_500) rfl ((if0 _ _).trans (feq (by decide)).1) zk) ?_
  show own_E p e below _ (T37.setTop (mkF m 503 #[.val (.long p1), .second, .val (.int p2), .val (.long p3), .second, .val (.int p4), .val (.int p5), .val (.int p6), .val (.int (Int32.ofNat k1)), .val (.int (Int32.ofNat k2)), .val (.int (Int32.ofNat P)), .val (.int ff), .val (.ref b), .val (.ref w), .val (.int (Int32.ofNat (P + own_nb k1))), .val (.int (Int32.ofNat ((P + own_nb k1) + own_nb k2))), .val (.int (Int32.ofNat (own_nb k1))), .val (.int (Int32.ofNat (own_nb k2))), .val (.long (own_low p1 k1)), .second, .val (.long (own_low p3 k2)), .second] []))
  refine own_step (fun _ zk => XS.aload X37.here hx rfl (hb hby at_503) rfl rfl zk) ?_
  show own_E p e below _ (T37.setTop (mkF m 505 #[.val (.long p1), .second, .val (.int p2), .val (.long p3), .second, .val (.int p4), .val (.int p5), .val (.int p6), .val (.int (Int32.ofNat k1)), .val (.int (Int32.ofNat k2)), .val (.int (Int32.ofNat P)), .val (.int ff), .val (.ref b), .val (.ref w), .val (.int (Int32.ofNat (P + own_nb k1))), .val (.int (Int32.ofNat ((P + own_nb k1) + own_nb k2))), .val (.int (Int32.ofNat (own_nb k1))), .val (.int (Int32.ofNat (own_nb k2))), .val (.long (own_low p1 k1)), .second, .val (.long (own_low p3 k2)), .second] [(.ref b)]))
  refine own_step (fun _ zk => XS.bipush X37.here hx rfl (hb hby at_505) zk) ?_
  show own_E p e below _ (T37.setTop (mkF m 507 #[.val (.long p1), .second, .val (.int p2), .val (.long p3), .second, .val (.int p4), .val (.int p5), .val (.int p6), .val (.int (Int32.ofNat k1)), .val (.int (Int32.ofNat k2)), .val (.int (Int32.ofNat P)), .val (.int ff), .val (.ref b), .val (.ref w), .val (.int (Int32.ofNat (P + own_nb k1))), .val (.int (Int32.ofNat ((P + own_nb k1) + own_nb k2))), .val (.int (Int32.ofNat (own_nb k1))), .val (.int (Int32.ofNat (own_nb k2))), .val (.long (own_low p1 k1)), .second, .val (.long (own_low p3 k2)), .second] [(.int (12 : Int32)), (.ref b)]))
  refine own_step (fun _ zk => XS.iload X37.here hx rfl (hb hby at_507) rfl zk) ?_
  show own_E p e below _ (T37.setTop (mkF m 509 #[.val (.long p1), .second, .val (.int p2), .val (.long p3), .second, .val (.int p4), .val (.int p5), .val (.int p6), .val (.int (Int32.ofNat k1)), .val (.int (Int32.ofNat k2)), .val (.int (Int32.ofNat P)), .val (.int ff), .val (.ref b), .val (.ref w), .val (.int (Int32.ofNat (P + own_nb k1))), .val (.int (Int32.ofNat ((P + own_nb k1) + own_nb k2))), .val (.int (Int32.ofNat (own_nb k1))), .val (.int (Int32.ofNat (own_nb k2))), .val (.long (own_low p1 k1)), .second, .val (.long (own_low p3 k2)), .second] [(.int (Int32.ofNat P)), (.int (12 : Int32)), (.ref b)]))
  refine own_step (fun _ zk => XS.iload X37.here hx rfl (hb hby at_509) rfl zk) ?_
  show own_E p e below _ (T37.setTop (mkF m 511 #[.val (.long p1), .second, .val (.int p2), .val (.long p3), .second, .val (.int p4), .val (.int p5), .val (.int p6), .val (.int (Int32.ofNat k1)), .val (.int (Int32.ofNat k2)), .val (.int (Int32.ofNat P)), .val (.int ff), .val (.ref b), .val (.ref w), .val (.int (Int32.ofNat (P + own_nb k1))), .val (.int (Int32.ofNat ((P + own_nb k1) + own_nb k2))), .val (.int (Int32.ofNat (own_nb k1))), .val (.int (Int32.ofNat (own_nb k2))), .val (.long (own_low p1 k1)), .second, .val (.long (own_low p3 k2)), .second] [(.int (Int32.ofNat (own_nb k1))), (.int (Int32.ofNat P)), (.int (12 : Int32)), (.ref b)]))
  refine own_step (fun _ zk => Jvm.Free.XT.lload X37.here hx rfl (hb hby at_511) rfl zk) ?_
  show own_E p e below _ (T37.setTop (mkF m 513 #[.val (.long p1), .second, .val (.int p2), .val (.long p3), .second, .val (.int p4), .val (.int p5), .val (.int p6), .val (.int (Int32.ofNat k1)), .val (.int (Int32.ofNat k2)), .val (.int (Int32.ofNat P)), .val (.int ff), .val (.ref b), .val (.ref w), .val (.int (Int32.ofNat (P + own_nb k1))), .val (.int (Int32.ofNat ((P + own_nb k1) + own_nb k2))), .val (.int (Int32.ofNat (own_nb k1))), .val (.int (Int32.ofNat (own_nb k2))), .val (.long (own_low p1 k1)), .second, .val (.long (own_low p3 k2)), .second] [(.long (own_low p1 k1)), (.int (Int32.ofNat (own_nb k1))), (.int (Int32.ofNat P)), (.int (12 : Int32)), (.ref b)]))
  refine own_step (fun _ zk => XS.iload X37.here hx rfl (hb hby at_513) rfl zk) ?_
  show own_E p e below _ (T37.setTop (mkF m 515 #[.val (.long p1), .second, .val (.int p2), .val (.long p3), .second, .val (.int p4), .val (.int p5), .val (.int p6), .val (.int (Int32.ofNat k1)), .val (.int (Int32.ofNat k2)), .val (.int (Int32.ofNat P)), .val (.int ff), .val (.ref b), .val (.ref w), .val (.int (Int32.ofNat (P + own_nb k1))), .val (.int (Int32.ofNat ((P + own_nb k1) + own_nb k2))), .val (.int (Int32.ofNat (own_nb k1))), .val (.int (Int32.ofNat (own_nb k2))), .val (.long (own_low p1 k1)), .second, .val (.long (own_low p3 k2)), .second] [(.int (Int32.ofNat (own_nb k2))), (.long (own_low p1 k1)), (.int (Int32.ofNat (own_nb k1))), (.int (Int32.ofNat P)), (.int (12 : Int32)), (.ref b)]))
  refine own_step (fun _ zk => Jvm.Free.XT.lload X37.here hx rfl (hb hby at_515) rfl zk) ?_
  show own_E p e below _ (T37.setTop (mkF m 517 #[.val (.long p1), .second, .val (.int p2), .val (.long p3), .second, .val (.int p4), .val (.int p5), .val (.int p6), .val (.int (Int32.ofNat k1)), .val (.int (Int32.ofNat k2)), .val (.int (Int32.ofNat P)), .val (.int ff), .val (.ref b), .val (.ref w), .val (.int (Int32.ofNat (P + own_nb k1))), .val (.int (Int32.ofNat ((P + own_nb k1) + own_nb k2))), .val (.int (Int32.ofNat (own_nb k1))), .val (.int (Int32.ofNat (own_nb k2))), .val (.long (own_low p1 k1)), .second, .val (.long (own_low p3 k2)), .second] [(.long (own_low p3 k2)), (.int (Int32.ofNat (own_nb k2))), (.long (own_low p1 k1)), (.int (Int32.ofNat (own_nb k1))), (.int (Int32.ofNat P)), (.int (12 : Int32)), (.ref b)]))
  refine own_step (fun _ zk => XS.iload X37.here hx rfl (hb hby at_517) rfl zk) ?_
  show own_E p e below _ (T37.setTop (mkF m 519 #[.val (.long p1), .second, .val (.int p2), .val (.long p3), .second, .val (.int p4), .val (.int p5), .val (.int p6), .val (.int (Int32.ofNat k1)), .val (.int (Int32.ofNat k2)), .val (.int (Int32.ofNat P)), .val (.int ff), .val (.ref b), .val (.ref w), .val (.int (Int32.ofNat (P + own_nb k1))), .val (.int (Int32.ofNat ((P + own_nb k1) + own_nb k2))), .val (.int (Int32.ofNat (own_nb k1))), .val (.int (Int32.ofNat (own_nb k2))), .val (.long (own_low p1 k1)), .second, .val (.long (own_low p3 k2)), .second] [(.int ff), (.long (own_low p3 k2)), (.int (Int32.ofNat (own_nb k2))), (.long (own_low p1 k1)), (.int (Int32.ofNat (own_nb k1))), (.int (Int32.ofNat P)), (.int (12 : Int32)), (.ref b)]))
  obtain ⟨_, _, ⟨T38, L38, k38, n38⟩, -, X38, ⟨Lc38, hQ38, l38, y38, z38⟩, st38⟩ := Jvm.LawKit.callS X37 hx (y := (⟨"com/example/furrow/furrow/codec/BitWriterPadPinLaw", "ok", "([BIIIJIJB)Z"⟩ : MethodName)) hown (mvT hZ (hw _ (List.mem_of_getElem? (i := 33) rfl))) (mvT hZ (hw _ (List.mem_of_getElem? (i := 34) rfl))) (mvT hZ (hw _ (List.mem_of_getElem? (i := 31) rfl))) (mvT hZ (hw _ (List.mem_of_getElem? (i := 35) rfl))) (by decide) (backOf (W := 0) (rm5 l Z a0 hw [] b (12 : Int32) (Int32.ofNat P) (Int32.ofNat (own_nb k1)) (own_low p1 k1) (Int32.ofNat (own_nb k2)) (own_low p3 k2) ff (own_pat (own_low p3 k2) (P + own_nb k1) (own_nb k2) (own_pat (own_low p1 k1) P (own_nb k1) (fun _ => ff))) 12 h23 n0 (Nat.le_trans Z0 K_23.1) A23 rfl (by decide) (own_e_eq _ _ ff 12 P _ _ (by decide) hP7 (own_nb4 hk1) (own_nb4 hk2))) hZ (hw _ (List.mem_of_getElem? (i := 35) rfl)) (hw _ (List.mem_of_getElem? (i := 31) rfl)) (by decide) (by decide)) (g := (mkF m 519 #[.val (.long p1), .second, .val (.int p2), .val (.long p3), .second, .val (.int p4), .val (.int p5), .val (.int p6), .val (.int (Int32.ofNat k1)), .val (.int (Int32.ofNat k2)), .val (.int (Int32.ofNat P)), .val (.int ff), .val (.ref b), .val (.ref w), .val (.int (Int32.ofNat (P + own_nb k1))), .val (.int (Int32.ofNat ((P + own_nb k1) + own_nb k2))), .val (.int (Int32.ofNat (own_nb k1))), .val (.int (Int32.ofNat (own_nb k2))), .val (.long (own_low p1 k1)), .second, .val (.long (own_low p3 k2)), .second] [(.int ff), (.long (own_low p3 k2)), (.int (Int32.ofNat (own_nb k2))), (.long (own_low p1 k1)), (.int (Int32.ofNat (own_nb k1))), (.int (Int32.ofNat P)), (.int (12 : Int32)), (.ref b)])) rfl (by rw [hml]; rfl) (argsL := [(.ref b), (.int (12 : Int32)), (.int (Int32.ofNat P)), (.int (Int32.ofNat (own_nb k1))), (.long (own_low p1 k1)), (.int (Int32.ofNat (own_nb k2))), (.long (own_low p3 k2)), (.int ff)]) (rest := []) (lenOf pd_0_4 rfl) rfl (by show 2 * 0 + _ ≤ _; exact Nat.le_of_eq rfl) (hb hby at_519) (fun _ _ => ⟨rfl, e37, (by decide : 2 + 0 ≤ _), (by decide : 20 + 0 ≤ _)⟩)
  dsimp only [Pt.U, Pt.locs, Pt.cells, Pt.slots] at X38 l38 y38 z38 st38 hQ38
  rw [show k38 = 2 from y38, show n38 = 20 from z38] at X38
  obtain ⟨rfl, N38q, e38⟩ := hQ38
  have N38 : Fr n0 L38 := by rw [l38]; exact Fr.app N37 N38q
  refine own_step (st38) ?_
  show own_E p e below _ (T38.setTop (mkF m 522 #[.val (.long p1), .second, .val (.int p2), .val (.long p3), .second, .val (.int p4), .val (.int p5), .val (.int p6), .val (.int (Int32.ofNat k1)), .val (.int (Int32.ofNat k2)), .val (.int (Int32.ofNat P)), .val (.int ff), .val (.ref b), .val (.ref w), .val (.int (Int32.ofNat (P + own_nb k1))), .val (.int (Int32.ofNat ((P + own_nb k1) + own_nb k2))), .val (.int (Int32.ofNat (own_nb k1))), .val (.int (Int32.ofNat (own_nb k2))), .val (.long (own_low p1 k1)), .second, .val (.long (own_low p3 k2)), .second] [(.int (1 : Int32))]))
  refine own_step (fun _ zk => XS.ifNo X38.here hx rfl (hb hby at_522) rfl ((if0 _ _).trans (feq (by decide)).1) zk) ?_
  show own_E p e below _ (T38.setTop (mkF m 525 #[.val (.long p1), .second, .val (.int p2), .val (.long p3), .second, .val (.int p4), .val (.int p5), .val (.int p6), .val (.int (Int32.ofNat k1)), .val (.int (Int32.ofNat k2)), .val (.int (Int32.ofNat P)), .val (.int ff), .val (.ref b), .val (.ref w), .val (.int (Int32.ofNat (P + own_nb k1))), .val (.int (Int32.ofNat ((P + own_nb k1) + own_nb k2))), .val (.int (Int32.ofNat (own_nb k1))), .val (.int (Int32.ofNat (own_nb k2))), .val (.long (own_low p1 k1)), .second, .val (.long (own_low p3 k2)), .second] []))
  refine own_step (fun _ zk => XS.aload X38.here hx rfl (hb hby at_525) rfl rfl zk) ?_
  show own_E p e below _ (T38.setTop (mkF m 527 #[.val (.long p1), .second, .val (.int p2), .val (.long p3), .second, .val (.int p4), .val (.int p5), .val (.int p6), .val (.int (Int32.ofNat k1)), .val (.int (Int32.ofNat k2)), .val (.int (Int32.ofNat P)), .val (.int ff), .val (.ref b), .val (.ref w), .val (.int (Int32.ofNat (P + own_nb k1))), .val (.int (Int32.ofNat ((P + own_nb k1) + own_nb k2))), .val (.int (Int32.ofNat (own_nb k1))), .val (.int (Int32.ofNat (own_nb k2))), .val (.long (own_low p1 k1)), .second, .val (.long (own_low p3 k2)), .second] [(.ref b)]))
  refine own_step (fun _ zk => XS.bipush X38.here hx rfl (hb hby at_527) zk) ?_
  show own_E p e below _ (T38.setTop (mkF m 529 #[.val (.long p1), .second, .val (.int p2), .val (.long p3), .second, .val (.int p4), .val (.int p5), .val (.int p6), .val (.int (Int32.ofNat k1)), .val (.int (Int32.ofNat k2)), .val (.int (Int32.ofNat P)), .val (.int ff), .val (.ref b), .val (.ref w), .val (.int (Int32.ofNat (P + own_nb k1))), .val (.int (Int32.ofNat ((P + own_nb k1) + own_nb k2))), .val (.int (Int32.ofNat (own_nb k1))), .val (.int (Int32.ofNat (own_nb k2))), .val (.long (own_low p1 k1)), .second, .val (.long (own_low p3 k2)), .second] [(.int (13 : Int32)), (.ref b)]))
  refine own_step (fun _ zk => XS.iload X38.here hx rfl (hb hby at_529) rfl zk) ?_
  show own_E p e below _ (T38.setTop (mkF m 531 #[.val (.long p1), .second, .val (.int p2), .val (.long p3), .second, .val (.int p4), .val (.int p5), .val (.int p6), .val (.int (Int32.ofNat k1)), .val (.int (Int32.ofNat k2)), .val (.int (Int32.ofNat P)), .val (.int ff), .val (.ref b), .val (.ref w), .val (.int (Int32.ofNat (P + own_nb k1))), .val (.int (Int32.ofNat ((P + own_nb k1) + own_nb k2))), .val (.int (Int32.ofNat (own_nb k1))), .val (.int (Int32.ofNat (own_nb k2))), .val (.long (own_low p1 k1)), .second, .val (.long (own_low p3 k2)), .second] [(.int (Int32.ofNat P)), (.int (13 : Int32)), (.ref b)]))
  refine own_step (fun _ zk => XS.iload X38.here hx rfl (hb hby at_531) rfl zk) ?_
  show own_E p e below _ (T38.setTop (mkF m 533 #[.val (.long p1), .second, .val (.int p2), .val (.long p3), .second, .val (.int p4), .val (.int p5), .val (.int p6), .val (.int (Int32.ofNat k1)), .val (.int (Int32.ofNat k2)), .val (.int (Int32.ofNat P)), .val (.int ff), .val (.ref b), .val (.ref w), .val (.int (Int32.ofNat (P + own_nb k1))), .val (.int (Int32.ofNat ((P + own_nb k1) + own_nb k2))), .val (.int (Int32.ofNat (own_nb k1))), .val (.int (Int32.ofNat (own_nb k2))), .val (.long (own_low p1 k1)), .second, .val (.long (own_low p3 k2)), .second] [(.int (Int32.ofNat (own_nb k1))), (.int (Int32.ofNat P)), (.int (13 : Int32)), (.ref b)]))
  refine own_step (fun _ zk => Jvm.Free.XT.lload X38.here hx rfl (hb hby at_533) rfl zk) ?_
  show own_E p e below _ (T38.setTop (mkF m 535 #[.val (.long p1), .second, .val (.int p2), .val (.long p3), .second, .val (.int p4), .val (.int p5), .val (.int p6), .val (.int (Int32.ofNat k1)), .val (.int (Int32.ofNat k2)), .val (.int (Int32.ofNat P)), .val (.int ff), .val (.ref b), .val (.ref w), .val (.int (Int32.ofNat (P + own_nb k1))), .val (.int (Int32.ofNat ((P + own_nb k1) + own_nb k2))), .val (.int (Int32.ofNat (own_nb k1))), .val (.int (Int32.ofNat (own_nb k2))), .val (.long (own_low p1 k1)), .second, .val (.long (own_low p3 k2)), .second] [(.long (own_low p1 k1)), (.int (Int32.ofNat (own_nb k1))), (.int (Int32.ofNat P)), (.int (13 : Int32)), (.ref b)]))
  refine own_step (fun _ zk => XS.iload X38.here hx rfl (hb hby at_535) rfl zk) ?_
  show own_E p e below _ (T38.setTop (mkF m 537 #[.val (.long p1), .second, .val (.int p2), .val (.long p3), .second, .val (.int p4), .val (.int p5), .val (.int p6), .val (.int (Int32.ofNat k1)), .val (.int (Int32.ofNat k2)), .val (.int (Int32.ofNat P)), .val (.int ff), .val (.ref b), .val (.ref w), .val (.int (Int32.ofNat (P + own_nb k1))), .val (.int (Int32.ofNat ((P + own_nb k1) + own_nb k2))), .val (.int (Int32.ofNat (own_nb k1))), .val (.int (Int32.ofNat (own_nb k2))), .val (.long (own_low p1 k1)), .second, .val (.long (own_low p3 k2)), .second] [(.int (Int32.ofNat (own_nb k2))), (.long (own_low p1 k1)), (.int (Int32.ofNat (own_nb k1))), (.int (Int32.ofNat P)), (.int (13 : Int32)), (.ref b)]))
  refine own_step (fun _ zk => Jvm.Free.XT.lload X38.here hx rfl (hb hby at_537) rfl zk) ?_
  show own_E p e below _ (T38.setTop (mkF m 539 #[.val (.long p1), .second, .val (.int p2), .val (.long p3), .second, .val (.int p4), .val (.int p5), .val (.int p6), .val (.int (Int32.ofNat k1)), .val (.int (Int32.ofNat k2)), .val (.int (Int32.ofNat P)), .val (.int ff), .val (.ref b), .val (.ref w), .val (.int (Int32.ofNat (P + own_nb k1))), .val (.int (Int32.ofNat ((P + own_nb k1) + own_nb k2))), .val (.int (Int32.ofNat (own_nb k1))), .val (.int (Int32.ofNat (own_nb k2))), .val (.long (own_low p1 k1)), .second, .val (.long (own_low p3 k2)), .second] [(.long (own_low p3 k2)), (.int (Int32.ofNat (own_nb k2))), (.long (own_low p1 k1)), (.int (Int32.ofNat (own_nb k1))), (.int (Int32.ofNat P)), (.int (13 : Int32)), (.ref b)]))
  refine own_step (fun _ zk => XS.iload X38.here hx rfl (hb hby at_539) rfl zk) ?_
  show own_E p e below _ (T38.setTop (mkF m 541 #[.val (.long p1), .second, .val (.int p2), .val (.long p3), .second, .val (.int p4), .val (.int p5), .val (.int p6), .val (.int (Int32.ofNat k1)), .val (.int (Int32.ofNat k2)), .val (.int (Int32.ofNat P)), .val (.int ff), .val (.ref b), .val (.ref w), .val (.int (Int32.ofNat (P + own_nb k1))), .val (.int (Int32.ofNat ((P + own_nb k1) + own_nb k2))), .val (.int (Int32.ofNat (own_nb k1))), .val (.int (Int32.ofNat (own_nb k2))), .val (.long (own_low p1 k1)), .second, .val (.long (own_low p3 k2)), .second] [(.int ff), (.long (own_low p3 k2)), (.int (Int32.ofNat (own_nb k2))), (.long (own_low p1 k1)), (.int (Int32.ofNat (own_nb k1))), (.int (Int32.ofNat P)), (.int (13 : Int32)), (.ref b)]))
  obtain ⟨_, _, ⟨T39, L39, k39, n39⟩, -, X39, ⟨Lc39, hQ39, l39, y39, z39⟩, st39⟩ := Jvm.LawKit.callS X38 hx (y := (⟨"com/example/furrow/furrow/codec/BitWriterPadPinLaw", "ok", "([BIIIJIJB)Z"⟩ : MethodName)) hown (mvT hZ (hw _ (List.mem_of_getElem? (i := 33) rfl))) (mvT hZ (hw _ (List.mem_of_getElem? (i := 34) rfl))) (mvT hZ (hw _ (List.mem_of_getElem? (i := 31) rfl))) (mvT hZ (hw _ (List.mem_of_getElem? (i := 35) rfl))) (by decide) (backOf (W := 0) (rm5 l Z a0 hw [] b (13 : Int32) (Int32.ofNat P) (Int32.ofNat (own_nb k1)) (own_low p1 k1) (Int32.ofNat (own_nb k2)) (own_low p3 k2) ff (own_pat (own_low p3 k2) (P + own_nb k1) (own_nb k2) (own_pat (own_low p1 k1) P (own_nb k1) (fun _ => ff))) 13 h23 n0 (Nat.le_trans Z0 K_23.1) A23 rfl (by decide) (own_e_eq _ _ ff 13 P _ _ (by decide) hP7 (own_nb4 hk1) (own_nb4 hk2))) hZ (hw _ (List.mem_of_getElem? (i := 35) rfl)) (hw _ (List.mem_of_getElem? (i := 31) rfl)) (by decide) (by decide)) (g := (mkF m 541 #[.val (.long p1), .second, .val (.int p2), .val (.long p3), .second, .val (.int p4), .val (.int p5), .val (.int p6), .val (.int (Int32.ofNat k1)), .val (.int (Int32.ofNat k2)), .val (.int (Int32.ofNat P)), .val (.int ff), .val (.ref b), .val (.ref w), .val (.int (Int32.ofNat (P + own_nb k1))), .val (.int (Int32.ofNat ((P + own_nb k1) + own_nb k2))), .val (.int (Int32.ofNat (own_nb k1))), .val (.int (Int32.ofNat (own_nb k2))), .val (.long (own_low p1 k1)), .second, .val (.long (own_low p3 k2)), .second] [(.int ff), (.long (own_low p3 k2)), (.int (Int32.ofNat (own_nb k2))), (.long (own_low p1 k1)), (.int (Int32.ofNat (own_nb k1))), (.int (Int32.ofNat P)), (.int (13 : Int32)), (.ref b)])) rfl (by rw [hml]; rfl) (argsL := [(.ref b), (.int (13 : Int32)), (.int (Int32.ofNat P)), (.int (Int32.ofNat (own_nb k1))), (.long (own_low p1 k1)), (.int (Int32.ofNat (own_nb k2))), (.long (own_low p3 k2)), (.int ff)]) (rest := []) (lenOf pd_0_4 rfl) rfl (by show 2 * 0 + _ ≤ _; exact Nat.le_of_eq rfl) (hb hby at_541) (fun _ _ => ⟨rfl, e38, (by decide : 2 + 0 ≤ _), (by decide : 20 + 0 ≤ _)⟩)
  dsimp only [Pt.U, Pt.locs, Pt.cells, Pt.slots] at X39 l39 y39 z39 st39 hQ39
  rw [show k39 = 2 from y39, show n39 = 20 from z39] at X39
  obtain ⟨rfl, N39q, e39⟩ := hQ39
  have N39 : Fr n0 L39 := by rw [l39]; exact Fr.app N38 N39q
  refine own_step (st39) ?_
  show own_E p e below _ (T39.setTop (mkF m 544 #[.val (.long p1), .second, .val (.int p2), .val (.long p3), .second, .val (.int p4), .val (.int p5), .val (.int p6), .val (.int (Int32.ofNat k1)), .val (.int (Int32.ofNat k2)), .val (.int (Int32.ofNat P)), .val (.int ff), .val (.ref b), .val (.ref w), .val (.int (Int32.ofNat (P + own_nb k1))), .val (.int (Int32.ofNat ((P + own_nb k1) + own_nb k2))), .val (.int (Int32.ofNat (own_nb k1))), .val (.int (Int32.ofNat (own_nb k2))), .val (.long (own_low p1 k1)), .second, .val (.long (own_low p3 k2)), .second] [(.int (1 : Int32))]))
  refine own_step (fun _ zk => XS.ifNo X39.here hx rfl (hb hby at_544) rfl ((if0 _ _).trans (feq (by decide)).1) zk) ?_
  show own_E p e below _ (T39.setTop (mkF m 547 #[.val (.long p1), .second, .val (.int p2), .val (.long p3), .second, .val (.int p4), .val (.int p5), .val (.int p6), .val (.int (Int32.ofNat k1)), .val (.int (Int32.ofNat k2)), .val (.int (Int32.ofNat P)), .val (.int ff), .val (.ref b), .val (.ref w), .val (.int (Int32.ofNat (P + own_nb k1))), .val (.int (Int32.ofNat ((P + own_nb k1) + own_nb k2))), .val (.int (Int32.ofNat (own_nb k1))), .val (.int (Int32.ofNat (own_nb k2))), .val (.long (own_low p1 k1)), .second, .val (.long (own_low p3 k2)), .second] []))
  refine own_step (fun _ zk => XS.aload X39.here hx rfl (hb hby at_547) rfl rfl zk) ?_
  show own_E p e below _ (T39.setTop (mkF m 549 #[.val (.long p1), .second, .val (.int p2), .val (.long p3), .second, .val (.int p4), .val (.int p5), .val (.int p6), .val (.int (Int32.ofNat k1)), .val (.int (Int32.ofNat k2)), .val (.int (Int32.ofNat P)), .val (.int ff), .val (.ref b), .val (.ref w), .val (.int (Int32.ofNat (P + own_nb k1))), .val (.int (Int32.ofNat ((P + own_nb k1) + own_nb k2))), .val (.int (Int32.ofNat (own_nb k1))), .val (.int (Int32.ofNat (own_nb k2))), .val (.long (own_low p1 k1)), .second, .val (.long (own_low p3 k2)), .second] [(.ref b)]))
  refine own_step (fun _ zk => XS.bipush X39.here hx rfl (hb hby at_549) zk) ?_
  show own_E p e below _ (T39.setTop (mkF m 551 #[.val (.long p1), .second, .val (.int p2), .val (.long p3), .second, .val (.int p4), .val (.int p5), .val (.int p6), .val (.int (Int32.ofNat k1)), .val (.int (Int32.ofNat k2)), .val (.int (Int32.ofNat P)), .val (.int ff), .val (.ref b), .val (.ref w), .val (.int (Int32.ofNat (P + own_nb k1))), .val (.int (Int32.ofNat ((P + own_nb k1) + own_nb k2))), .val (.int (Int32.ofNat (own_nb k1))), .val (.int (Int32.ofNat (own_nb k2))), .val (.long (own_low p1 k1)), .second, .val (.long (own_low p3 k2)), .second] [(.int (14 : Int32)), (.ref b)]))
  refine own_step (fun _ zk => XS.iload X39.here hx rfl (hb hby at_551) rfl zk) ?_
  show own_E p e below _ (T39.setTop (mkF m 553 #[.val (.long p1), .second, .val (.int p2), .val (.long p3), .second, .val (.int p4), .val (.int p5), .val (.int p6), .val (.int (Int32.ofNat k1)), .val (.int (Int32.ofNat k2)), .val (.int (Int32.ofNat P)), .val (.int ff), .val (.ref b), .val (.ref w), .val (.int (Int32.ofNat (P + own_nb k1))), .val (.int (Int32.ofNat ((P + own_nb k1) + own_nb k2))), .val (.int (Int32.ofNat (own_nb k1))), .val (.int (Int32.ofNat (own_nb k2))), .val (.long (own_low p1 k1)), .second, .val (.long (own_low p3 k2)), .second] [(.int (Int32.ofNat P)), (.int (14 : Int32)), (.ref b)]))
  refine own_step (fun _ zk => XS.iload X39.here hx rfl (hb hby at_553) rfl zk) ?_
  show own_E p e below _ (T39.setTop (mkF m 555 #[.val (.long p1), .second, .val (.int p2), .val (.long p3), .second, .val (.int p4), .val (.int p5), .val (.int p6), .val (.int (Int32.ofNat k1)), .val (.int (Int32.ofNat k2)), .val (.int (Int32.ofNat P)), .val (.int ff), .val (.ref b), .val (.ref w), .val (.int (Int32.ofNat (P + own_nb k1))), .val (.int (Int32.ofNat ((P + own_nb k1) + own_nb k2))), .val (.int (Int32.ofNat (own_nb k1))), .val (.int (Int32.ofNat (own_nb k2))), .val (.long (own_low p1 k1)), .second, .val (.long (own_low p3 k2)), .second] [(.int (Int32.ofNat (own_nb k1))), (.int (Int32.ofNat P)), (.int (14 : Int32)), (.ref b)]))
  refine own_step (fun _ zk => Jvm.Free.XT.lload X39.here hx rfl (hb hby at_555) rfl zk) ?_
  show own_E p e below _ (T39.setTop (mkF m 557 #[.val (.long p1), .second, .val (.int p2), .val (.long p3), .second, .val (.int p4), .val (.int p5), .val (.int p6), .val (.int (Int32.ofNat k1)), .val (.int (Int32.ofNat k2)), .val (.int (Int32.ofNat P)), .val (.int ff), .val (.ref b), .val (.ref w), .val (.int (Int32.ofNat (P + own_nb k1))), .val (.int (Int32.ofNat ((P + own_nb k1) + own_nb k2))), .val (.int (Int32.ofNat (own_nb k1))), .val (.int (Int32.ofNat (own_nb k2))), .val (.long (own_low p1 k1)), .second, .val (.long (own_low p3 k2)), .second] [(.long (own_low p1 k1)), (.int (Int32.ofNat (own_nb k1))), (.int (Int32.ofNat P)), (.int (14 : Int32)), (.ref b)]))
  refine own_step (fun _ zk => XS.iload X39.here hx rfl (hb hby at_557) rfl zk) ?_
  show own_E p e below _ (T39.setTop (mkF m 559 #[.val (.long p1), .second, .val (.int p2), .val (.long p3), .second, .val (.int p4), .val (.int p5), .val (.int p6), .val (.int (Int32.ofNat k1)), .val (.int (Int32.ofNat k2)), .val (.int (Int32.ofNat P)), .val (.int ff), .val (.ref b), .val (.ref w), .val (.int (Int32.ofNat (P + own_nb k1))), .val (.int (Int32.ofNat ((P + own_nb k1) + own_nb k2))), .val (.int (Int32.ofNat (own_nb k1))), .val (.int (Int32.ofNat (own_nb k2))), .val (.long (own_low p1 k1)), .second, .val (.long (own_low p3 k2)), .second] [(.int (Int32.ofNat (own_nb k2))), (.long (own_low p1 k1)), (.int (Int32.ofNat (own_nb k1))), (.int (Int32.ofNat P)), (.int (14 : Int32)), (.ref b)]))
  refine own_step (fun _ zk => Jvm.Free.XT.lload X39.here hx rfl (hb hby at_559) rfl zk) ?_
  show own_E p e below _ (T39.setTop (mkF m 561 #[.val (.long p1), .second, .val (.int p2), .val (.long p3), .second, .val (.int p4), .val (.int p5), .val (.int p6), .val (.int (Int32.ofNat k1)), .val (.int (Int32.ofNat k2)), .val (.int (Int32.ofNat P)), .val (.int ff), .val (.ref b), .val (.ref w), .val (.int (Int32.ofNat (P + own_nb k1))), .val (.int (Int32.ofNat ((P + own_nb k1) + own_nb k2))), .val (.int (Int32.ofNat (own_nb k1))), .val (.int (Int32.ofNat (own_nb k2))), .val (.long (own_low p1 k1)), .second, .val (.long (own_low p3 k2)), .second] [(.long (own_low p3 k2)), (.int (Int32.ofNat (own_nb k2))), (.long (own_low p1 k1)), (.int (Int32.ofNat (own_nb k1))), (.int (Int32.ofNat P)), (.int (14 : Int32)), (.ref b)]))
  refine own_step (fun _ zk => XS.iload X39.here hx rfl (hb hby at_561) rfl zk) ?_
  show own_E p e below _ (T39.setTop (mkF m 563 #[.val (.long p1), .second, .val (.int p2), .val (.long p3), .second, .val (.int p4), .val (.int p5), .val (.int p6), .val (.int (Int32.ofNat k1)), .val (.int (Int32.ofNat k2)), .val (.int (Int32.ofNat P)), .val (.int ff), .val (.ref b), .val (.ref w), .val (.int (Int32.ofNat (P + own_nb k1))), .val (.int (Int32.ofNat ((P + own_nb k1) + own_nb k2))), .val (.int (Int32.ofNat (own_nb k1))), .val (.int (Int32.ofNat (own_nb k2))), .val (.long (own_low p1 k1)), .second, .val (.long (own_low p3 k2)), .second] [(.int ff), (.long (own_low p3 k2)), (.int (Int32.ofNat (own_nb k2))), (.long (own_low p1 k1)), (.int (Int32.ofNat (own_nb k1))), (.int (Int32.ofNat P)), (.int (14 : Int32)), (.ref b)]))
  obtain ⟨_, _, ⟨T40, L40, k40, n40⟩, -, X40, ⟨Lc40, hQ40, l40, y40, z40⟩, st40⟩ := Jvm.LawKit.callS X39 hx (y := (⟨"com/example/furrow/furrow/codec/BitWriterPadPinLaw", "ok", "([BIIIJIJB)Z"⟩ : MethodName)) hown (mvT hZ (hw _ (List.mem_of_getElem? (i := 33) rfl))) (mvT hZ (hw _ (List.mem_of_getElem? (i := 34) rfl))) (mvT hZ (hw _ (List.mem_of_getElem? (i := 31) rfl))) (mvT hZ (hw _ (List.mem_of_getElem? (i := 35) rfl))) (by decide) (backOf (W := 0) (rm5 l Z a0 hw [] b (14 : Int32) (Int32.ofNat P) (Int32.ofNat (own_nb k1)) (own_low p1 k1) (Int32.ofNat (own_nb k2)) (own_low p3 k2) ff (own_pat (own_low p3 k2) (P + own_nb k1) (own_nb k2) (own_pat (own_low p1 k1) P (own_nb k1) (fun _ => ff))) 14 h23 n0 (Nat.le_trans Z0 K_23.1) A23 rfl (by decide) (own_e_eq _ _ ff 14 P _ _ (by decide) hP7 (own_nb4 hk1) (own_nb4 hk2))) hZ (hw _ (List.mem_of_getElem? (i := 35) rfl)) (hw _ (List.mem_of_getElem? (i := 31) rfl)) (by decide) (by decide)) (g := (mkF m 563 #[.val (.long p1), .second, .val (.int p2), .val (.long p3), .second, .val (.int p4), .val (.int p5), .val (.int p6), .val (.int (Int32.ofNat k1)), .val (.int (Int32.ofNat k2)), .val (.int (Int32.ofNat P)), .val (.int ff), .val (.ref b), .val (.ref w), .val (.int (Int32.ofNat (P + own_nb k1))), .val (.int (Int32.ofNat ((P + own_nb k1) + own_nb k2))), .val (.int (Int32.ofNat (own_nb k1))), .val (.int (Int32.ofNat (own_nb k2))), .val (.long (own_low p1 k1)), .second, .val (.long (own_low p3 k2)), .second] [(.int ff), (.long (own_low p3 k2)), (.int (Int32.ofNat (own_nb k2))), (.long (own_low p1 k1)), (.int (Int32.ofNat (own_nb k1))), (.int (Int32.ofNat P)), (.int (14 : Int32)), (.ref b)])) rfl (by rw [hml]; rfl) (argsL := [(.ref b), (.int (14 : Int32)), (.int (Int32.ofNat P)), (.int (Int32.ofNat (own_nb k1))), (.long (own_low p1 k1)), (.int (Int32.ofNat (own_nb k2))), (.long (own_low p3 k2)), (.int ff)]) (rest := []) (lenOf pd_0_4 rfl) rfl (by show 2 * 0 + _ ≤ _; exact Nat.le_of_eq rfl) (hb hby at_563) (fun _ _ => ⟨rfl, e39, (by decide : 2 + 0 ≤ _), (by decide : 20 + 0 ≤ _)⟩)
  dsimp only [Pt.U, Pt.locs, Pt.cells, Pt.slots] at X40 l40 y40 z40 st40 hQ40
  rw [show k40 = 2 from y40, show n40 = 20 from z40] at X40
  obtain ⟨rfl, N40q, e40⟩ := hQ40
  have N40 : Fr n0 L40 := by rw [l40]; exact Fr.app N39 N40q
  refine own_step (st40) ?_
  show own_E p e below _ (T40.setTop (mkF m 566 #[.val (.long p1), .second, .val (.int p2), .val (.long p3), .second, .val (.int p4), .val (.int p5), .val (.int p6), .val (.int (Int32.ofNat k1)), .val (.int (Int32.ofNat k2)), .val (.int (Int32.ofNat P)), .val (.int ff), .val (.ref b), .val (.ref w), .val (.int (Int32.ofNat (P + own_nb k1))), .val (.int (Int32.ofNat ((P + own_nb k1) + own_nb k2))), .val (.int (Int32.ofNat (own_nb k1))), .val (.int (Int32.ofNat (own_nb k2))), .val (.long (own_low p1 k1)), .second, .val (.long (own_low p3 k2)), .second] [(.int (1 : Int32))]))
  refine own_step (fun _ zk => XS.ifNo X40.here hx rfl (hb hby at_566) rfl ((if0 _ _).trans (feq (by decide)).1) zk) ?_
  show own_E p e below _ (T40.setTop (mkF m 569 #[.val (.long p1), .second, .val (.int p2), .val (.long p3), .second, .val (.int p4), .val (.int p5), .val (.int p6), .val (.int (Int32.ofNat k1)), .val (.int (Int32.ofNat k2)), .val (.int (Int32.ofNat P)), .val (.int ff), .val (.ref b), .val (.ref w), .val (.int (Int32.ofNat (P + own_nb k1))), .val (.int (Int32.ofNat ((P + own_nb k1) + own_nb k2))), .val (.int (Int32.ofNat (own_nb k1))), .val (.int (Int32.ofNat (own_nb k2))), .val (.long (own_low p1 k1)), .second, .val (.long (own_low p3 k2)), .second] []))
  refine own_step (fun _ zk => XS.aload X40.here hx rfl (hb hby at_569) rfl rfl zk) ?_
  show own_E p e below _ (T40.setTop (mkF m 571 #[.val (.long p1), .second, .val (.int p2), .val (.long p3), .second, .val (.int p4), .val (.int p5), .val (.int p6), .val (.int (Int32.ofNat k1)), .val (.int (Int32.ofNat k2)), .val (.int (Int32.ofNat P)), .val (.int ff), .val (.ref b), .val (.ref w), .val (.int (Int32.ofNat (P + own_nb k1))), .val (.int (Int32.ofNat ((P + own_nb k1) + own_nb k2))), .val (.int (Int32.ofNat (own_nb k1))), .val (.int (Int32.ofNat (own_nb k2))), .val (.long (own_low p1 k1)), .second, .val (.long (own_low p3 k2)), .second] [(.ref b)]))
  refine own_step (fun _ zk => XS.bipush X40.here hx rfl (hb hby at_571) zk) ?_
  show own_E p e below _ (T40.setTop (mkF m 573 #[.val (.long p1), .second, .val (.int p2), .val (.long p3), .second, .val (.int p4), .val (.int p5), .val (.int p6), .val (.int (Int32.ofNat k1)), .val (.int (Int32.ofNat k2)), .val (.int (Int32.ofNat P)), .val (.int ff), .val (.ref b), .val (.ref w), .val (.int (Int32.ofNat (P + own_nb k1))), .val (.int (Int32.ofNat ((P + own_nb k1) + own_nb k2))), .val (.int (Int32.ofNat (own_nb k1))), .val (.int (Int32.ofNat (own_nb k2))), .val (.long (own_low p1 k1)), .second, .val (.long (own_low p3 k2)), .second] [(.int (15 : Int32)), (.ref b)]))
  refine own_step (fun _ zk => XS.iload X40.here hx rfl (hb hby at_573) rfl zk) ?_
  show own_E p e below _ (T40.setTop (mkF m 575 #[.val (.long p1), .second, .val (.int p2), .val (.long p3), .second, .val (.int p4), .val (.int p5), .val (.int p6), .val (.int (Int32.ofNat k1)), .val (.int (Int32.ofNat k2)), .val (.int (Int32.ofNat P)), .val (.int ff), .val (.ref b), .val (.ref w), .val (.int (Int32.ofNat (P + own_nb k1))), .val (.int (Int32.ofNat ((P + own_nb k1) + own_nb k2))), .val (.int (Int32.ofNat (own_nb k1))), .val (.int (Int32.ofNat (own_nb k2))), .val (.long (own_low p1 k1)), .second, .val (.long (own_low p3 k2)), .second] [(.int (Int32.ofNat P)), (.int (15 : Int32)), (.ref b)]))
  refine own_step (fun _ zk => XS.iload X40.here hx rfl (hb hby at_575) rfl zk) ?_
  show own_E p e below _ (T40.setTop (mkF m 577 #[.val (.long p1), .second, .val (.int p2), .val (.long p3), .second, .val (.int p4), .val (.int p5), .val (.int p6), .val (.int (Int32.ofNat k1)), .val (.int (Int32.ofNat k2)), .val (.int (Int32.ofNat P)), .val (.int ff), .val (.ref b), .val (.ref w), .val (.int (Int32.ofNat (P + own_nb k1))), .val (.int (Int32.ofNat ((P + own_nb k1) + own_nb k2))), .val (.int (Int32.ofNat (own_nb k1))), .val (.int (Int32.ofNat (own_nb k2))), .val (.long (own_low p1 k1)), .second, .val (.long (own_low p3 k2)), .second] [(.int (Int32.ofNat (own_nb k1))), (.int (Int32.ofNat P)), (.int (15 : Int32)), (.ref b)]))
  refine own_step (fun _ zk => Jvm.Free.XT.lload X40.here hx rfl (hb hby at_577) rfl zk) ?_
  show own_E p e below _ (T40.setTop (mkF m 579 #[.val (.long p1), .second, .val (.int p2), .val (.long p3), .second, .val (.int p4), .val (.int p5), .val (.int p6), .val (.int (Int32.ofNat k1)), .val (.int (Int32.ofNat k2)), .val (.int (Int32.ofNat P)), .val (.int ff), .val (.ref b), .val (.ref w), .val (.int (Int32.ofNat (P + own_nb k1))), .val (.int (Int32.ofNat ((P + own_nb k1) + own_nb k2))), .val (.int (Int32.ofNat (own_nb k1))), .val (.int (Int32.ofNat (own_nb k2))), .val (.long (own_low p1 k1)), .second, .val (.long (own_low p3 k2)), .second] [(.long (own_low p1 k1)), (.int (Int32.ofNat (own_nb k1))), (.int (Int32.ofNat P)), (.int (15 : Int32)), (.ref b)]))
  refine own_step (fun _ zk => XS.iload X40.here hx rfl (hb hby at_579) rfl zk) ?_
  show own_E p e below _ (T40.setTop (mkF m 581 #[.val (.long p1), .second, .val (.int p2), .val (.long p3), .second, .val (.int p4), .val (.int p5), .val (.int p6), .val (.int (Int32.ofNat k1)), .val (.int (Int32.ofNat k2)), .val (.int (Int32.ofNat P)), .val (.int ff), .val (.ref b), .val (.ref w), .val (.int (Int32.ofNat (P + own_nb k1))), .val (.int (Int32.ofNat ((P + own_nb k1) + own_nb k2))), .val (.int (Int32.ofNat (own_nb k1))), .val (.int (Int32.ofNat (own_nb k2))), .val (.long (own_low p1 k1)), .second, .val (.long (own_low p3 k2)), .second] [(.int (Int32.ofNat (own_nb k2))), (.long (own_low p1 k1)), (.int (Int32.ofNat (own_nb k1))), (.int (Int32.ofNat P)), (.int (15 : Int32)), (.ref b)]))
  refine own_step (fun _ zk => Jvm.Free.XT.lload X40.here hx rfl (hb hby at_581) rfl zk) ?_
  show own_E p e below _ (T40.setTop (mkF m 583 #[.val (.long p1), .second, .val (.int p2), .val (.long p3), .second, .val (.int p4), .val (.int p5), .val (.int p6), .val (.int (Int32.ofNat k1)), .val (.int (Int32.ofNat k2)), .val (.int (Int32.ofNat P)), .val (.int ff), .val (.ref b), .val (.ref w), .val (.int (Int32.ofNat (P + own_nb k1))), .val (.int (Int32.ofNat ((P + own_nb k1) + own_nb k2))), .val (.int (Int32.ofNat (own_nb k1))), .val (.int (Int32.ofNat (own_nb k2))), .val (.long (own_low p1 k1)), .second, .val (.long (own_low p3 k2)), .second] [(.long (own_low p3 k2)), (.int (Int32.ofNat (own_nb k2))), (.long (own_low p1 k1)), (.int (Int32.ofNat (own_nb k1))), (.int (Int32.ofNat P)), (.int (15 : Int32)), (.ref b)]))
  refine own_step (fun _ zk => XS.iload X40.here hx rfl (hb hby at_583) rfl zk) ?_
  show own_E p e below _ (T40.setTop (mkF m 585 #[.val (.long p1), .second, .val (.int p2), .val (.long p3), .second, .val (.int p4), .val (.int p5), .val (.int p6), .val (.int (Int32.ofNat k1)), .val (.int (Int32.ofNat k2)), .val (.int (Int32.ofNat P)), .val (.int ff), .val (.ref b), .val (.ref w), .val (.int (Int32.ofNat (P + own_nb k1))), .val (.int (Int32.ofNat ((P + own_nb k1) + own_nb k2))), .val (.int (Int32.ofNat (own_nb k1))), .val (.int (Int32.ofNat (own_nb k2))), .val (.long (own_low p1 k1)), .second, .val (.long (own_low p3 k2)), .second] [(.int ff), (.long (own_low p3 k2)), (.int (Int32.ofNat (own_nb k2))), (.long (own_low p1 k1)), (.int (Int32.ofNat (own_nb k1))), (.int (Int32.ofNat P)), (.int (15 : Int32)), (.ref b)]))
  obtain ⟨_, _, ⟨T41, L41, k41, n41⟩, -, X41, ⟨Lc41, hQ41, l41, y41, z41⟩, st41⟩ := Jvm.LawKit.callS X40 hx (y := (⟨"com/example/furrow/furrow/codec/BitWriterPadPinLaw", "ok", "([BIIIJIJB)Z"⟩ : MethodName)) hown (mvT hZ (hw _ (List.mem_of_getElem? (i := 33) rfl))) (mvT hZ (hw _ (List.mem_of_getElem? (i := 34) rfl))) (mvT hZ (hw _ (List.mem_of_getElem? (i := 31) rfl))) (mvT hZ (hw _ (List.mem_of_getElem? (i := 35) rfl))) (by decide) (backOf (W := 0) (rm5 l Z a0 hw [] b (15 : Int32) (Int32.ofNat P) (Int32.ofNat (own_nb k1)) (own_low p1 k1) (Int32.ofNat (own_nb k2)) (own_low p3 k2) ff (own_pat (own_low p3 k2) (P + own_nb k1) (own_nb k2) (own_pat (own_low p1 k1) P (own_nb k1) (fun _ => ff))) 15 h23 n0 (Nat.le_trans Z0 K_23.1) A23 rfl (by decide) (own_e_eq _ _ ff 15 P _ _ (by decide) hP7 (own_nb4 hk1) (own_nb4 hk2))) hZ (hw _ (List.mem_of_getElem? (i := 35) rfl)) (hw _ (List.mem_of_getElem? (i := 31) rfl)) (by decide) (by decide)) (g := (mkF m 585 #[.val (.long p1), .second, .val (.int p2), .val (.long p3), .second, .val (.int p4), .val (.int p5), .val (.int p6), .val (.int (Int32.ofNat k1)), .val (.int (Int32.ofNat k2)), .val (.int (Int32.ofNat P)), .val (.int ff), .val (.ref b), .val (.ref w), .val (.int (Int32.ofNat (P + own_nb k1))), .val (.int (Int32.ofNat ((P + own_nb k1) + own_nb k2))), .val (.int (Int32.ofNat (own_nb k1))), .val (.int (Int32.ofNat (own_nb k2))), .val (.long (own_low p1 k1)), .second, .val (.long (own_low p3 k2)), .second] [(.int ff), (.long (own_low p3 k2)), (.int (Int32.ofNat (own_nb k2))), (.long (own_low p1 k1)), (.int (Int32.ofNat (own_nb k1))), (.int (Int32.ofNat P)), (.int (15 : Int32)), (.ref b)])) rfl (by rw [hml]; rfl) (argsL := [(.ref b), (.int (15 : Int32)), (.int (Int32.ofNat P)), (.int (Int32.ofNat (own_nb k1))), (.long (own_low p1 k1)), (.int (Int32.ofNat (own_nb k2))), (.long (own_low p3 k2)), (.int ff)]) (rest := []) (lenOf pd_0_4 rfl) rfl (by show 2 * 0 + _ ≤ _; exact Nat.le_of_eq rfl) (hb hby at_585) (fun _ _ => ⟨rfl, e40, (by decide : 2 + 0 ≤ _), (by decide : 20 + 0 ≤ _)⟩)
  dsimp only [Pt.U, Pt.locs, Pt.cells, Pt.slots] at X41 l41 y41 z41 st41 hQ41
  rw [show k41 = 2 from y41, show n41 = 20 from z41] at X41
  obtain ⟨rfl, N41q, e41⟩ := hQ41
  have N41 : Fr n0 L41 := by rw [l41]; exact Fr.app N40 N41q
  refine own_step (st41) ?_
  show own_E p e below _ (T41.setTop (mkF m 588 #[.val (.long p1), .second, .val (.int p2), .val (.long p3), .second, .val (.int p4), .val (.int p5), .val (.int p6), .val (.int (Int32.ofNat k1)), .val (.int (Int32.ofNat k2)), .val (.int (Int32.ofNat P)), .val (.int ff), .val (.ref b), .val (.ref w), .val (.int (Int32.ofNat (P + own_nb k1))), .val (.int (Int32.ofNat ((P + own_nb k1) + own_nb k2))), .val (.int (Int32.ofNat (own_nb k1))), .val (.int (Int32.ofNat (own_nb k2))), .val (.long (own_low p1 k1)), .second, .val (.long (own_low p3 k2)), .second] [(.int (1 : Int32))]))
  refine own_step (fun _ zk => XS.ifNo X41.here hx rfl (hb hby at_588) rfl ((if0 _ _).trans (feq (by decide)).1) zk) ?_
  show own_E p e below _ (T41.setTop (mkF m 591 #[.val (.long p1), .second, .val (.int p2), .val (.long p3), .second, .val (.int p4), .val (.int p5), .val (.int p6), .val (.int (Int32.ofNat k1)), .val (.int (Int32.ofNat k2)), .val (.int (Int32.ofNat P)), .val (.int ff), .val (.ref b), .val (.ref w), .val (.int (Int32.ofNat (P + own_nb k1))), .val (.int (Int32.ofNat ((P + own_nb k1) + own_nb k2))), .val (.int (Int32.ofNat (own_nb k1))), .val (.int (Int32.ofNat (own_nb k2))), .val (.long (own_low p1 k1)), .second, .val (.long (own_low p3 k2)), .second] []))
  refine own_step (fun _ zk => XS.iconst X41.here hx rfl (hb hby at_591) zk) ?_
  show own_E p e below _ (T41.setTop (mkF m 592 #[.val (.long p1), .second, .val (.int p2), .val (.long p3), .second, .val (.int p4), .val (.int p5), .val (.int p6), .val (.int (Int32.ofNat k1)), .val (.int (Int32.ofNat k2)), .val (.int (Int32.ofNat P)), .val (.int ff), .val (.ref b), .val (.ref w), .val (.int (Int32.ofNat (P + own_nb k1))), .val (.int (Int32.ofNat ((P + own_nb k1) + own_nb k2))), .val (.int (Int32.ofNat (own_nb k1))), .val (.int (Int32.ofNat (own_nb k2))), .val (.long (own_low p1 k1)), .second, .val (.long (own_low p3 k2)), .second] [(.int (1 : Int32))]))
  refine own_step (fun _ zk => XS.goto X41.here hx rfl (pc0 := 592) (pc' := 596) rfl (hb hby at_592) (by decide) (by decide) zk) ?_
  show own_E p e below _ (T41.setTop (mkF m 596 #[.val (.long p1), .second, .val (.int p2), .val (.long p3), .second, .val (.int p4), .val (.int p5), .val (.int p6), .val (.int (Int32.ofNat k1)), .val (.int (Int32.ofNat k2)), .val (.int (Int32.ofNat P)), .val (.int ff), .val (.ref b), .val (.ref w), .val (.int (Int32.ofNat (P + own_nb k1))), .val (.int (Int32.ofNat ((P + own_nb k1) + own_nb k2))), .val (.int (Int32.ofNat (own_nb k1))), .val (.int (Int32.ofNat (own_nb k2))), .val (.long (own_low p1 k1)), .second, .val (.long (own_low p3 k2)), .second] [(.int (1 : Int32))]))
  refine own_ret X41 hlk (v := some (.int (nar .boolean (1 : Int32)))) (fun h => by rw [Bd.returns] at h; cases h) ?_ (by decide) (by decide) (fun fs hr => retN X41 hx (t := .boolean) Bd.returns (by simp) (hb hby at_596) hr)
  show Q0 Z p1 p2 p3 p4 p5 p6 h0 n0 _ T41.heap _
  rw [e41]
  exact ⟨by decide, N41⟩
set_option maxRecDepth 65536 in
set_option maxHeartbeats 40000000 in
theorem comes_1 {Post : Tables → Env → Array Value → State → Outcome → State → Prop} (hpost : ∀ tb e args s v u, (limb_1_1.after args s (.returned v) u = true ∧ limb_1_2.after args s (.returned v) u = true ∧ True) → FrameEnd s (.returned v) u (Jvm.fieldLocs frame_1_writes args s ++ Jvm.arrayLocs frame_1_arrays args s ++ Jvm.staticLocs frame_1_statics s) 16 128 → Post tb e args s (.returned v) u) :
    ArmFor flags0 classFile x code maxLocals ret World_1 tables_1 room_1 Calls_1 rest_1 Pre_1 Post := by
  intro l hfl _ _ p e ha hc hk s m args below hf hA hF happ hP
  obtain ⟨hcalls, hrest, hpre⟩ := hP
  obtain ⟨-, -, -, hnamed, -, -, -, hat⟩ := (Spec.applies_iff hf).mp happ
  obtain ⟨hg, hn⟩ := and_e (Cond.before_iff.mp (show (Jvm.Cond.and given_1 narrow_1).before args s = true from hpre))
  obtain ⟨gc, gr0⟩ := and_e hg
  obtain ⟨gi0, gr1⟩ := and_e gr0
  obtain ⟨gi1, gr2⟩ := and_e gr1
  obtain ⟨gi2, gr3⟩ := and_e gr2
  obtain ⟨gi3, gr4⟩ := and_e gr3
  obtain ⟨gi4, gr5⟩ := and_e gr4
  have gi5 := gr5
  obtain ⟨w0, w1, w2, w3, w4, w5, rfl⟩ : ∃ w0 w1 w2 w3 w4 w5 : Value, args = #[w0, w1, w2, w3, w4, w5] := by
    have hs : args.size = 6 := by simpa [Cond.value, given_1] using gc
    obtain ⟨L⟩ := args
    match L, hs with
    | [w0, w1, w2, w3, w4, w5], _ => exact ⟨w0, w1, w2, w3, w4, w5, rfl⟩
  have hw := fun d (hd : d ∈ tables_1) => atoms_spec (ws := Jvm.Cond.code x code maxLocals ret :: tables_1) hat d (List.mem_cons_of_mem _ hd)
  obtain ⟨i0, ei0⟩ := isL_v gi0
  obtain rfl : w0 = (.long i0) := Option.some.inj ei0
  obtain ⟨i1, ei1⟩ := is_v gi1
  obtain rfl : w1 = (.int i1) := Option.some.inj ei1
  obtain ⟨i2, ei2⟩ := isL_v gi2
  obtain rfl : w2 = (.long i2) := Option.some.inj ei2
  obtain ⟨i3, ei3⟩ := is_v gi3
  obtain rfl : w3 = (.int i3) := Option.some.inj ei3
  obtain ⟨i4, ei4⟩ := is_v gi4
  obtain rfl : w4 = (.int i4) := Option.some.inj ei4
  obtain ⟨i5, ei5⟩ := is_v gi5
  obtain rfl : w5 = (.int i5) := Option.some.inj ei5
  obtain ⟨n, o, h1, h2, h3, _, L, rfl, ⟨rfl, N⟩, hq⟩ := rm0 l s _ hw tables_1 i0 i1 i2 i3 i4 i5 s.heap s.heap.size (Nat.le_refl _) p e ha hc hk s m _ below hf ((Spec.applies_iff_loose hf).mp happ).1 ⟨rfl, State.Warmed39.refl s, rfl⟩ trivial
  refine ⟨n, _, h1, h2, h3, hpost _ _ _ _ _ _ ⟨Cond.after_iff.mpr rfl, Cond.after_iff.mpr (eq_i res_at (Term.int_eval (1)) rfl), trivial⟩ ⟨hq.1, hq.2.1, (hq.2.2.sift fun y hy => Or.inr (N y hy)).mono (by decide) (by decide)⟩⟩
theorem main_1_1 : Claimed_1_1 := comes_1 fun _ _ _ _ _ _ h hF => ⟨h.1, hF⟩
theorem main_1_2 : Claimed_1_2 := comes_1 fun _ _ _ _ _ _ h hF => ⟨h.2.1, hF⟩
end Jvm.Pilot.@@N@@
namespace Jvm.Pilot.@@N@@
open Jvm Jvm.ClassFile Sem Op Lib Jvm.Free Jvm.Stand Jvm.Pilot.@@N@@.Jvm.D
/-! MADE BY PROGRAM (witnessworld.py) out of the Statement's table words and the real class files: 9 classes; the members and pool entries that the words name. The judged class is class 1, her method 3. -/
namespace start1
open Jvm.ClassFile
def u (s : String) : CpInfo := .utf8 (stringToUtf16 s)
/-- a pool by its gaps: so many unusable entries, then the entry; so many at the end -/
def gap : Nat → List CpInfo → List CpInfo
  | 0, r => r
  | n + 1, r => .unusable :: gap n r
def poolList (es : List (Nat × CpInfo)) (last : Nat) : List CpInfo := es.foldr (fun e r => gap e.1 (e.2 :: r)) (gap last [])
def pool (es : List (Nat × CpInfo)) (last : Nat) : Array CpInfo := ⟨poolList es last⟩
def fileOf (pool : Array CpInfo) (this : Nat) (attrs : Array Attribute := #[]) (ms : Array MethodInfo := #[]) (fl : Nat := 33) (sup : Nat := 0) (ifs : Array Nat := #[]) (fds : Array FieldInfo := #[]) : ClassFile where
  minorVersion := 0
  majorVersion := 65
  constantPool := pool
  accessFlags := fl
  thisClass := this
  superClass := sup
  interfaces := ifs
  fields := fds
  methods := ms
  attributes := attrs
def plain (name : String) (sup : Option ClassId) : Class where
  name := name
  kind := .ordinary
  loader := none
  accessFlags := 33
  super := sup
  interfaces := #[]
  cf := none
  fields := #[]
  methods := #[]
  instanceTypes := #[]
  staticTypes := #[]
  resolved := #[]
  callSites := []
  init := .initialized
  statics := none
  mirror := none

def pool0 : Array CpInfo := pool [(5, u "<init>"), (0, u "()V"), (1, .class_ 10), (1, u "java/lang/Object")] 113

def k0c0 : Code := { maxStack := 0, maxLocals := 1, code := object_method_1_code, exceptionTable := #[], attributes := #[] }
def k0m0 : Method := { name := "<init>", desc := "()V", sig := { parameters := [], returnType := none }, accessFlags := 1, code := some k0c0 }
/-- java/lang/Object -/
def k0 : Class := { plain "java/lang/Object" none with
  accessFlags := 33
  interfaces := #[]
  cf := some (fileOf pool0 8 #[] #[{ accessFlags := 1, nameIndex := 5, descriptorIndex := 6, attributes := #[] }] 33 0 #[] #[])
  fields := #[]
  methods := #[k0m0]
  instanceTypes := #[]
  staticTypes := #[]
  resolved := Array.replicate 124 none
  statics := none }

def pool1 : Array CpInfo := pool [(2, .class_ 4), (1, u "java/lang/Object"), (0, u "<init>"), (0, u "()V"), (0, .integer 2147483647), (0, .class_ 9), (0, u "com/example/furrow/furrow/codec/BitWriter"), (0, .methodref 8 11), (0, .nameAndType 5 12), (0, u "([BI)V"), (0, .methodref 8 14), (0, .nameAndType 15 16), (0, u "write"), (0, u "(JI)V"), (0, .methodref 8 18), (0, .nameAndType 19 20), (0, u "pad"), (0, u "()I"), (0, .methodref 22 23), (0, .class_ 24), (0, .nameAndType 25 26), (0, u "com/example/furrow/furrow/codec/BitWriterPadPinLaw"), (0, u "low"), (0, u "(JI)J"), (0, .methodref 22 28), (0, .nameAndType 29 30), (0, u "ok"), (0, u "([BIIIJIJB)Z"), (3, u "law"), (0, u "(JIJIII)Z")] 4

def k1m0 : Method := { name := "<init>", desc := "()V", sig := { parameters := [], returnType := none }, accessFlags := 1, code := none }
def k1c1 : Code := { maxStack := 4, maxLocals := 3, code := method_2_code, exceptionTable := #[], attributes := #[] }
def k1m1 : Method := { name := "low", desc := "(JI)J", sig := { parameters := [.long, .int], returnType := some .long }, accessFlags := 10, code := some k1c1 }
def k1c2 : Code := { maxStack := 5, maxLocals := 12, code := method_3_code, exceptionTable := #[], attributes := #[] }
def k1m2 : Method := { name := "ok", desc := "([BIIIJIJB)Z", sig := { parameters := [(.array .byte), .int, .int, .int, .long, .int, .long, .byte], returnType := some .boolean }, accessFlags := 10, code := some k1c2 }
def k1c3 : Code := { maxStack := 10, maxLocals := 22, code := code, exceptionTable := #[], attributes := #[] }
def k1m3 : Method := { name := "law", desc := "(JIJIII)Z", sig := { parameters := [.long, .int, .long, .int, .int, .int], returnType := some .boolean }, accessFlags := 9, code := some k1c3 }
/-- com/example/furrow/furrow/codec/BitWriterPadPinLaw -/
def k1 : Class := { plain "com/example/furrow/furrow/codec/BitWriterPadPinLaw" (some 0) with
  accessFlags := 49
  interfaces := #[]
  cf := some (fileOf pool1 22 #[] #[{ accessFlags := 1, nameIndex := 5, descriptorIndex := 6, attributes := #[] }, { accessFlags := 10, nameIndex := 25, descriptorIndex := 26, attributes := #[] }, { accessFlags := 10, nameIndex := 29, descriptorIndex := 30, attributes := #[] }, { accessFlags := 9, nameIndex := 34, descriptorIndex := 35, attributes := #[] }] 49 2 #[] #[])
  fields := #[]
  methods := #[k1m0, k1m1, k1m2, k1m3]
  instanceTypes := #[]
  staticTypes := #[]
  resolved := Array.replicate 40 none
  statics := none }

def pool2 : Array CpInfo := pool [(1, .methodref 2 3), (0, .class_ 4), (0, .nameAndType 5 6), (0, u "java/lang/Object"), (0, u "<init>"), (0, u "()V"), (0, .fieldref 8 9), (0, .class_ 10), (0, .nameAndType 11 12), (0, u "com/example/furrow/furrow/codec/BitWriter"), (0, u "output"), (0, u "[B"), (0, .fieldref 8 14), (0, .nameAndType 15 16), (0, u "position"), (0, u "I"), (0, .fieldref 8 18), (0, .nameAndType 19 20), (0, u "pending"), (0, u "J"), (0, .fieldref 8 22), (0, .nameAndType 23 16), (0, u "pendingBits"), (12, u "write"), (0, u "(JI)V"), (2, u "pad"), (0, u "()I"), (0, u "([BI)V")] 6

def k2c0 : Code := { maxStack := 2, maxLocals := 3, code := prog_24_method_1_code, exceptionTable := #[], attributes := #[] }
def k2m0 : Method := { name := "<init>", desc := "([BI)V", sig := { parameters := [(.array .byte), .int], returnType := none }, accessFlags := 0, code := some k2c0 }
def k2c1 : Code := { maxStack := 9, maxLocals := 4, code := prog_24_method_2_code, exceptionTable := #[], attributes := #[] }
def k2m1 : Method := { name := "write", desc := "(JI)V", sig := { parameters := [.long, .int], returnType := none }, accessFlags := 0, code := some k2c1 }
def k2c2 : Code := { maxStack := 5, maxLocals := 1, code := prog_24_method_3_code, exceptionTable := #[], attributes := #[] }
def k2m2 : Method := { name := "pad", desc := "()I", sig := { parameters := [], returnType := some .int }, accessFlags := 0, code := some k2c2 }
/-- com/example/furrow/furrow/codec/BitWriter -/
def k2 : Class := { plain "com/example/furrow/furrow/codec/BitWriter" (some 0) with
  accessFlags := 48
  interfaces := #[]
  cf := some (fileOf pool2 8 #[] #[{ accessFlags := 0, nameIndex := 5, descriptorIndex := 42, attributes := #[] }, { accessFlags := 0, nameIndex := 36, descriptorIndex := 37, attributes := #[] }, { accessFlags := 0, nameIndex := 40, descriptorIndex := 41, attributes := #[] }] 48 2 #[] #[{ accessFlags := 18, nameIndex := 11, descriptorIndex := 12, attributes := #[] }, { accessFlags := 2, nameIndex := 15, descriptorIndex := 16, attributes := #[] }, { accessFlags := 2, nameIndex := 19, descriptorIndex := 20, attributes := #[] }, { accessFlags := 2, nameIndex := 23, descriptorIndex := 16, attributes := #[] }])
  fields := #[{ name := "output", type := (.array .byte), accessFlags := 18, slot := 0, constantValue := 0 }, { name := "position", type := .int, accessFlags := 2, slot := 1, constantValue := 0 }, { name := "pending", type := .long, accessFlags := 2, slot := 2, constantValue := 0 }, { name := "pendingBits", type := .int, accessFlags := 2, slot := 3, constantValue := 0 }]
  methods := #[k2m0, k2m1, k2m2]
  instanceTypes := #[(.array .byte), .int, .long, .int]
  staticTypes := #[]
  resolved := Array.replicate 49 none
  statics := none }

def pool3 : Array CpInfo := pool [(1, u "java/lang/Cloneable"), (0, .class_ 1), (0, u "java/lang/Object"), (0, .class_ 3)] 3

/-- java/lang/Cloneable -/
def k3 : Class := { plain "java/lang/Cloneable" (some 0) with
  accessFlags := 1537
  interfaces := #[]
  cf := some (fileOf pool3 2 #[] #[] 1537 4 #[] #[])
  fields := #[]
  methods := #[]
  instanceTypes := #[]
  staticTypes := #[]
  resolved := Array.replicate 8 none
  statics := none }

def pool4 : Array CpInfo := pool [(1, u "java/io/Serializable"), (0, .class_ 1), (0, u "java/lang/Object"), (0, .class_ 3)] 3

/-- java/io/Serializable -/
def k4 : Class := { plain "java/io/Serializable" (some 0) with
  accessFlags := 1537
  interfaces := #[]
  cf := some (fileOf pool4 2 #[] #[] 1537 4 #[] #[])
  fields := #[]
  methods := #[]
  instanceTypes := #[]
  staticTypes := #[]
  resolved := Array.replicate 8 none
  statics := none }

/-- the primitive byte -/
def k5 : Class := { plain "byte" none with kind := .primitive 'B', accessFlags := 0x411 }
/-- [B -/
def k6 : Class := { plain "[B" (some 0) with kind := .array 5 .byte, interfaces := #[3, 4], accessFlags := 1041 }

/-- the primitive int -/
def k7 : Class := { plain "int" none with kind := .primitive 'I', accessFlags := 0x411 }
/-- [I -/
def k8 : Class := { plain "[I" (some 0) with kind := .array 7 .int, interfaces := #[3, 4], accessFlags := 1041 }

def heap : Heap := #[]
def classes : Array Class := #[k0, k1, k2, k3, k4, k5, k6, k7, k8]
def interned : List (Array UInt16 × Addr) := []
def slotsUsed : Nat := 0
def theMethod : MethodId := ⟨1, 3⟩
def args0 : Array Value := #[.long 5, .int 7, .long 9, .int 4, .int 3, .int 2]
def aboutOver (below : List Frame) : State where
  vm := { classes := classes, interned := interned.toArray }
  heap := heap
  slotsUsed := slotsUsed
  threads := #[{ frames := .invoking theMethod args0 :: below }]
def below0 : List Frame := [.native { method := ⟨0, 0⟩, args := #[] }]
def about1 : State := aboutOver below0
def p0 : Program := .bare "" "" ""
def e0 : Env := launch0.env 0 0 0
theorem w_frames : about1.frames = Frame.invoking theMethod args0 :: below0 := rfl
set_option maxRecDepth 65536 in
theorem w_args : argsFit about1.vm theMethod args0 = true := by decide +kernel
set_option maxRecDepth 65536 in
theorem w_heap : heapFits about1 = true := by decide +kernel
set_option maxRecDepth 65536 in
theorem w_runnable : about1.curStatus? = some .runnable := by decide +kernel
set_option maxRecDepth 65536 in
theorem w_alone : about1.alone = true := by decide +kernel
set_option maxRecDepth 65536 in
theorem w_named : about1.methodNamed? x = some theMethod := by decide +kernel
set_option maxRecDepth 65536 in
theorem w_hears : about1.hears theMethod below0 = true := by decide +kernel
set_option maxRecDepth 65536 in
theorem w_ripe : about1.ripe theMethod args0 below0 = true := by decide +kernel
theorem w_running : about1.status = .running := rfl
set_option maxRecDepth 65536 in
theorem w_room : about1.hasRoom e0.platform room_1 = true :=
  launch0.hasRoom_least _ room_1 (by decide +kernel) (by decide +kernel) (by decide +kernel) (by decide +kernel) (by decide +kernel) (by decide +kernel)
theorem allAtoms_all (ts : List Jvm.Cond) (a : Array Jvm.Value) (st : Jvm.State) : (allAtoms ts).before a st = ts.all (fun c => c.before a st) := by
  induction ts with
  | nil => rfl
  | cons c t ih =>
    show (Jvm.Cond.and c (allAtoms t)).before a st = _
    rw [Jvm.Cond.before_and, ih, List.all_cons]
def words1 : List Jvm.Cond := Jvm.Cond.code x code maxLocals ret :: tables_1
/-- a 'code' word, met by the world's own term for the bytes: nothing is compared byte by byte -/
theorem code_word {y : MethodName} {bytes : ByteArray} {mx : Nat} {rt : Option FieldType} {a : Array Value} {s : State} {m : MethodId} {meth : Method} {c : Code} (h1 : s.methodNamed? y = some m) (h2 : s.vm.method? m = some meth) (h3 : meth.code = some c) (h4 : c.code = bytes)
    (h5 : (c.maxLocals == mx && c.exceptionTable.isEmpty && decide (c.maxStack ≤ mostOperands) && decide (meth.sig.returnType = rt) && !meth.locks && decide (parseMethodDescriptor y.desc = some meth.sig)) = true) : (Jvm.Cond.code y bytes mx rt).before a s = true := by
  simp only [Bool.and_eq_true, beq_iff_eq, Bool.not_eq_true', decide_eq_true_eq] at h5
  obtain ⟨⟨⟨⟨⟨g1, g2⟩, g3⟩, g4⟩, g5⟩, g6⟩ := h5
  simp [Cond.before, Cond.holds, Cond.value, h1, h2, h3, h4, g1, g2, g3, g4, g5, g6]
def isCode : Jvm.Cond → Bool
  | .code _ _ _ _ => true
  | _ => false
theorem all_split {L : List Jvm.Cond} {P : Jvm.Cond → Bool} (h1 : L.all (fun c => isCode c || P c) = true) (h2 : ∀ c ∈ L.filter isCode, P c = true) : L.all P = true := by
  refine List.all_eq_true.mpr fun c hc => ?_
  have h := List.all_eq_true.mp h1 c hc
  rcases Bool.eq_false_or_eq_true (isCode c) with hi | hi
  · exact h2 c (List.mem_filter.mpr ⟨hc, hi⟩)
  · simpa [hi] using h
set_option maxRecDepth 65536 in
theorem w_c0 : (Jvm.Cond.code x code maxLocals ret).before args0 about1 = true := code_word (m := ⟨1, 3⟩) (meth := k1m3) (c := k1c3) (by decide +kernel) rfl rfl rfl (by decide +kernel)
set_option maxRecDepth 65536 in
theorem w_c1 : (Jvm.Cond.code ({ cls := "com/example/furrow/furrow/codec/BitWriter", name := "<init>", desc := "([BI)V" } : Jvm.MethodName) prog_24_method_1_code (3 : Nat) (Option.none : Option Jvm.ClassFile.FieldType)).before args0 about1 = true := code_word (m := ⟨2, 0⟩) (meth := k2m0) (c := k2c0) (by decide +kernel) rfl rfl rfl (by decide +kernel)
set_option maxRecDepth 65536 in
theorem w_c2 : (Jvm.Cond.code ({ cls := "java/lang/Object", name := "<init>", desc := "()V" } : Jvm.MethodName) object_method_1_code (1 : Nat) (Option.none : Option Jvm.ClassFile.FieldType)).before args0 about1 = true := code_word (m := ⟨0, 0⟩) (meth := k0m0) (c := k0c0) (by decide +kernel) rfl rfl rfl (by decide +kernel)
set_option maxRecDepth 65536 in
theorem w_c3 : (Jvm.Cond.code ({ cls := "com/example/furrow/furrow/codec/BitWriter", name := "write", desc := "(JI)V" } : Jvm.MethodName) prog_24_method_2_code (4 : Nat) (Option.none : Option Jvm.ClassFile.FieldType)).before args0 about1 = true := code_word (m := ⟨2, 1⟩) (meth := k2m1) (c := k2c1) (by decide +kernel) rfl rfl rfl (by decide +kernel)
set_option maxRecDepth 65536 in
theorem w_c4 : (Jvm.Cond.code ({ cls := "com/example/furrow/furrow/codec/BitWriter", name := "pad", desc := "()I" } : Jvm.MethodName) prog_24_method_3_code (1 : Nat) (Option.some Jvm.ClassFile.FieldType.int)).before args0 about1 = true := code_word (m := ⟨2, 2⟩) (meth := k2m2) (c := k2c2) (by decide +kernel) rfl rfl rfl (by decide +kernel)
set_option maxRecDepth 65536 in
theorem w_c5 : (Jvm.Cond.code ({ cls := "com/example/furrow/furrow/codec/BitWriterPadPinLaw", name := "low", desc := "(JI)J" } : Jvm.MethodName) method_2_code (3 : Nat) (Option.some Jvm.ClassFile.FieldType.long)).before args0 about1 = true := code_word (m := ⟨1, 1⟩) (meth := k1m1) (c := k1c1) (by decide +kernel) rfl rfl rfl (by decide +kernel)
set_option maxRecDepth 65536 in
theorem w_c6 : (Jvm.Cond.code ({ cls := "com/example/furrow/furrow/codec/BitWriterPadPinLaw", name := "ok", desc := "([BIIIJIJB)Z" } : Jvm.MethodName) method_3_code (12 : Nat) (Option.some Jvm.ClassFile.FieldType.boolean)).before args0 about1 = true := code_word (m := ⟨1, 2⟩) (meth := k1m2) (c := k1c2) (by decide +kernel) rfl rfl rfl (by decide +kernel)
def codes1 : List Jvm.Cond := [Jvm.Cond.code x code maxLocals ret, Jvm.Cond.code ({ cls := "com/example/furrow/furrow/codec/BitWriter", name := "<init>", desc := "([BI)V" } : Jvm.MethodName) prog_24_method_1_code (3 : Nat) (Option.none : Option Jvm.ClassFile.FieldType), Jvm.Cond.code ({ cls := "java/lang/Object", name := "<init>", desc := "()V" } : Jvm.MethodName) object_method_1_code (1 : Nat) (Option.none : Option Jvm.ClassFile.FieldType), Jvm.Cond.code ({ cls := "com/example/furrow/furrow/codec/BitWriter", name := "write", desc := "(JI)V" } : Jvm.MethodName) prog_24_method_2_code (4 : Nat) (Option.none : Option Jvm.ClassFile.FieldType), Jvm.Cond.code ({ cls := "com/example/furrow/furrow/codec/BitWriter", name := "pad", desc := "()I" } : Jvm.MethodName) prog_24_method_3_code (1 : Nat) (Option.some Jvm.ClassFile.FieldType.int), Jvm.Cond.code ({ cls := "com/example/furrow/furrow/codec/BitWriterPadPinLaw", name := "low", desc := "(JI)J" } : Jvm.MethodName) method_2_code (3 : Nat) (Option.some Jvm.ClassFile.FieldType.long), Jvm.Cond.code ({ cls := "com/example/furrow/furrow/codec/BitWriterPadPinLaw", name := "ok", desc := "([BIIIJIJB)Z" } : Jvm.MethodName) method_3_code (12 : Nat) (Option.some Jvm.ClassFile.FieldType.boolean)]
set_option maxRecDepth 65536 in
theorem codes_eq : words1.filter isCode = codes1 := rfl
theorem w_codes : ∀ c ∈ words1.filter isCode, c.before args0 about1 = true := by
  rw [codes_eq]
  intro c hc
  simp only [codes1, List.mem_cons, List.not_mem_nil, or_false] at hc
  rcases hc with rfl | rfl | rfl | rfl | rfl | rfl | rfl
  · exact w_c0
  · exact w_c1
  · exact w_c2
  · exact w_c3
  · exact w_c4
  · exact w_c5
  · exact w_c6
set_option maxRecDepth 65536 in
theorem w_t1 : (words1.take 24).all (fun c => isCode c || c.before args0 about1) = true := by decide +kernel
set_option maxRecDepth 65536 in
theorem w_t2 : (words1.drop 24).all (fun c => isCode c || c.before args0 about1) = true := by decide +kernel
theorem w_tables : (allAtoms (Jvm.Cond.code x code maxLocals ret :: tables_1)).before args0 about1 = true := by
  rw [allAtoms_all]
  show words1.all (fun c => c.before args0 about1) = true
  refine all_split ?_ w_codes
  rw [← List.take_append_drop 24 words1, List.all_append, w_t1, w_t2]
  rfl
set_option maxRecDepth 65536 in
theorem w_case : (Jvm.Cond.and given_1 narrow_1).before args0 about1 = true := by decide +kernel
theorem w_applies : (headSpec (Jvm.Cond.code x code maxLocals ret :: tables_1) room_1).applies x e0.platform about1 = true :=
  (Spec.applies_iff w_frames).mpr ⟨w_running, w_runnable, w_alone, w_named, w_hears, w_ripe, w_room, w_tables⟩
theorem atStart : AtStart classFile x code maxLocals ret World_1 tables_1 room_1 Calls_1 rest_1 Pre_1 launch0 p0 e0 about1 theMethod args0 below0 :=
  ⟨lists_1, trivial, launch0.admits_env _ _ _, launch0.least_env, fairChoices_fair.cas, fairChoices_fair.clock, w_frames, w_args, w_heap, w_applies, trivial, trivial, w_case⟩
end start1
theorem witness_1 : WitnessClaimed_1 := ⟨start1.p0, start1.e0, start1.about1, start1.theMethod, start1.args0, start1.below0, start1.atStart⟩
end Jvm.Pilot.@@N@@
